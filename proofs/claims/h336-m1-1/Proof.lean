import JvmDerived
import JvmDerived.Pilot.@@N@@Statement
import JvmDerived.Pilot.@@N@@Code
set_option linter.unusedVariables false
set_option linter.unusedSimpArgs false
namespace Jvm.Pilot.@@N@@
open Jvm Jvm.ClassFile Sem Op Lib Jvm.Free Jvm.Stand Jvm.LawKit Jvm.RoadKit Bundle Jvm.Pilot.@@N@@.Jvm.D
section Own
variable {p : Program} {l : Launch} {e : Env} {R : Room} {s : State} {m : MethodId} {args : Array Value} {below : List Frame} {meth : Method} {c : Code} {T : State} {locs : List Loc} {cells slots : Nat} {Z : State} {h h' : Heap} {a b : Addr}
/-- from the state σ the run comes to a return that meets Qk -/
def Go (p : Program) (e : Env) (below : List Frame) (s : State) (Qk : Option Value → Heap → List Loc → Prop) (C S : Nat) (σ : State) : Prop :=
  ∃ s₂ o, Steps p.tables e below σ s₂ ∧ s₂.status = .running ∧ Ended s₂ below o ∧ ∃ v L, o = .returned v ∧ Qk v s₂.heap L ∧ FrameEnd s o s₂ L C S
variable {Qk : Option Value → Heap → List Loc → Prop} {C S : Nat}
theorem Go.step {σ σ' : State} (hs : ∀ t, Steps p.tables e below σ' t → Steps p.tables e below σ t) (k : Go p e below s Qk C S σ') : Go p e below s Qk C S σ := by
  obtain ⟨s₂, o, h1, r⟩ := k
  exact ⟨s₂, o, hs _ h1, r⟩
theorem Go.retV (X : Stand p l e R s m args below meth c T locs cells slots) (hlk : meth.locks = false) (hx : p.tables.exec = Jvm.exec) {pc : Nat} {Ls : Array Slot} (hret : meth.sig.returnType = none) (hd : decode c.code pc = .ok (.return_, 1)) (hc : cells ≤ C) (hs : slots ≤ S) (hQ : Qk none T.heap locs) :
    Go p e below s Qk C S (T.setTop (mkF m pc Ls [])) := by
  obtain ⟨fs, hr, hrun, hended, hW, hsame⟩ := X.leave (v := none) (fun _ => rfl) hlk
  exact ⟨_, _, X.returnOut hx hret hd hr, hrun, hended, _, _, rfl, hQ, ⟨_, rfl⟩, hW, hsame.mono hc hs⟩
theorem Go.retW (X : Stand p l e R s m args below meth c T locs cells slots) (hlk : meth.locks = false) (hx : p.tables.exec = Jvm.exec) {pc : Nat} {Ls : Array Slot} {w : Value} {t : FieldType} {i : Instr} {rest : List Value} (hret : meth.sig.returnType = some t) (hn : narrow t w = w)
    (hi : (i = .ireturn ∧ (t = .int ∨ t = .boolean ∨ t = .byte ∨ t = .char ∨ t = .short) ∧ ∃ z, w = .int z) ∨ (i = .lreturn ∧ t = .long ∧ ∃ z, w = .long z) ∨ (i = .dreturn ∧ t = .double ∧ ∃ z, w = .double z) ∨ (i = .freturn ∧ t = .float ∧ ∃ z, w = .float z) ∨ (i = .areturn ∧ t.isReference = true ∧ w.isRef = true))
    (hd : decode c.code pc = .ok (i, 1)) (hc : cells ≤ C) (hs : slots ≤ S) (hQ : Qk (some w) T.heap locs) :
    Go p e below s Qk C S (T.setTop (mkF m pc Ls (w :: rest))) := by
  obtain ⟨fs, hr, hrun, hended, hW, hsame⟩ := X.leave (v := some w) (fun q => by rw [hret] at q; cases q) hlk
  exact ⟨_, _, retOut X hx hret hn hi hd hr, hrun, hended, _, _, rfl, hQ, ⟨_, rfl⟩, hW, hsame.mono hc hs⟩
theorem Go.retI (X : Stand p l e R s m args below meth c T locs cells slots) (hlk : meth.locks = false) (hx : p.tables.exec = Jvm.exec) {pc : Nat} {Ls : Array Slot} {z : Int32} {rest : List Value} (hret : meth.sig.returnType = some .int) (hd : decode c.code pc = .ok (.ireturn, 1)) (hc : cells ≤ C) (hs : slots ≤ S) (hQ : Qk (some (.int z)) T.heap locs) :
    Go p e below s Qk C S (T.setTop (mkF m pc Ls (.int z :: rest))) :=
  Go.retW X hlk hx hret rfl (Or.inl ⟨rfl, Or.inl rfl, z, rfl⟩) hd hc hs hQ
theorem Go.retJ (X : Stand p l e R s m args below meth c T locs cells slots) (hlk : meth.locks = false) (hx : p.tables.exec = Jvm.exec) {pc : Nat} {Ls : Array Slot} {z : Int64} {rest : List Value} (hret : meth.sig.returnType = some .long) (hd : decode c.code pc = .ok (.lreturn, 1)) (hc : cells ≤ C) (hs : slots ≤ S) (hQ : Qk (some (.long z)) T.heap locs) :
    Go p e below s Qk C S (T.setTop (mkF m pc Ls (.long z :: rest))) :=
  Go.retW X hlk hx hret rfl (Or.inr (Or.inl ⟨rfl, rfl, z, rfl⟩)) hd hc hs hQ
theorem Go.retA (X : Stand p l e R s m args below meth c T locs cells slots) (hlk : meth.locks = false) (hx : p.tables.exec = Jvm.exec) {pc : Nat} {Ls : Array Slot} {w : Value} {t : FieldType} {rest : List Value} (hret : meth.sig.returnType = some t) (hn : narrow t w = w) (ht : t.isReference = true) (hw : w.isRef = true) (hd : decode c.code pc = .ok (.areturn, 1)) (hc : cells ≤ C) (hs : slots ≤ S) (hQ : Qk (some w) T.heap locs) :
    Go p e below s Qk C S (T.setTop (mkF m pc Ls (w :: rest))) :=
  Go.retW X hlk hx hret hn (Or.inr (Or.inr (Or.inr (Or.inr ⟨rfl, ht, hw⟩)))) hd hc hs hQ
theorem Go.retN (X : Stand p l e R s m args below meth c T locs cells slots) (hlk : meth.locks = false) (hx : p.tables.exec = Jvm.exec) {pc : Nat} {Ls : Array Slot} {z : Int32} {t : FieldType} {rest : List Value} (hret : meth.sig.returnType = some t) (ht : t = .boolean ∨ t = .byte ∨ t = .char ∨ t = .short) (hd : decode c.code pc = .ok (.ireturn, 1)) (hc : cells ≤ C) (hs : slots ≤ S) (z' : Int32) (hz : nar t z = z') (hQ : Qk (some (.int z')) T.heap locs) :
    Go p e below s Qk C S (T.setTop (mkF m pc Ls (.int z :: rest))) := by
  subst hz
  obtain ⟨fs, hr, hrun, hended, hW, hsame⟩ := X.leave (v := some (.int (nar t z))) (fun q => by rw [hret] at q; cases q) hlk
  exact ⟨_, _, Jvm.RoadKit.retN X hx hret ht hd hr, hrun, hended, _, _, rfl, hQ, ⟨_, rfl⟩, hW, hsame.mono hc hs⟩
theorem own_narb {P : Prop} [Decidable P] : nar .boolean (if P then (1 : Int32) else (0 : Int32)) = (if P then (1 : Int32) else (0 : Int32)) := by split <;> rfl
theorem own_narb01 {z : Int32} (h : z = 0 ∨ z = 1) : nar .boolean z = z := by rcases h with rfl | rfl <;> rfl
/-- a function turned at one place -/
def up {α : Type} (f : Nat → α) (k : Nat) (v : α) : Nat → α := fun i => if i = k then v else f i
theorem up_same {α : Type} (f : Nat → α) (k : Nat) (v : α) : up f k v k = v := if_pos rfl
theorem up_ne {α : Type} (f : Nat → α) {k i : Nat} (v : α) (q : i ≠ k) : up f k v i = f i := if_neg q
/-- an array of n places; place i holds g i -/
def Ary (Z : State) (h : Heap) (a : Addr) (ty : FieldType) (n : Nat) (g : Nat → Value) : Prop := ∃ c : Cell, Arr Z h a c ty ∧ c.slots.size = n ∧ n < 2 ^ 31 ∧ ∀ i, i < n → c.slots[i]? = some (g i)
variable {ty : FieldType} {n : Nat} {g : Nat → Value}
theorem Ary.lt (F : Ary Z h a ty n g) : a < h.size := by obtain ⟨c, A, -⟩ := F; exact A.lt
theorem Ary.ext (F : Ary Z h a ty n g) (E : Ext h h') : Ary Z h' a ty n g := by obtain ⟨c, A, r⟩ := F; exact ⟨c, A.ext E, r⟩
theorem Ary.other {sl : Nat} {v : Value} (F : Ary Z h b ty n g) (W : Wr h h' a sl v) (q : b ≠ a) : Ary Z h' b ty n g := by obtain ⟨c, A, r⟩ := F; exact ⟨c, A.other W q, r⟩
theorem Ary.keep {ws : List Addr} (F : Ary Z h a ty n g) (K : Keep h h' ws) (q : a ∉ ws) : Ary Z h' a ty n g := by obtain ⟨c, A, r⟩ := F; exact ⟨c, ⟨K.2.1 a c A.1 q, A.2⟩, r⟩
theorem Ary.set {k : Nat} {v : Value} (F : Ary Z h a ty n g) (W : Wr h h' a k v) : Ary Z h' a ty n (up g k v) := by
  obtain ⟨c, A, S, B, H⟩ := F
  refine ⟨_, A.same W, by rw [sz_set]; exact S, B, fun i hi => ?_⟩
  by_cases q : k = i
  · subst q; rw [up_same]; simp [Cell.setSlot, S, hi]
  · rw [up_ne _ _ (Ne.symm q), ← H i hi]; simp only [Cell.setSlot]; rw [Array.getElem?_setIfInBounds_ne q]
theorem Ary.new {k : ClassId} {z : Int32} (A : Arr Z h a (newA k ty z) ty) (q : z.toInt = n) : Ary Z h a ty n (fun _ => defaultValue ty) := by
  have e1 : z.toNatClampNeg = n := by simp only [Int32.toNatClampNeg]; omega
  refine ⟨_, A, by rw [sz_new]; exact e1, ?_, fun i hi => ?_⟩
  · have := Int32.toInt_lt z; omega
  · simp [newA, e1, hi]
theorem Ary.congr {g' : Nat → Value} (F : Ary Z h a ty n g) (q : ∀ i, i < n → g i = g' i) : Ary Z h a ty n g' := by
  obtain ⟨c, A, S, B, H⟩ := F
  exact ⟨c, A, S, B, fun i hi => by rw [← q i hi]; exact H i hi⟩
abbrev AryI (Z : State) (h : Heap) (a : Addr) (ty : FieldType) (n : Nat) (g : Nat → Int32) : Prop := Ary Z h a ty n (fun i => .int (g i))
abbrev AryJ (Z : State) (h : Heap) (a : Addr) (n : Nat) (g : Nat → Int64) : Prop := Ary Z h a .long n (fun i => .long (g i))
theorem own_upI (f : Nat → Int32) (k : Nat) (v : Int32) : up (fun i => Value.int (f i)) k (.int v) = fun i => Value.int (up f k v i) := by funext i; simp only [up]; split <;> rfl
theorem own_upJ (f : Nat → Int64) (k : Nat) (v : Int64) : up (fun i => Value.long (f i)) k (.long v) = fun i => Value.long (up f k v i) := by funext i; simp only [up]; split <;> rfl
theorem Ary.setI {f : Nat → Int32} {k : Nat} {v : Int32} (F : AryI Z h a ty n f) (W : Wr h h' a k (.int v)) : AryI Z h' a ty n (up f k v) := by have r := Ary.set F W; rw [own_upI] at r; exact r
theorem Ary.setJ {f : Nat → Int64} {k : Nat} {v : Int64} (F : AryJ Z h a n f) (W : Wr h h' a k (.long v)) : AryJ Z h' a n (up f k v) := by have r := Ary.set F W; rw [own_upJ] at r; exact r
theorem own_idx {c : Cell} {j : Int32} {k : Nat} (S : c.slots.size = n) (q : j.toInt = k) (hk : k < n) : ¬ (j < 0 ∨ c.slots.size ≤ j.toNatClampNeg) ∧ j.toNatClampNeg = k := by
  have e1 : j.toNatClampNeg = k := by simp only [Int32.toNatClampNeg]; omega
  have e0 : (0 : Int32).toInt = 0 := rfl
  refine ⟨?_, e1⟩
  rw [e1, S, Int32.lt_iff_toInt_lt]; omega
theorem own_ld (X : Stand p l e R s m args below meth c T locs cells slots) (hx : p.tables.exec = Jvm.exec) (hZ : Z.Warmed39 s.vm) (eT : T.heap = h) (F : Ary Z h a ty n g) {j : Int32} (k : Nat) (q : j.toInt = k) (hk : k < n) {v : Value} (hv : g k = v) {i : Instr}
    (hi : (i = .iaload ∧ ty = .int) ∨ (i = .laload ∧ ty = .long) ∨ (i = .caload ∧ ty = .char) ∨ (i = .baload ∧ ty = .byte)) {f : JFrame} (hg : f.method = m) {rest : List Value} (hs : f.stack = .int j :: .ref a :: rest) (hd : decode c.code f.pc = .ok (i, 1)) :
    ∀ target, Steps p.tables e below (T.setTop { f with pc := f.pc + 1, stack := v :: rest }) target → Steps p.tables e below (T.setTop f) target := by
  subst hv
  obtain ⟨cl, A, S, -, H⟩ := F
  obtain ⟨hin, e1⟩ := own_idx S q hk
  have hat : cl.slots[j.toNatClampNeg]? = some (g k) := by rw [e1]; exact H k hk
  intro t kt
  rcases hi with ⟨rfl, rfl⟩ | ⟨rfl, rfl⟩ | ⟨rfl, rfl⟩ | ⟨rfl, rfl⟩
  · exact X.iaload hx (by rw [eT]; exact A.1) (State.isArrayOf_alike hZ.alike A.2.1) A.2.2 hin hat hg hs hd t kt
  · exact X.laload hx (by rw [eT]; exact A.1) (State.isArrayOf_alike hZ.alike A.2.1) A.2.2 hin hat hg hs hd t kt
  · exact X.caload hx (by rw [eT]; exact A.1) (State.isArrayOf_alike hZ.alike A.2.1) A.2.2 hin hat hg hs hd t kt
  · exact X.baloadBytes hx (by rw [eT]; exact A.1) (State.isArrayOf_alike hZ.alike A.2.1) A.2.2 hin hat hg hs hd t kt
theorem own_len (X : Stand p l e R s m args below meth c T locs cells slots) (hx : p.tables.exec = Jvm.exec) (hZ : Z.Warmed39 s.vm) (eT : T.heap = h) (F : Ary Z h a ty n g) {z : Int32} (hz : n.toInt32 = z) {f : JFrame} (hg : f.method = m) {rest : List Value} (hs : f.stack = .ref a :: rest) (hd : decode c.code f.pc = .ok (.arraylength, 1)) :
    ∀ target, Steps p.tables e below (T.setTop { f with pc := f.pc + 1, stack := .int z :: rest }) target → Steps p.tables e below (T.setTop f) target := by
  subst hz
  obtain ⟨cl, A, S, -⟩ := F
  intro t kt
  refine X.arraylength hx (by rw [eT]; exact A.1) (State.isArrayOf_alike hZ.alike A.2.1) hg hs hd t ?_
  rw [S]; exact kt
theorem own_stI (X : Stand p l e R s m args below meth c T locs cells slots) (hx : p.tables.exec = Jvm.exec) (hZ : Z.Warmed39 s.vm) (eT : T.heap = h) (F : Ary Z h a .int n g) {j x : Int32} (k : Nat) (q : j.toInt = k) (hk : k < n) {f : JFrame} (hg : f.method = m) {rest : List Value} (hs : f.stack = .int x :: .int j :: .ref a :: rest) (hd : decode c.code f.pc = .ok (.iastore, 1)) :
    ∃ T' h', Stand p l e R s m args below meth c T' (locs ++ [⟨a, k⟩]) cells slots ∧ T'.heap = h' ∧ Wr h h' a k (.int x) ∧ ∀ target, Steps p.tables e below (T'.setTop { f with pc := f.pc + 1, stack := rest }) target → Steps p.tables e below (T.setTop f) target := by
  obtain ⟨cl, A, S, -, -⟩ := F
  obtain ⟨hin, e1⟩ := own_idx S q hk
  have r := stI X hx hZ eT A hin hg hs hd
  rw [e1] at r; exact r
theorem own_stJ (X : Stand p l e R s m args below meth c T locs cells slots) (hx : p.tables.exec = Jvm.exec) (hZ : Z.Warmed39 s.vm) (eT : T.heap = h) (F : Ary Z h a .long n g) {j : Int32} {x : Int64} (k : Nat) (q : j.toInt = k) (hk : k < n) {f : JFrame} (hg : f.method = m) {rest : List Value} (hs : f.stack = .long x :: .int j :: .ref a :: rest) (hd : decode c.code f.pc = .ok (.lastore, 1)) :
    ∃ T' h', Stand p l e R s m args below meth c T' (locs ++ [⟨a, k⟩]) cells slots ∧ T'.heap = h' ∧ Wr h h' a k (.long x) ∧ ∀ target, Steps p.tables e below (T'.setTop { f with pc := f.pc + 1, stack := rest }) target → Steps p.tables e below (T.setTop f) target := by
  obtain ⟨cl, A, S, -, -⟩ := F
  obtain ⟨hin, e1⟩ := own_idx S q hk
  have r := stJ X hx hZ eT A hin hg hs hd
  rw [e1] at r; exact r
theorem own_stB (X : Stand p l e R s m args below meth c T locs cells slots) (hx : p.tables.exec = Jvm.exec) (hZ : Z.Warmed39 s.vm) (eT : T.heap = h) (F : Ary Z h a .byte n g) {j x : Int32} (k : Nat) (q : j.toInt = k) (hk : k < n) {f : JFrame} (hg : f.method = m) {rest : List Value} (hs : f.stack = .int x :: .int j :: .ref a :: rest) (hd : decode c.code f.pc = .ok (.bastore, 1)) :
    ∃ T' h', Stand p l e R s m args below meth c T' (locs ++ [⟨a, k⟩]) cells slots ∧ T'.heap = h' ∧ Wr h h' a k (.int (nar .byte x)) ∧ ∀ target, Steps p.tables e below (T'.setTop { f with pc := f.pc + 1, stack := rest }) target → Steps p.tables e below (T.setTop f) target := by
  obtain ⟨cl, A, S, -, -⟩ := F
  obtain ⟨hin, e1⟩ := own_idx S q hk
  have r := stB X hx hZ eT A hin hg hs hd
  rw [e1] at r; exact r
theorem own_stC (X : Stand p l e R s m args below meth c T locs cells slots) (hx : p.tables.exec = Jvm.exec) (hZ : Z.Warmed39 s.vm) (eT : T.heap = h) (F : Ary Z h a .char n g) {j x : Int32} (k : Nat) (q : j.toInt = k) (hk : k < n) {f : JFrame} (hg : f.method = m) {rest : List Value} (hs : f.stack = .int x :: .int j :: .ref a :: rest) (hd : decode c.code f.pc = .ok (.castore, 1)) :
    ∃ T' h', Stand p l e R s m args below meth c T' (locs ++ [⟨a, k⟩]) cells slots ∧ T'.heap = h' ∧ Wr h h' a k (.int (nar .char x)) ∧ ∀ target, Steps p.tables e below (T'.setTop { f with pc := f.pc + 1, stack := rest }) target → Steps p.tables e below (T.setTop f) target := by
  obtain ⟨cl, A, S, -, -⟩ := F
  obtain ⟨hin, e1⟩ := own_idx S q hk
  have r := stC X hx hZ eT A hin hg hs hd
  rw [e1] at r; exact r
theorem own_neA {a0 : Array Value} {k : Nat} {K : String} (F : Exa Z h a K) (wi : (Cond.instantiable K k).before a0 Z = true) (G : Ary Z h b ty n g) : a ≠ b := by
  obtain ⟨cl, A, -⟩ := G
  exact ne_arr F wi A
theorem own_selP {y : MethodName} {k : Nat} {a0 as' : Array Value} (hZ : Z.Warmed39 s.vm) (wi : (Cond.instantiable y.cls k).before a0 Z = true) (wn : (Cond.instanceMethod y).before a0 Z = true) (wp : (Cond.privateMethod y).before a0 Z = true) (hy : y.cls ≠ "java/lang/invoke/MethodHandle" ∧ y.cls ≠ "java/lang/invoke/VarHandle") : (Cond.selects y.cls y y).before as' s = true := by
  have wi' : (Cond.instantiable y.cls k).before as' s = true := mvT hZ wi
  obtain ⟨c, kc, h1, h2, -, h4, -⟩ := Cond.instantiable_spec wi'
  refine selects_self_of_private h1 h2 ?_ (Cond.privateMethod_at (mvP hZ wp (args := #[]))) (mvT hZ wn) hy
  cases hi : kc.isInterface with
  | false => rfl
  | true => rw [hi] at h4; simp at h4
/-- long comparisons -/
theorem own_lwlt {x y : Int64} (h : x < y) : lcmpW x y < 0 := (lw_lt x y).mpr h
theorem own_nlwlt {x y : Int64} (h : ¬ x < y) : ¬ lcmpW x y < 0 := fun q => h ((lw_lt x y).mp q)
theorem own_lwgt {x y : Int64} (h : y < x) : 0 < lcmpW x y := (lw_gt x y).mpr h
theorem own_nlwgt {x y : Int64} (h : ¬ y < x) : ¬ 0 < lcmpW x y := fun q => h ((lw_gt x y).mp q)
theorem own_lweq {x y : Int64} (h : x = y) : lcmpW x y = 0 := (lw_eq x y).mpr h
theorem own_nlweq {x y : Int64} (h : ¬ x = y) : ¬ lcmpW x y = 0 := fun q => h ((lw_eq x y).mp q)
end Own
theorem own_lt {x y : Int32} (h : x < y) : x.toInt < y.toInt := Int32.lt_iff_toInt_lt.mp h
theorem own_nlt {x y : Int32} (h : ¬ x < y) : ¬ x.toInt < y.toInt := fun q => h (Int32.lt_iff_toInt_lt.mpr q)
theorem own_eq {x y : Int32} (h : x = y) : x.toInt = y.toInt := by rw [h]
theorem own_neq {x y : Int32} (h : ¬ x = y) : ¬ x.toInt = y.toInt := fun q => h (Int32.toInt_inj.mp q)
theorem own_ltL {x y : Int64} (h : x < y) : x.toInt < y.toInt := Int64.lt_iff_toInt_lt.mp h
theorem own_nltL {x y : Int64} (h : ¬ x < y) : ¬ x.toInt < y.toInt := fun q => h (Int64.lt_iff_toInt_lt.mpr q)
theorem own_eqL {x y : Int64} (h : x = y) : x.toInt = y.toInt := by rw [h]
theorem own_neqL {x y : Int64} (h : ¬ x = y) : ¬ x.toInt = y.toInt := fun q => h (Int64.toInt_inj.mp q)
theorem own_rng32 (x : Int32) : -2147483648 ≤ x.toInt ∧ x.toInt ≤ 2147483647 := by
  have h1 := Int32.le_toInt x
  have h2 := Int32.toInt_lt x
  omega
theorem own_rng64 (x : Int64) : -9223372036854775808 ≤ x.toInt ∧ x.toInt ≤ 9223372036854775807 := by
  have h1 := Int64.le_toInt x
  have h2 := Int64.toInt_lt x
  omega

theorem own_ix {tv c : Int32} {kt cn : Nat} (h : tv.toInt = (kt : Int)) (hk : kt < 16) (hc : c.toInt = (cn : Int)) (hn : cn < 4) : ((tv * (4 : Int32)) + c).toInt = ((4 * kt + cn : Nat) : Int) := by
  have h1 := c_imul tv 4
  have h2 := c_iadd (tv * 4) c
  have h3 := own_rng32 ((tv * 4) + c)
  have h4 := own_rng32 (tv * 4)
  have h5 : (4 : Int32).toInt = 4 := rfl
  rw [h5] at h1
  omega
theorem own_t1 {tv : Int32} {kt : Nat} (h : tv.toInt = (kt : Int)) (hk : kt < 16) : ¬ (64 : Int32) < ((tv + (1 : Int32)) * (4 : Int32)) := by
  have h1 := c_iadd tv 1
  have h2 := c_imul (tv + 1) 4
  have h3 := own_rng32 ((tv + 1) * 4)
  have h4 := own_rng32 (tv + 1)
  have h5 : (4 : Int32).toInt = 4 := rfl
  have h6 : (1 : Int32).toInt = 1 := rfl
  have h7 : (64 : Int32).toInt = 64 := rfl
  rw [h5] at h2
  rw [Int32.lt_iff_toInt_lt]
  omega
theorem own_a0 {e l : Int64} (h : l = 0) : (e + l) = e := by rw [h]; exact Int64.add_zero _
theorem own_a1 {e l k : Int64} (h : l = k) : (e + l) = (e + k) := by rw [h]

theorem own_n64 {rn : Int32} {kr : Nat} (h : rn.toInt = (kr : Int)) (hk : kr < 64) : ¬ rn = (64 : Int32) := fun q => by
  have t := congrArg Int32.toInt q
  have e : (64 : Int32).toInt = 64 := rfl
  omega
theorem own_pp (p : Int64) : (((p - p).toInt32).toInt64) = (p - p) := by rw [Int64.sub_self]; rfl

theorem own_pd (pp : Int64) (dd : Int32) : ((((pp + (dd.toInt64)) - pp).toInt32).toInt64) = ((pp + (dd.toInt64)) - pp) := by
  have ar1 := own_rng64 (((pp + (dd.toInt64)) - pp))
  have ar2 := own_rng64 ((pp + (dd.toInt64)))
  have ar3 := own_rng64 (pp)
  have ar4 := own_rng64 ((dd.toInt64))
  have ar5 := own_rng32 (dd)
  have ar6 := c_i2l (dd)
  have ar7 := c_ladd (pp) ((dd.toInt64))
  have ar8 := c_lsub ((pp + (dd.toInt64))) (pp)
  have q : ((pp + (dd.toInt64)) - pp).toInt = dd.toInt := by omega
  have b1 := c_l2i ((pp + (dd.toInt64)) - pp)
  have b2 := own_rng32 (((pp + (dd.toInt64)) - pp).toInt32)
  have b3 := c_i2l (((pp + (dd.toInt64)) - pp).toInt32)
  apply Int64.toInt_inj.mp
  omega
theorem d1_0 : decode prog_211_method_1_code 0 = .ok (.aload_n 0, 1) := by decide +kernel
theorem d1_1 : decode prog_211_method_1_code 1 = .ok (.invokespecial 3, 3) := by decide +kernel
theorem d1_4 : decode prog_211_method_1_code 4 = .ok (.aload_n 0, 1) := by decide +kernel
theorem d1_5 : decode prog_211_method_1_code 5 = .ok (.bipush 64, 2) := by decide +kernel
theorem d1_7 : decode prog_211_method_1_code 7 = .ok (.newarray .long, 2) := by decide +kernel
theorem d1_9 : decode prog_211_method_1_code 9 = .ok (.putfield 11, 3) := by decide +kernel
theorem d1_12 : decode prog_211_method_1_code 12 = .ok (.aload_n 0, 1) := by decide +kernel
theorem d1_13 : decode prog_211_method_1_code 13 = .ok (.sipush 3072, 3) := by decide +kernel
theorem d1_16 : decode prog_211_method_1_code 16 = .ok (.newarray .int, 2) := by decide +kernel
theorem d1_18 : decode prog_211_method_1_code 18 = .ok (.putfield 15, 3) := by decide +kernel
theorem d1_21 : decode prog_211_method_1_code 21 = .ok (.aload_n 0, 1) := by decide +kernel
theorem d1_22 : decode prog_211_method_1_code 22 = .ok (.bipush 64, 2) := by decide +kernel
theorem d1_24 : decode prog_211_method_1_code 24 = .ok (.newarray .int, 2) := by decide +kernel
theorem d1_26 : decode prog_211_method_1_code 26 = .ok (.putfield 19, 3) := by decide +kernel
theorem d1_29 : decode prog_211_method_1_code 29 = .ok (.aload_n 0, 1) := by decide +kernel
theorem d1_30 : decode prog_211_method_1_code 30 = .ok (.bipush 64, 2) := by decide +kernel
theorem d1_32 : decode prog_211_method_1_code 32 = .ok (.newarray .long, 2) := by decide +kernel
theorem d1_34 : decode prog_211_method_1_code 34 = .ok (.putfield 22, 3) := by decide +kernel
theorem d1_37 : decode prog_211_method_1_code 37 = .ok (.return_, 1) := by decide +kernel
theorem pn_1 : plainName "com/example/ferrylog/ferrylog/store/LiveIndex" = true := by first | (simp [plainName, overriddenIn]; done) | decide +kernel
theorem ef_1 (m : MethodId) (x0 : Addr) : entryFrame m #[(.ref x0)] 1 = mkF m 0 #[.val (.ref x0)] [] := by first | (simp [entryFrame, mkF, argsToLocals, Value.category]; done) | rfl
def Q1 (Z : State) (aa : Addr) (h0 : Heap) (n0 : Nat) (v : Option Value) (h : Heap) (L : List Loc) : Prop := ∃ bl : Addr, ∃ br : Addr, ∃ bq : Addr, ∃ bf : Addr, v = none ∧ Fr n0 L ∧ Keep h0 h [aa] ∧ Fld Z h aa "com/example/ferrylog/ferrylog/store/LiveIndex" "lines" "[J" (.ref bl) ∧ Fld Z h aa "com/example/ferrylog/ferrylog/store/LiveIndex" "records" "[I" (.ref br) ∧ Fld Z h aa "com/example/ferrylog/ferrylog/store/LiveIndex" "runRecords" "[I" (.ref bq) ∧ Fld Z h aa "com/example/ferrylog/ferrylog/store/LiveIndex" "runFirsts" "[J" (.ref bf) ∧ Fld Z h aa "com/example/ferrylog/ferrylog/store/LiveIndex" "topics" "I" (.int (0 : Int32)) ∧ Fld Z h aa "com/example/ferrylog/ferrylog/store/LiveIndex" "recordCount" "I" (.int (0 : Int32)) ∧ Fld Z h aa "com/example/ferrylog/ferrylog/store/LiveIndex" "runCount" "I" (.int (0 : Int32)) ∧ Fld Z h aa "com/example/ferrylog/ferrylog/store/LiveIndex" "origin" "J" (.long (0 : Int64)) ∧ AryJ Z h bl 64 (fun _ => (0 : Int64)) ∧ AryI Z h br .int 3072 (fun _ => (0 : Int32)) ∧ AryI Z h bq .int 64 (fun _ => (0 : Int32)) ∧ AryJ Z h bf 64 (fun _ => (0 : Int64)) ∧ n0 ≤ bl ∧ n0 ≤ br ∧ n0 ≤ bq ∧ n0 ≤ bf ∧ bl ≠ br ∧ bl ≠ bq ∧ bl ≠ bf ∧ br ≠ bq ∧ br ≠ bf ∧ bq ≠ bf
set_option maxRecDepth 65536 in
set_option maxHeartbeats 40000000 in
theorem rm1 (l : Launch) (Z : State) (a0 : Array Value) (hw : ∀ d ∈ tables_1, d.before a0 Z = true) (ws : List Jvm.Cond) (aa : Addr) (h0 : Heap) (n0 : Nat) (Z0 : n0 ≤ h0.size) (F_lines_aa : Fld Z h0 aa "com/example/ferrylog/ferrylog/store/LiveIndex" "lines" "[J" .null) (F_records_aa : Fld Z h0 aa "com/example/ferrylog/ferrylog/store/LiveIndex" "records" "[I" .null) (F_runRecords_aa : Fld Z h0 aa "com/example/ferrylog/ferrylog/store/LiveIndex" "runRecords" "[I" .null) (F_runFirsts_aa : Fld Z h0 aa "com/example/ferrylog/ferrylog/store/LiveIndex" "runFirsts" "[J" .null) (F_topics_aa : Fld Z h0 aa "com/example/ferrylog/ferrylog/store/LiveIndex" "topics" "I" (.int (0 : Int32))) (F_recordCount_aa : Fld Z h0 aa "com/example/ferrylog/ferrylog/store/LiveIndex" "recordCount" "I" (.int (0 : Int32))) (F_runCount_aa : Fld Z h0 aa "com/example/ferrylog/ferrylog/store/LiveIndex" "runCount" "I" (.int (0 : Int32))) (F_origin_aa : Fld Z h0 aa "com/example/ferrylog/ferrylog/store/LiveIndex" "origin" "J" (.long (0 : Int64))) (E_aa : Exa Z h0 aa "com/example/ferrylog/ferrylog/store/LiveIndex") (g_aa : n0 ≤ aa) :
    MetFree l (⟨"com/example/ferrylog/ferrylog/store/LiveIndex", "<init>", "()V"⟩ : MethodName) (head1 (Jvm.Cond.code (⟨"com/example/ferrylog/ferrylog/store/LiveIndex", "<init>", "()V"⟩ : MethodName) prog_211_method_1_code 1 none :: ws) ({ frames := 1, cells := 4, slots := 3264, locals := 12 } : Room)) (fun a U => a = #[(.ref aa)] ∧ Z.Warmed39 U.vm ∧ U.heap = h0) (fun _ _ _ _ _ => True) (fun _ U o U' => ∃ v L, o = .returned v ∧ Q1 Z aa h0 n0 v U'.heap L ∧ FrameEnd U o U' L ({ frames := 1, cells := 4, slots := 3264, locals := 12 } : Room).cells ({ frames := 1, cells := 4, slots := 3264, locals := 12 } : Room).slots) := by
  refine MetFree.of_bodySF (plainFor_of_name pn_1) hisR ?_
  intro p e s m args below meth c s₁ Bd hml0 hP hK
  obtain ⟨rfl, hZ, hh⟩ := hP
  have hx := Bd.exec
  have hby := Bd.bytes
  have hml : c.maxLocals = 1 := hml0
  have hown : s.vm.findClass "com/example/ferrylog/ferrylog/store/LiveIndex" = some m.cls := findClass_of_methodNamed Bd.named
  have hnm := (name_of_methodNamed Bd.named Bd.method).1
  have X0 : Stand p l e ({ frames := 1, cells := 4, slots := 3264, locals := 12 } : Room) s m #[(.ref aa)] below meth c s₁ [] 0 0 := Stand.of_body Bd
  have e0 : s₁.heap = h0 := by rw [← hh, Bd.state]; rfl
  have N0 := Fr.nil n0
  have K0 := Keep.refl h0 ([aa] : List Addr)
  show Go p e below s (Q1 Z aa h0 n0) ({ frames := 1, cells := 4, slots := 3264, locals := 12 } : Room).cells ({ frames := 1, cells := 4, slots := 3264, locals := 12 } : Room).slots (s₁.setTop (entryFrame m #[(.ref aa)] 1))
  rw [ef_1]
  show Go _ _ _ _ _ _ _ (s₁.setTop (mkF m 0 #[.val (.ref aa)] []))
  refine Go.step (fun t k => XS.aloadN X0.here hx rfl (hb hby d1_0) rfl rfl k) ?_
  show Go _ _ _ _ _ _ _ (s₁.setTop (mkF m 1 #[.val (.ref aa)] [(.ref aa)]))
  obtain ⟨T1, X1, e1, st1⟩ := initO X0 hx hZ hown (hw _ (List.mem_of_getElem? (i := 6) rfl)) (hw _ (List.mem_of_getElem? (i := 7) rfl)) (hw _ (List.mem_of_getElem? (i := 8) rfl)) e0 (g := (mkF m 1 #[.val (.ref aa)] [(.ref aa)])) rfl (by rw [hml]; rfl) rfl (hb hby d1_1) (by decide) (W := 0) (by show 2 * 0 + _ ≤ _; exact Nat.le_of_eq rfl) (by decide)
  refine Go.step st1 ?_
  show Go _ _ _ _ _ _ _ (T1.setTop (mkF m 4 #[.val (.ref aa)] []))
  refine Go.step (fun t k => XS.aloadN X1.here hx rfl (hb hby d1_4) rfl rfl k) ?_
  show Go _ _ _ _ _ _ _ (T1.setTop (mkF m 5 #[.val (.ref aa)] [(.ref aa)]))
  refine Go.step (fun t k => XS.bipush X1.here hx rfl (hb hby d1_5) k) ?_
  show Go _ _ _ _ _ _ _ (T1.setTop (mkF m 7 #[.val (.ref aa)] [(.int (64 : Int32)), (.ref aa)]))
  obtain ⟨T2, h2, k2, X2, e2, E2, A2, st2⟩ := newP X1 hx hZ (hw _ (List.mem_of_getElem? (i := 9) rfl)) e1 (g := (mkF m 7 #[.val (.ref aa)] [(.int (64 : Int32)), (.ref aa)])) rfl (hb hby d1_7) rfl (by decide) (cap := 64) (by decide) (by decide) (by decide) (by decide)
  obtain ⟨bl, gz2⟩ : ∃ z, z = h0.size := ⟨_, rfl⟩
  have ne_aa_bl : aa ≠ bl := Nat.ne_of_lt (Nat.lt_of_lt_of_le F_lines_aa.lt (Nat.le_of_eq gz2.symm))
  have g_bl : n0 ≤ bl := Nat.le_trans Z0 (Nat.le_of_eq gz2.symm)
  have sz_bl : h0.size ≤ bl := Nat.le_trans K0.1 (Nat.le_of_eq gz2.symm)
  rw [← gz2] at A2 st2
  replace F_lines_aa := F_lines_aa.ext E2
  replace F_records_aa := F_records_aa.ext E2
  replace F_runRecords_aa := F_runRecords_aa.ext E2
  replace F_runFirsts_aa := F_runFirsts_aa.ext E2
  replace F_topics_aa := F_topics_aa.ext E2
  replace F_recordCount_aa := F_recordCount_aa.ext E2
  replace F_runCount_aa := F_runCount_aa.ext E2
  replace F_origin_aa := F_origin_aa.ext E2
  replace E_aa := E_aa.ext E2
  have Z2 := Nat.le_trans Z0 E2.1
  have K2 := K0.ext E2
  have A_bl : AryJ Z h2 bl 64 (fun _ => (0 : Int64)) := Ary.new A2 rfl
  refine Go.step st2 ?_
  show Go _ _ _ _ _ _ _ (T2.setTop (mkF m 9 #[.val (.ref aa)] [(.ref bl), (.ref aa)]))
  obtain ⟨T3, h3, X3, e3, W3, st3⟩ := putF X2 hx hZ hown (host := "") (Or.inl (hw _ (List.mem_of_getElem? (i := 10) rfl))) Via.refl e2 F_lines_aa E_aa (Or.inl (hw _ (List.mem_of_getElem? (i := 11) rfl))) (hw _ (List.mem_of_getElem? (i := 1) rfl)) (ty := (.array .long)) (by decide) rfl rfl (g := (mkF m 9 #[.val (.ref aa)] [(.ref bl), (.ref aa)])) rfl rfl (hb hby d1_9)
  replace F_records_aa := F_records_aa.other W3 (Or.inr (slot_ne (Or.inl (hw _ (List.mem_of_getElem? (i := 14) rfl))) (Or.inl (hw _ (List.mem_of_getElem? (i := 11) rfl))) (by decide) (t := (.array .int)) (t' := (.array .long)) (by decide) (by decide)))
  replace F_runRecords_aa := F_runRecords_aa.other W3 (Or.inr (slot_ne (Or.inl (hw _ (List.mem_of_getElem? (i := 16) rfl))) (Or.inl (hw _ (List.mem_of_getElem? (i := 11) rfl))) (by decide) (t := (.array .int)) (t' := (.array .long)) (by decide) (by decide)))
  replace F_runFirsts_aa := F_runFirsts_aa.other W3 (Or.inr (slot_ne (Or.inl (hw _ (List.mem_of_getElem? (i := 18) rfl))) (Or.inl (hw _ (List.mem_of_getElem? (i := 11) rfl))) (by decide) (t := (.array .long)) (t' := (.array .long)) (by decide) (by decide)))
  replace F_topics_aa := F_topics_aa.other W3 (Or.inr (slot_ne (Or.inl (hw _ (List.mem_of_getElem? (i := 25) rfl))) (Or.inl (hw _ (List.mem_of_getElem? (i := 11) rfl))) (by decide) (t := .int) (t' := (.array .long)) (by decide) (by decide)))
  replace F_recordCount_aa := F_recordCount_aa.other W3 (Or.inr (slot_ne (Or.inl (hw _ (List.mem_of_getElem? (i := 39) rfl))) (Or.inl (hw _ (List.mem_of_getElem? (i := 11) rfl))) (by decide) (t := .int) (t' := (.array .long)) (by decide) (by decide)))
  replace F_runCount_aa := F_runCount_aa.other W3 (Or.inr (slot_ne (Or.inl (hw _ (List.mem_of_getElem? (i := 52) rfl))) (Or.inl (hw _ (List.mem_of_getElem? (i := 11) rfl))) (by decide) (t := .int) (t' := (.array .long)) (by decide) (by decide)))
  replace F_origin_aa := F_origin_aa.other W3 (Or.inr (slot_ne (Or.inl (hw _ (List.mem_of_getElem? (i := 41) rfl))) (Or.inl (hw _ (List.mem_of_getElem? (i := 11) rfl))) (by decide) (t := .long) (t' := (.array .long)) (by decide) (by decide)))
  replace E_aa := E_aa.wr W3
  replace A_bl := A_bl.other W3 (Ne.symm ne_aa_bl)
  have Z3 := Nat.le_trans Z2 (Keep.of_wr W3).1
  have N3 := Fr.snoc X3 N0 g_aa
  have K3 := K2.wr W3 (Or.inl (List.mem_of_getElem? (i := 0) rfl))
  replace F_lines_aa := F_lines_aa.same W3
  refine Go.step st3 ?_
  show Go _ _ _ _ _ _ _ (T3.setTop (mkF m 12 #[.val (.ref aa)] []))
  refine Go.step (fun t k => XS.aloadN X3.here hx rfl (hb hby d1_12) rfl rfl k) ?_
  show Go _ _ _ _ _ _ _ (T3.setTop (mkF m 13 #[.val (.ref aa)] [(.ref aa)]))
  refine Go.step (fun t k => XS.sipush X3.here hx rfl (hb hby d1_13) k) ?_
  show Go _ _ _ _ _ _ _ (T3.setTop (mkF m 16 #[.val (.ref aa)] [(.int (3072 : Int32)), (.ref aa)]))
  obtain ⟨T4, h4, k4, X4, e4, E4, A4, st4⟩ := newP X3 hx hZ (hw _ (List.mem_of_getElem? (i := 12) rfl)) e3 (g := (mkF m 16 #[.val (.ref aa)] [(.int (3072 : Int32)), (.ref aa)])) rfl (hb hby d1_16) rfl (by decide) (cap := 3072) (by decide) (by decide) (by decide) (by decide)
  obtain ⟨br, gz4⟩ : ∃ z, z = h3.size := ⟨_, rfl⟩
  have ne_aa_br : aa ≠ br := Nat.ne_of_lt (Nat.lt_of_lt_of_le F_lines_aa.lt (Nat.le_of_eq gz4.symm))
  have ne_bl_br : bl ≠ br := Nat.ne_of_lt (Nat.lt_of_lt_of_le A_bl.lt (Nat.le_of_eq gz4.symm))
  have g_br : n0 ≤ br := Nat.le_trans Z3 (Nat.le_of_eq gz4.symm)
  have sz_br : h0.size ≤ br := Nat.le_trans K3.1 (Nat.le_of_eq gz4.symm)
  rw [← gz4] at A4 st4
  replace F_lines_aa := F_lines_aa.ext E4
  replace F_records_aa := F_records_aa.ext E4
  replace F_runRecords_aa := F_runRecords_aa.ext E4
  replace F_runFirsts_aa := F_runFirsts_aa.ext E4
  replace F_topics_aa := F_topics_aa.ext E4
  replace F_recordCount_aa := F_recordCount_aa.ext E4
  replace F_runCount_aa := F_runCount_aa.ext E4
  replace F_origin_aa := F_origin_aa.ext E4
  replace E_aa := E_aa.ext E4
  replace A_bl := A_bl.ext E4
  have Z4 := Nat.le_trans Z3 E4.1
  have K4 := K3.ext E4
  have A_br : AryI Z h4 br .int 3072 (fun _ => (0 : Int32)) := Ary.new A4 rfl
  refine Go.step st4 ?_
  show Go _ _ _ _ _ _ _ (T4.setTop (mkF m 18 #[.val (.ref aa)] [(.ref br), (.ref aa)]))
  obtain ⟨T5, h5, X5, e5, W5, st5⟩ := putF X4 hx hZ hown (host := "") (Or.inl (hw _ (List.mem_of_getElem? (i := 13) rfl))) Via.refl e4 F_records_aa E_aa (Or.inl (hw _ (List.mem_of_getElem? (i := 14) rfl))) (hw _ (List.mem_of_getElem? (i := 1) rfl)) (ty := (.array .int)) (by decide) rfl rfl (g := (mkF m 18 #[.val (.ref aa)] [(.ref br), (.ref aa)])) rfl rfl (hb hby d1_18)
  replace F_lines_aa := F_lines_aa.other W5 (Or.inr (slot_ne (Or.inl (hw _ (List.mem_of_getElem? (i := 11) rfl))) (Or.inl (hw _ (List.mem_of_getElem? (i := 14) rfl))) (by decide) (t := (.array .long)) (t' := (.array .int)) (by decide) (by decide)))
  replace F_runRecords_aa := F_runRecords_aa.other W5 (Or.inr (slot_ne (Or.inl (hw _ (List.mem_of_getElem? (i := 16) rfl))) (Or.inl (hw _ (List.mem_of_getElem? (i := 14) rfl))) (by decide) (t := (.array .int)) (t' := (.array .int)) (by decide) (by decide)))
  replace F_runFirsts_aa := F_runFirsts_aa.other W5 (Or.inr (slot_ne (Or.inl (hw _ (List.mem_of_getElem? (i := 18) rfl))) (Or.inl (hw _ (List.mem_of_getElem? (i := 14) rfl))) (by decide) (t := (.array .long)) (t' := (.array .int)) (by decide) (by decide)))
  replace F_topics_aa := F_topics_aa.other W5 (Or.inr (slot_ne (Or.inl (hw _ (List.mem_of_getElem? (i := 25) rfl))) (Or.inl (hw _ (List.mem_of_getElem? (i := 14) rfl))) (by decide) (t := .int) (t' := (.array .int)) (by decide) (by decide)))
  replace F_recordCount_aa := F_recordCount_aa.other W5 (Or.inr (slot_ne (Or.inl (hw _ (List.mem_of_getElem? (i := 39) rfl))) (Or.inl (hw _ (List.mem_of_getElem? (i := 14) rfl))) (by decide) (t := .int) (t' := (.array .int)) (by decide) (by decide)))
  replace F_runCount_aa := F_runCount_aa.other W5 (Or.inr (slot_ne (Or.inl (hw _ (List.mem_of_getElem? (i := 52) rfl))) (Or.inl (hw _ (List.mem_of_getElem? (i := 14) rfl))) (by decide) (t := .int) (t' := (.array .int)) (by decide) (by decide)))
  replace F_origin_aa := F_origin_aa.other W5 (Or.inr (slot_ne (Or.inl (hw _ (List.mem_of_getElem? (i := 41) rfl))) (Or.inl (hw _ (List.mem_of_getElem? (i := 14) rfl))) (by decide) (t := .long) (t' := (.array .int)) (by decide) (by decide)))
  replace E_aa := E_aa.wr W5
  replace A_bl := A_bl.other W5 (Ne.symm ne_aa_bl)
  replace A_br := A_br.other W5 (Ne.symm ne_aa_br)
  have Z5 := Nat.le_trans Z4 (Keep.of_wr W5).1
  have N5 := Fr.snoc X5 N3 g_aa
  have K5 := K4.wr W5 (Or.inl (List.mem_of_getElem? (i := 0) rfl))
  replace F_records_aa := F_records_aa.same W5
  refine Go.step st5 ?_
  show Go _ _ _ _ _ _ _ (T5.setTop (mkF m 21 #[.val (.ref aa)] []))
  refine Go.step (fun t k => XS.aloadN X5.here hx rfl (hb hby d1_21) rfl rfl k) ?_
  show Go _ _ _ _ _ _ _ (T5.setTop (mkF m 22 #[.val (.ref aa)] [(.ref aa)]))
  refine Go.step (fun t k => XS.bipush X5.here hx rfl (hb hby d1_22) k) ?_
  show Go _ _ _ _ _ _ _ (T5.setTop (mkF m 24 #[.val (.ref aa)] [(.int (64 : Int32)), (.ref aa)]))
  obtain ⟨T6, h6, k6, X6, e6, E6, A6, st6⟩ := newP X5 hx hZ (hw _ (List.mem_of_getElem? (i := 12) rfl)) e5 (g := (mkF m 24 #[.val (.ref aa)] [(.int (64 : Int32)), (.ref aa)])) rfl (hb hby d1_24) rfl (by decide) (cap := 64) (by decide) (by decide) (by decide) (by decide)
  obtain ⟨bq, gz6⟩ : ∃ z, z = h5.size := ⟨_, rfl⟩
  have ne_aa_bq : aa ≠ bq := Nat.ne_of_lt (Nat.lt_of_lt_of_le F_lines_aa.lt (Nat.le_of_eq gz6.symm))
  have ne_bl_bq : bl ≠ bq := Nat.ne_of_lt (Nat.lt_of_lt_of_le A_bl.lt (Nat.le_of_eq gz6.symm))
  have ne_br_bq : br ≠ bq := Nat.ne_of_lt (Nat.lt_of_lt_of_le A_br.lt (Nat.le_of_eq gz6.symm))
  have g_bq : n0 ≤ bq := Nat.le_trans Z5 (Nat.le_of_eq gz6.symm)
  have sz_bq : h0.size ≤ bq := Nat.le_trans K5.1 (Nat.le_of_eq gz6.symm)
  rw [← gz6] at A6 st6
  replace F_lines_aa := F_lines_aa.ext E6
  replace F_records_aa := F_records_aa.ext E6
  replace F_runRecords_aa := F_runRecords_aa.ext E6
  replace F_runFirsts_aa := F_runFirsts_aa.ext E6
  replace F_topics_aa := F_topics_aa.ext E6
  replace F_recordCount_aa := F_recordCount_aa.ext E6
  replace F_runCount_aa := F_runCount_aa.ext E6
  replace F_origin_aa := F_origin_aa.ext E6
  replace E_aa := E_aa.ext E6
  replace A_bl := A_bl.ext E6
  replace A_br := A_br.ext E6
  have Z6 := Nat.le_trans Z5 E6.1
  have K6 := K5.ext E6
  have A_bq : AryI Z h6 bq .int 64 (fun _ => (0 : Int32)) := Ary.new A6 rfl
  refine Go.step st6 ?_
  show Go _ _ _ _ _ _ _ (T6.setTop (mkF m 26 #[.val (.ref aa)] [(.ref bq), (.ref aa)]))
  obtain ⟨T7, h7, X7, e7, W7, st7⟩ := putF X6 hx hZ hown (host := "") (Or.inl (hw _ (List.mem_of_getElem? (i := 15) rfl))) Via.refl e6 F_runRecords_aa E_aa (Or.inl (hw _ (List.mem_of_getElem? (i := 16) rfl))) (hw _ (List.mem_of_getElem? (i := 1) rfl)) (ty := (.array .int)) (by decide) rfl rfl (g := (mkF m 26 #[.val (.ref aa)] [(.ref bq), (.ref aa)])) rfl rfl (hb hby d1_26)
  replace F_lines_aa := F_lines_aa.other W7 (Or.inr (slot_ne (Or.inl (hw _ (List.mem_of_getElem? (i := 11) rfl))) (Or.inl (hw _ (List.mem_of_getElem? (i := 16) rfl))) (by decide) (t := (.array .long)) (t' := (.array .int)) (by decide) (by decide)))
  replace F_records_aa := F_records_aa.other W7 (Or.inr (slot_ne (Or.inl (hw _ (List.mem_of_getElem? (i := 14) rfl))) (Or.inl (hw _ (List.mem_of_getElem? (i := 16) rfl))) (by decide) (t := (.array .int)) (t' := (.array .int)) (by decide) (by decide)))
  replace F_runFirsts_aa := F_runFirsts_aa.other W7 (Or.inr (slot_ne (Or.inl (hw _ (List.mem_of_getElem? (i := 18) rfl))) (Or.inl (hw _ (List.mem_of_getElem? (i := 16) rfl))) (by decide) (t := (.array .long)) (t' := (.array .int)) (by decide) (by decide)))
  replace F_topics_aa := F_topics_aa.other W7 (Or.inr (slot_ne (Or.inl (hw _ (List.mem_of_getElem? (i := 25) rfl))) (Or.inl (hw _ (List.mem_of_getElem? (i := 16) rfl))) (by decide) (t := .int) (t' := (.array .int)) (by decide) (by decide)))
  replace F_recordCount_aa := F_recordCount_aa.other W7 (Or.inr (slot_ne (Or.inl (hw _ (List.mem_of_getElem? (i := 39) rfl))) (Or.inl (hw _ (List.mem_of_getElem? (i := 16) rfl))) (by decide) (t := .int) (t' := (.array .int)) (by decide) (by decide)))
  replace F_runCount_aa := F_runCount_aa.other W7 (Or.inr (slot_ne (Or.inl (hw _ (List.mem_of_getElem? (i := 52) rfl))) (Or.inl (hw _ (List.mem_of_getElem? (i := 16) rfl))) (by decide) (t := .int) (t' := (.array .int)) (by decide) (by decide)))
  replace F_origin_aa := F_origin_aa.other W7 (Or.inr (slot_ne (Or.inl (hw _ (List.mem_of_getElem? (i := 41) rfl))) (Or.inl (hw _ (List.mem_of_getElem? (i := 16) rfl))) (by decide) (t := .long) (t' := (.array .int)) (by decide) (by decide)))
  replace E_aa := E_aa.wr W7
  replace A_bl := A_bl.other W7 (Ne.symm ne_aa_bl)
  replace A_br := A_br.other W7 (Ne.symm ne_aa_br)
  replace A_bq := A_bq.other W7 (Ne.symm ne_aa_bq)
  have Z7 := Nat.le_trans Z6 (Keep.of_wr W7).1
  have N7 := Fr.snoc X7 N5 g_aa
  have K7 := K6.wr W7 (Or.inl (List.mem_of_getElem? (i := 0) rfl))
  replace F_runRecords_aa := F_runRecords_aa.same W7
  refine Go.step st7 ?_
  show Go _ _ _ _ _ _ _ (T7.setTop (mkF m 29 #[.val (.ref aa)] []))
  refine Go.step (fun t k => XS.aloadN X7.here hx rfl (hb hby d1_29) rfl rfl k) ?_
  show Go _ _ _ _ _ _ _ (T7.setTop (mkF m 30 #[.val (.ref aa)] [(.ref aa)]))
  refine Go.step (fun t k => XS.bipush X7.here hx rfl (hb hby d1_30) k) ?_
  show Go _ _ _ _ _ _ _ (T7.setTop (mkF m 32 #[.val (.ref aa)] [(.int (64 : Int32)), (.ref aa)]))
  obtain ⟨T8, h8, k8, X8, e8, E8, A8, st8⟩ := newP X7 hx hZ (hw _ (List.mem_of_getElem? (i := 9) rfl)) e7 (g := (mkF m 32 #[.val (.ref aa)] [(.int (64 : Int32)), (.ref aa)])) rfl (hb hby d1_32) rfl (by decide) (cap := 64) (by decide) (by decide) (by decide) (by decide)
  obtain ⟨bf, gz8⟩ : ∃ z, z = h7.size := ⟨_, rfl⟩
  have ne_aa_bf : aa ≠ bf := Nat.ne_of_lt (Nat.lt_of_lt_of_le F_lines_aa.lt (Nat.le_of_eq gz8.symm))
  have ne_bl_bf : bl ≠ bf := Nat.ne_of_lt (Nat.lt_of_lt_of_le A_bl.lt (Nat.le_of_eq gz8.symm))
  have ne_br_bf : br ≠ bf := Nat.ne_of_lt (Nat.lt_of_lt_of_le A_br.lt (Nat.le_of_eq gz8.symm))
  have ne_bq_bf : bq ≠ bf := Nat.ne_of_lt (Nat.lt_of_lt_of_le A_bq.lt (Nat.le_of_eq gz8.symm))
  have g_bf : n0 ≤ bf := Nat.le_trans Z7 (Nat.le_of_eq gz8.symm)
  have sz_bf : h0.size ≤ bf := Nat.le_trans K7.1 (Nat.le_of_eq gz8.symm)
  rw [← gz8] at A8 st8
  replace F_lines_aa := F_lines_aa.ext E8
  replace F_records_aa := F_records_aa.ext E8
  replace F_runRecords_aa := F_runRecords_aa.ext E8
  replace F_runFirsts_aa := F_runFirsts_aa.ext E8
  replace F_topics_aa := F_topics_aa.ext E8
  replace F_recordCount_aa := F_recordCount_aa.ext E8
  replace F_runCount_aa := F_runCount_aa.ext E8
  replace F_origin_aa := F_origin_aa.ext E8
  replace E_aa := E_aa.ext E8
  replace A_bl := A_bl.ext E8
  replace A_br := A_br.ext E8
  replace A_bq := A_bq.ext E8
  have Z8 := Nat.le_trans Z7 E8.1
  have K8 := K7.ext E8
  have A_bf : AryJ Z h8 bf 64 (fun _ => (0 : Int64)) := Ary.new A8 rfl
  refine Go.step st8 ?_
  show Go _ _ _ _ _ _ _ (T8.setTop (mkF m 34 #[.val (.ref aa)] [(.ref bf), (.ref aa)]))
  obtain ⟨T9, h9, X9, e9, W9, st9⟩ := putF X8 hx hZ hown (host := "") (Or.inl (hw _ (List.mem_of_getElem? (i := 17) rfl))) Via.refl e8 F_runFirsts_aa E_aa (Or.inl (hw _ (List.mem_of_getElem? (i := 18) rfl))) (hw _ (List.mem_of_getElem? (i := 1) rfl)) (ty := (.array .long)) (by decide) rfl rfl (g := (mkF m 34 #[.val (.ref aa)] [(.ref bf), (.ref aa)])) rfl rfl (hb hby d1_34)
  replace F_lines_aa := F_lines_aa.other W9 (Or.inr (slot_ne (Or.inl (hw _ (List.mem_of_getElem? (i := 11) rfl))) (Or.inl (hw _ (List.mem_of_getElem? (i := 18) rfl))) (by decide) (t := (.array .long)) (t' := (.array .long)) (by decide) (by decide)))
  replace F_records_aa := F_records_aa.other W9 (Or.inr (slot_ne (Or.inl (hw _ (List.mem_of_getElem? (i := 14) rfl))) (Or.inl (hw _ (List.mem_of_getElem? (i := 18) rfl))) (by decide) (t := (.array .int)) (t' := (.array .long)) (by decide) (by decide)))
  replace F_runRecords_aa := F_runRecords_aa.other W9 (Or.inr (slot_ne (Or.inl (hw _ (List.mem_of_getElem? (i := 16) rfl))) (Or.inl (hw _ (List.mem_of_getElem? (i := 18) rfl))) (by decide) (t := (.array .int)) (t' := (.array .long)) (by decide) (by decide)))
  replace F_topics_aa := F_topics_aa.other W9 (Or.inr (slot_ne (Or.inl (hw _ (List.mem_of_getElem? (i := 25) rfl))) (Or.inl (hw _ (List.mem_of_getElem? (i := 18) rfl))) (by decide) (t := .int) (t' := (.array .long)) (by decide) (by decide)))
  replace F_recordCount_aa := F_recordCount_aa.other W9 (Or.inr (slot_ne (Or.inl (hw _ (List.mem_of_getElem? (i := 39) rfl))) (Or.inl (hw _ (List.mem_of_getElem? (i := 18) rfl))) (by decide) (t := .int) (t' := (.array .long)) (by decide) (by decide)))
  replace F_runCount_aa := F_runCount_aa.other W9 (Or.inr (slot_ne (Or.inl (hw _ (List.mem_of_getElem? (i := 52) rfl))) (Or.inl (hw _ (List.mem_of_getElem? (i := 18) rfl))) (by decide) (t := .int) (t' := (.array .long)) (by decide) (by decide)))
  replace F_origin_aa := F_origin_aa.other W9 (Or.inr (slot_ne (Or.inl (hw _ (List.mem_of_getElem? (i := 41) rfl))) (Or.inl (hw _ (List.mem_of_getElem? (i := 18) rfl))) (by decide) (t := .long) (t' := (.array .long)) (by decide) (by decide)))
  replace E_aa := E_aa.wr W9
  replace A_bl := A_bl.other W9 (Ne.symm ne_aa_bl)
  replace A_br := A_br.other W9 (Ne.symm ne_aa_br)
  replace A_bq := A_bq.other W9 (Ne.symm ne_aa_bq)
  replace A_bf := A_bf.other W9 (Ne.symm ne_aa_bf)
  have Z9 := Nat.le_trans Z8 (Keep.of_wr W9).1
  have N9 := Fr.snoc X9 N7 g_aa
  have K9 := K8.wr W9 (Or.inl (List.mem_of_getElem? (i := 0) rfl))
  replace F_runFirsts_aa := F_runFirsts_aa.same W9
  refine Go.step st9 ?_
  show Go _ _ _ _ _ _ _ (T9.setTop (mkF m 37 #[.val (.ref aa)] []))
  refine Go.retV X9 Bd.notSynchronized hx Bd.returns (hb hby d1_37) (by decide) (by decide) ?_
  rw [e9]
  exact ⟨bl, br, bq, bf, rfl, N9, K9, F_lines_aa, F_records_aa, F_runRecords_aa, F_runFirsts_aa, F_topics_aa, F_recordCount_aa, F_runCount_aa, F_origin_aa, A_bl, A_br, A_bq, A_bf, g_bl, g_br, g_bq, g_bf, ne_bl_br, ne_bl_bq, ne_bl_bf, ne_br_bq, ne_br_bf, ne_bq_bf⟩
theorem d3_0 : decode prog_211_method_2_code 0 = .ok (.aload_n 0, 1) := by decide +kernel
theorem d3_1 : decode prog_211_method_2_code 1 = .ok (.getfield 25, 3) := by decide +kernel
theorem d3_4 : decode prog_211_method_2_code 4 = .ok (.iconst 1, 1) := by decide +kernel
theorem d3_5 : decode prog_211_method_2_code 5 = .ok (.iadd, 1) := by decide +kernel
theorem d3_6 : decode prog_211_method_2_code 6 = .ok (.iconst 4, 1) := by decide +kernel
theorem d3_7 : decode prog_211_method_2_code 7 = .ok (.imul, 1) := by decide +kernel
theorem d3_8 : decode prog_211_method_2_code 8 = .ok (.aload_n 0, 1) := by decide +kernel
theorem d3_9 : decode prog_211_method_2_code 9 = .ok (.getfield 11, 3) := by decide +kernel
theorem d3_12 : decode prog_211_method_2_code 12 = .ok (.arraylength, 1) := by decide +kernel
theorem d3_13 : decode prog_211_method_2_code 13 = .ok (.if_icmp .le 21, 3) := by decide +kernel
theorem d3_34 : decode prog_211_method_2_code 34 = .ok (.aload_n 0, 1) := by decide +kernel
theorem d3_35 : decode prog_211_method_2_code 35 = .ok (.getfield 25, 3) := by decide +kernel
theorem d3_38 : decode prog_211_method_2_code 38 = .ok (.iconst 4, 1) := by decide +kernel
theorem d3_39 : decode prog_211_method_2_code 39 = .ok (.imul, 1) := by decide +kernel
theorem d3_40 : decode prog_211_method_2_code 40 = .ok (.istore_n 1, 1) := by decide +kernel
theorem d3_41 : decode prog_211_method_2_code 41 = .ok (.aload_n 0, 1) := by decide +kernel
theorem d3_42 : decode prog_211_method_2_code 42 = .ok (.getfield 11, 3) := by decide +kernel
theorem d3_45 : decode prog_211_method_2_code 45 = .ok (.iload_n 1, 1) := by decide +kernel
theorem d3_46 : decode prog_211_method_2_code 46 = .ok (.iconst 0, 1) := by decide +kernel
theorem d3_47 : decode prog_211_method_2_code 47 = .ok (.iadd, 1) := by decide +kernel
theorem d3_48 : decode prog_211_method_2_code 48 = .ok (.lconst 0, 1) := by decide +kernel
theorem d3_49 : decode prog_211_method_2_code 49 = .ok (.lastore, 1) := by decide +kernel
theorem d3_50 : decode prog_211_method_2_code 50 = .ok (.aload_n 0, 1) := by decide +kernel
theorem d3_51 : decode prog_211_method_2_code 51 = .ok (.getfield 11, 3) := by decide +kernel
theorem d3_54 : decode prog_211_method_2_code 54 = .ok (.iload_n 1, 1) := by decide +kernel
theorem d3_55 : decode prog_211_method_2_code 55 = .ok (.iconst 1, 1) := by decide +kernel
theorem d3_56 : decode prog_211_method_2_code 56 = .ok (.iadd, 1) := by decide +kernel
theorem d3_57 : decode prog_211_method_2_code 57 = .ok (.ldc2_w 35, 3) := by decide +kernel
theorem d3_60 : decode prog_211_method_2_code 60 = .ok (.lastore, 1) := by decide +kernel
theorem d3_61 : decode prog_211_method_2_code 61 = .ok (.aload_n 0, 1) := by decide +kernel
theorem d3_62 : decode prog_211_method_2_code 62 = .ok (.getfield 11, 3) := by decide +kernel
theorem d3_65 : decode prog_211_method_2_code 65 = .ok (.iload_n 1, 1) := by decide +kernel
theorem d3_66 : decode prog_211_method_2_code 66 = .ok (.iconst 3, 1) := by decide +kernel
theorem d3_67 : decode prog_211_method_2_code 67 = .ok (.iadd, 1) := by decide +kernel
theorem d3_68 : decode prog_211_method_2_code 68 = .ok (.ldc2_w 37, 3) := by decide +kernel
theorem d3_71 : decode prog_211_method_2_code 71 = .ok (.lastore, 1) := by decide +kernel
theorem d3_72 : decode prog_211_method_2_code 72 = .ok (.aload_n 0, 1) := by decide +kernel
theorem d3_73 : decode prog_211_method_2_code 73 = .ok (.dup, 1) := by decide +kernel
theorem d3_74 : decode prog_211_method_2_code 74 = .ok (.getfield 25, 3) := by decide +kernel
theorem d3_77 : decode prog_211_method_2_code 77 = .ok (.dup_x1, 1) := by decide +kernel
theorem d3_78 : decode prog_211_method_2_code 78 = .ok (.iconst 1, 1) := by decide +kernel
theorem d3_79 : decode prog_211_method_2_code 79 = .ok (.iadd, 1) := by decide +kernel
theorem d3_80 : decode prog_211_method_2_code 80 = .ok (.putfield 25, 3) := by decide +kernel
theorem d3_83 : decode prog_211_method_2_code 83 = .ok (.ireturn, 1) := by decide +kernel
theorem pn_3 : plainName "com/example/ferrylog/ferrylog/store/LiveIndex" = true := by first | (simp [plainName, overriddenIn]; done) | decide +kernel
theorem ef_3 (m : MethodId) (x0 : Addr) : entryFrame m #[(.ref x0)] 2 = mkF m 0 #[.val (.ref x0), .unset] [] := by first | (simp [entryFrame, mkF, argsToLocals, Value.category]; done) | rfl
def Q3 (Z : State) (aa : Addr) (tv : Int32) (kt : Nat) (bl : Addr) (br : Addr) (bq : Addr) (bf : Addr) (rc : Int32) (rn : Int32) (og : Int64) (gg : Nat → Int64) (h0 : Heap) (n0 : Nat) (v : Option Value) (h : Heap) (L : List Loc) : Prop := v = some (.int tv) ∧ Fr n0 L ∧ Keep h0 h [aa, bl] ∧ Fld Z h aa "com/example/ferrylog/ferrylog/store/LiveIndex" "lines" "[J" (.ref bl) ∧ Fld Z h aa "com/example/ferrylog/ferrylog/store/LiveIndex" "records" "[I" (.ref br) ∧ Fld Z h aa "com/example/ferrylog/ferrylog/store/LiveIndex" "runRecords" "[I" (.ref bq) ∧ Fld Z h aa "com/example/ferrylog/ferrylog/store/LiveIndex" "runFirsts" "[J" (.ref bf) ∧ Fld Z h aa "com/example/ferrylog/ferrylog/store/LiveIndex" "topics" "I" (.int (tv + (1 : Int32))) ∧ Fld Z h aa "com/example/ferrylog/ferrylog/store/LiveIndex" "recordCount" "I" (.int rc) ∧ Fld Z h aa "com/example/ferrylog/ferrylog/store/LiveIndex" "runCount" "I" (.int rn) ∧ Fld Z h aa "com/example/ferrylog/ferrylog/store/LiveIndex" "origin" "J" (.long og) ∧ AryJ Z h bl 64 (up (up (up gg (4 * kt + 0) (0 : Int64)) (4 * kt + 1) (-1 : Int64)) (4 * kt + 3) (4294967295 : Int64))
set_option maxRecDepth 65536 in
set_option maxHeartbeats 40000000 in
theorem rm3 (l : Launch) (Z : State) (a0 : Array Value) (hw : ∀ d ∈ tables_1, d.before a0 Z = true) (ws : List Jvm.Cond) (aa : Addr) (tv : Int32) (kt : Nat) (bl : Addr) (br : Addr) (bq : Addr) (bf : Addr) (rc : Int32) (rn : Int32) (og : Int64) (gg : Nat → Int64) (h0 : Heap) (n0 : Nat) (Z0 : n0 ≤ h0.size) (F_lines_aa : Fld Z h0 aa "com/example/ferrylog/ferrylog/store/LiveIndex" "lines" "[J" (.ref bl)) (F_records_aa : Fld Z h0 aa "com/example/ferrylog/ferrylog/store/LiveIndex" "records" "[I" (.ref br)) (F_runRecords_aa : Fld Z h0 aa "com/example/ferrylog/ferrylog/store/LiveIndex" "runRecords" "[I" (.ref bq)) (F_runFirsts_aa : Fld Z h0 aa "com/example/ferrylog/ferrylog/store/LiveIndex" "runFirsts" "[J" (.ref bf)) (F_topics_aa : Fld Z h0 aa "com/example/ferrylog/ferrylog/store/LiveIndex" "topics" "I" (.int tv)) (F_recordCount_aa : Fld Z h0 aa "com/example/ferrylog/ferrylog/store/LiveIndex" "recordCount" "I" (.int rc)) (F_runCount_aa : Fld Z h0 aa "com/example/ferrylog/ferrylog/store/LiveIndex" "runCount" "I" (.int rn)) (F_origin_aa : Fld Z h0 aa "com/example/ferrylog/ferrylog/store/LiveIndex" "origin" "J" (.long og)) (E_aa : Exa Z h0 aa "com/example/ferrylog/ferrylog/store/LiveIndex") (g_aa : n0 ≤ aa) (g_bl : n0 ≤ bl) (A_bl : AryJ Z h0 bl 64 gg) (htp : (tv.toInt = (kt : Int))) (hkt : (kt < 16)) :
    MetFree l (⟨"com/example/ferrylog/ferrylog/store/LiveIndex", "addTopic", "()I"⟩ : MethodName) (head1 (Jvm.Cond.code (⟨"com/example/ferrylog/ferrylog/store/LiveIndex", "addTopic", "()I"⟩ : MethodName) prog_211_method_2_code 2 (some .int) :: ws) ({ frames := 0, cells := 0, slots := 0, locals := 0 } : Room)) (fun a U => a = #[(.ref aa)] ∧ Z.Warmed39 U.vm ∧ U.heap = h0) (fun _ _ _ _ _ => True) (fun _ U o U' => ∃ v L, o = .returned v ∧ Q3 Z aa tv kt bl br bq bf rc rn og gg h0 n0 v U'.heap L ∧ FrameEnd U o U' L ({ frames := 0, cells := 0, slots := 0, locals := 0 } : Room).cells ({ frames := 0, cells := 0, slots := 0, locals := 0 } : Room).slots) := by
  refine MetFree.of_bodySF (plainFor_of_name pn_3) hisR ?_
  intro p e s m args below meth c s₁ Bd hml0 hP hK
  obtain ⟨rfl, hZ, hh⟩ := hP
  have hx := Bd.exec
  have hby := Bd.bytes
  have hml : c.maxLocals = 2 := hml0
  have hown : s.vm.findClass "com/example/ferrylog/ferrylog/store/LiveIndex" = some m.cls := findClass_of_methodNamed Bd.named
  have hnm := (name_of_methodNamed Bd.named Bd.method).1
  have X0 : Stand p l e ({ frames := 0, cells := 0, slots := 0, locals := 0 } : Room) s m #[(.ref aa)] below meth c s₁ [] 0 0 := Stand.of_body Bd
  have e0 : s₁.heap = h0 := by rw [← hh, Bd.state]; rfl
  have N0 := Fr.nil n0
  have K0 := Keep.refl h0 ([aa, bl] : List Addr)
  show Go p e below s (Q3 Z aa tv kt bl br bq bf rc rn og gg h0 n0) ({ frames := 0, cells := 0, slots := 0, locals := 0 } : Room).cells ({ frames := 0, cells := 0, slots := 0, locals := 0 } : Room).slots (s₁.setTop (entryFrame m #[(.ref aa)] 2))
  rw [ef_3]
  show Go _ _ _ _ _ _ _ (s₁.setTop (mkF m 0 #[.val (.ref aa), .unset] []))
  refine Go.step (fun t k => XS.aloadN X0.here hx rfl (hb hby d3_0) rfl rfl k) ?_
  show Go _ _ _ _ _ _ _ (s₁.setTop (mkF m 1 #[.val (.ref aa), .unset] [(.ref aa)]))
  obtain ⟨T1, X1, e1, st1⟩ := getF X0 hx hZ hown (host := "") (Or.inl (hw _ (List.mem_of_getElem? (i := 24) rfl))) Via.refl e0 F_topics_aa (g := (mkF m 1 #[.val (.ref aa), .unset] [(.ref aa)])) rfl rfl (hb hby d3_1)
  refine Go.step st1 ?_
  show Go _ _ _ _ _ _ _ (T1.setTop (mkF m 4 #[.val (.ref aa), .unset] [(.int tv)]))
  refine Go.step (fun t k => XS.iconst X1.here hx rfl (hb hby d3_4) k) ?_
  show Go _ _ _ _ _ _ _ (T1.setTop (mkF m 5 #[.val (.ref aa), .unset] [(.int (1 : Int32)), (.int tv)]))
  refine Go.step (fun t k => XS.iadd X1.here hx rfl (hb hby d3_5) rfl k) ?_
  show Go _ _ _ _ _ _ _ (T1.setTop (mkF m 6 #[.val (.ref aa), .unset] [(.int (tv + (1 : Int32)))]))
  refine Go.step (fun t k => XS.iconst X1.here hx rfl (hb hby d3_6) k) ?_
  show Go _ _ _ _ _ _ _ (T1.setTop (mkF m 7 #[.val (.ref aa), .unset] [(.int (4 : Int32)), (.int (tv + (1 : Int32)))]))
  refine Go.step (fun t k => XS.imul X1.here hx rfl (hb hby d3_7) rfl k) ?_
  show Go _ _ _ _ _ _ _ (T1.setTop (mkF m 8 #[.val (.ref aa), .unset] [(.int ((tv + (1 : Int32)) * (4 : Int32)))]))
  refine Go.step (fun t k => XS.aloadN X1.here hx rfl (hb hby d3_8) rfl rfl k) ?_
  show Go _ _ _ _ _ _ _ (T1.setTop (mkF m 9 #[.val (.ref aa), .unset] [(.ref aa), (.int ((tv + (1 : Int32)) * (4 : Int32)))]))
  obtain ⟨T2, X2, e2, st2⟩ := getF X1 hx hZ hown (host := "") (Or.inl (hw _ (List.mem_of_getElem? (i := 10) rfl))) Via.refl e1 F_lines_aa (g := (mkF m 9 #[.val (.ref aa), .unset] [(.ref aa), (.int ((tv + (1 : Int32)) * (4 : Int32)))])) rfl rfl (hb hby d3_9)
  refine Go.step st2 ?_
  show Go _ _ _ _ _ _ _ (T2.setTop (mkF m 12 #[.val (.ref aa), .unset] [(.ref bl), (.int ((tv + (1 : Int32)) * (4 : Int32)))]))
  refine Go.step (own_len X2 hx hZ e2 A_bl (z := (64 : Int32)) rfl (f := (mkF m 12 #[.val (.ref aa), .unset] [(.ref bl), (.int ((tv + (1 : Int32)) * (4 : Int32)))])) rfl rfl (hb hby d3_12)) ?_
  show Go _ _ _ _ _ _ _ (T2.setTop (mkF m 13 #[.val (.ref aa), .unset] [(.int (64 : Int32)), (.int ((tv + (1 : Int32)) * (4 : Int32)))]))
  refine Go.step (fun t k => XS.icmpYes X2.here hx rfl (pc0 := 13) (pc' := 34) rfl (hb hby d3_13) rfl (flt (own_t1 htp hkt : ¬ (64 : Int32) < ((tv + (1 : Int32)) * (4 : Int32)))).2.2.2 (by decide) (by decide) k) ?_
  show Go _ _ _ _ _ _ _ (T2.setTop (mkF m 34 #[.val (.ref aa), .unset] []))
  refine Go.step (fun t k => XS.aloadN X2.here hx rfl (hb hby d3_34) rfl rfl k) ?_
  show Go _ _ _ _ _ _ _ (T2.setTop (mkF m 35 #[.val (.ref aa), .unset] [(.ref aa)]))
  obtain ⟨T4, X4, e4, st4⟩ := getF X2 hx hZ hown (host := "") (Or.inl (hw _ (List.mem_of_getElem? (i := 24) rfl))) Via.refl e2 F_topics_aa (g := (mkF m 35 #[.val (.ref aa), .unset] [(.ref aa)])) rfl rfl (hb hby d3_35)
  refine Go.step st4 ?_
  show Go _ _ _ _ _ _ _ (T4.setTop (mkF m 38 #[.val (.ref aa), .unset] [(.int tv)]))
  refine Go.step (fun t k => XS.iconst X4.here hx rfl (hb hby d3_38) k) ?_
  show Go _ _ _ _ _ _ _ (T4.setTop (mkF m 39 #[.val (.ref aa), .unset] [(.int (4 : Int32)), (.int tv)]))
  refine Go.step (fun t k => XS.imul X4.here hx rfl (hb hby d3_39) rfl k) ?_
  show Go _ _ _ _ _ _ _ (T4.setTop (mkF m 40 #[.val (.ref aa), .unset] [(.int (tv * (4 : Int32)))]))
  refine Go.step (fun t k => XS.istoreN X4.here hx rfl (hb hby d3_40) rfl (l' := #[.val (.ref aa), .val (.int (tv * (4 : Int32)))]) rfl k) ?_
  show Go _ _ _ _ _ _ _ (T4.setTop (mkF m 41 #[.val (.ref aa), .val (.int (tv * (4 : Int32)))] []))
  refine Go.step (fun t k => XS.aloadN X4.here hx rfl (hb hby d3_41) rfl rfl k) ?_
  show Go _ _ _ _ _ _ _ (T4.setTop (mkF m 42 #[.val (.ref aa), .val (.int (tv * (4 : Int32)))] [(.ref aa)]))
  obtain ⟨T5, X5, e5, st5⟩ := getF X4 hx hZ hown (host := "") (Or.inl (hw _ (List.mem_of_getElem? (i := 10) rfl))) Via.refl e4 F_lines_aa (g := (mkF m 42 #[.val (.ref aa), .val (.int (tv * (4 : Int32)))] [(.ref aa)])) rfl rfl (hb hby d3_42)
  refine Go.step st5 ?_
  show Go _ _ _ _ _ _ _ (T5.setTop (mkF m 45 #[.val (.ref aa), .val (.int (tv * (4 : Int32)))] [(.ref bl)]))
  refine Go.step (fun t k => XS.iloadN X5.here hx rfl (hb hby d3_45) rfl k) ?_
  show Go _ _ _ _ _ _ _ (T5.setTop (mkF m 46 #[.val (.ref aa), .val (.int (tv * (4 : Int32)))] [(.int (tv * (4 : Int32))), (.ref bl)]))
  refine Go.step (fun t k => XS.iconst X5.here hx rfl (hb hby d3_46) k) ?_
  show Go _ _ _ _ _ _ _ (T5.setTop (mkF m 47 #[.val (.ref aa), .val (.int (tv * (4 : Int32)))] [(.int (0 : Int32)), (.int (tv * (4 : Int32))), (.ref bl)]))
  refine Go.step (fun t k => XS.iadd X5.here hx rfl (hb hby d3_47) rfl k) ?_
  show Go _ _ _ _ _ _ _ (T5.setTop (mkF m 48 #[.val (.ref aa), .val (.int (tv * (4 : Int32)))] [(.int ((tv * (4 : Int32)) + (0 : Int32))), (.ref bl)]))
  refine Go.step (fun t k => XS.lconst X5.here hx rfl (hb hby d3_48) k) ?_
  show Go _ _ _ _ _ _ _ (T5.setTop (mkF m 49 #[.val (.ref aa), .val (.int (tv * (4 : Int32)))] [(.long (0 : Int64)), (.int ((tv * (4 : Int32)) + (0 : Int32))), (.ref bl)]))
  obtain ⟨T6, h6, X6, e6, W6, st6⟩ := own_stJ X5 hx hZ e5 A_bl (4 * kt + 0) (own_ix htp hkt rfl (by decide)) (by omega) (f := (mkF m 49 #[.val (.ref aa), .val (.int (tv * (4 : Int32)))] [(.long (0 : Int64)), (.int ((tv * (4 : Int32)) + (0 : Int32))), (.ref bl)])) rfl rfl (hb hby d3_49)
  have ne_aa_bl : aa ≠ bl := (own_neA E_aa (hw _ (List.mem_of_getElem? (i := 1) rfl)) A_bl)
  replace F_lines_aa := F_lines_aa.other W6 (Or.inl ne_aa_bl)
  replace F_records_aa := F_records_aa.other W6 (Or.inl ne_aa_bl)
  replace F_runRecords_aa := F_runRecords_aa.other W6 (Or.inl ne_aa_bl)
  replace F_runFirsts_aa := F_runFirsts_aa.other W6 (Or.inl ne_aa_bl)
  replace F_topics_aa := F_topics_aa.other W6 (Or.inl ne_aa_bl)
  replace F_recordCount_aa := F_recordCount_aa.other W6 (Or.inl ne_aa_bl)
  replace F_runCount_aa := F_runCount_aa.other W6 (Or.inl ne_aa_bl)
  replace F_origin_aa := F_origin_aa.other W6 (Or.inl ne_aa_bl)
  replace E_aa := E_aa.wr W6
  have Z6 := Nat.le_trans Z0 (Keep.of_wr W6).1
  have N6 := Fr.snoc X6 N0 g_bl
  have K6 := K0.wr W6 (Or.inl (List.mem_of_getElem? (i := 1) rfl))
  replace A_bl := A_bl.setJ W6
  refine Go.step st6 ?_
  show Go _ _ _ _ _ _ _ (T6.setTop (mkF m 50 #[.val (.ref aa), .val (.int (tv * (4 : Int32)))] []))
  refine Go.step (fun t k => XS.aloadN X6.here hx rfl (hb hby d3_50) rfl rfl k) ?_
  show Go _ _ _ _ _ _ _ (T6.setTop (mkF m 51 #[.val (.ref aa), .val (.int (tv * (4 : Int32)))] [(.ref aa)]))
  obtain ⟨T7, X7, e7, st7⟩ := getF X6 hx hZ hown (host := "") (Or.inl (hw _ (List.mem_of_getElem? (i := 10) rfl))) Via.refl e6 F_lines_aa (g := (mkF m 51 #[.val (.ref aa), .val (.int (tv * (4 : Int32)))] [(.ref aa)])) rfl rfl (hb hby d3_51)
  refine Go.step st7 ?_
  show Go _ _ _ _ _ _ _ (T7.setTop (mkF m 54 #[.val (.ref aa), .val (.int (tv * (4 : Int32)))] [(.ref bl)]))
  refine Go.step (fun t k => XS.iloadN X7.here hx rfl (hb hby d3_54) rfl k) ?_
  show Go _ _ _ _ _ _ _ (T7.setTop (mkF m 55 #[.val (.ref aa), .val (.int (tv * (4 : Int32)))] [(.int (tv * (4 : Int32))), (.ref bl)]))
  refine Go.step (fun t k => XS.iconst X7.here hx rfl (hb hby d3_55) k) ?_
  show Go _ _ _ _ _ _ _ (T7.setTop (mkF m 56 #[.val (.ref aa), .val (.int (tv * (4 : Int32)))] [(.int (1 : Int32)), (.int (tv * (4 : Int32))), (.ref bl)]))
  refine Go.step (fun t k => XS.iadd X7.here hx rfl (hb hby d3_56) rfl k) ?_
  show Go _ _ _ _ _ _ _ (T7.setTop (mkF m 57 #[.val (.ref aa), .val (.int (tv * (4 : Int32)))] [(.int ((tv * (4 : Int32)) + (1 : Int32))), (.ref bl)]))
  refine Go.step (fun t k => X7.ldc2Long hx hown (mvT hZ (hw _ (List.mem_of_getElem? (i := 26) rfl))) (g := (mkF m 57 #[.val (.ref aa), .val (.int (tv * (4 : Int32)))] [(.int ((tv * (4 : Int32)) + (1 : Int32))), (.ref bl)])) rfl (hb hby d3_57) _ k) ?_
  show Go _ _ _ _ _ _ _ (T7.setTop (mkF m 60 #[.val (.ref aa), .val (.int (tv * (4 : Int32)))] [(.long (-1 : Int64)), (.int ((tv * (4 : Int32)) + (1 : Int32))), (.ref bl)]))
  obtain ⟨T8, h8, X8, e8, W8, st8⟩ := own_stJ X7 hx hZ e7 A_bl (4 * kt + 1) (own_ix htp hkt rfl (by decide)) (by omega) (f := (mkF m 60 #[.val (.ref aa), .val (.int (tv * (4 : Int32)))] [(.long (-1 : Int64)), (.int ((tv * (4 : Int32)) + (1 : Int32))), (.ref bl)])) rfl rfl (hb hby d3_60)
  replace F_lines_aa := F_lines_aa.other W8 (Or.inl ne_aa_bl)
  replace F_records_aa := F_records_aa.other W8 (Or.inl ne_aa_bl)
  replace F_runRecords_aa := F_runRecords_aa.other W8 (Or.inl ne_aa_bl)
  replace F_runFirsts_aa := F_runFirsts_aa.other W8 (Or.inl ne_aa_bl)
  replace F_topics_aa := F_topics_aa.other W8 (Or.inl ne_aa_bl)
  replace F_recordCount_aa := F_recordCount_aa.other W8 (Or.inl ne_aa_bl)
  replace F_runCount_aa := F_runCount_aa.other W8 (Or.inl ne_aa_bl)
  replace F_origin_aa := F_origin_aa.other W8 (Or.inl ne_aa_bl)
  replace E_aa := E_aa.wr W8
  have Z8 := Nat.le_trans Z6 (Keep.of_wr W8).1
  have N8 := Fr.snoc X8 N6 g_bl
  have K8 := K6.wr W8 (Or.inl (List.mem_of_getElem? (i := 1) rfl))
  replace A_bl := A_bl.setJ W8
  refine Go.step st8 ?_
  show Go _ _ _ _ _ _ _ (T8.setTop (mkF m 61 #[.val (.ref aa), .val (.int (tv * (4 : Int32)))] []))
  refine Go.step (fun t k => XS.aloadN X8.here hx rfl (hb hby d3_61) rfl rfl k) ?_
  show Go _ _ _ _ _ _ _ (T8.setTop (mkF m 62 #[.val (.ref aa), .val (.int (tv * (4 : Int32)))] [(.ref aa)]))
  obtain ⟨T9, X9, e9, st9⟩ := getF X8 hx hZ hown (host := "") (Or.inl (hw _ (List.mem_of_getElem? (i := 10) rfl))) Via.refl e8 F_lines_aa (g := (mkF m 62 #[.val (.ref aa), .val (.int (tv * (4 : Int32)))] [(.ref aa)])) rfl rfl (hb hby d3_62)
  refine Go.step st9 ?_
  show Go _ _ _ _ _ _ _ (T9.setTop (mkF m 65 #[.val (.ref aa), .val (.int (tv * (4 : Int32)))] [(.ref bl)]))
  refine Go.step (fun t k => XS.iloadN X9.here hx rfl (hb hby d3_65) rfl k) ?_
  show Go _ _ _ _ _ _ _ (T9.setTop (mkF m 66 #[.val (.ref aa), .val (.int (tv * (4 : Int32)))] [(.int (tv * (4 : Int32))), (.ref bl)]))
  refine Go.step (fun t k => XS.iconst X9.here hx rfl (hb hby d3_66) k) ?_
  show Go _ _ _ _ _ _ _ (T9.setTop (mkF m 67 #[.val (.ref aa), .val (.int (tv * (4 : Int32)))] [(.int (3 : Int32)), (.int (tv * (4 : Int32))), (.ref bl)]))
  refine Go.step (fun t k => XS.iadd X9.here hx rfl (hb hby d3_67) rfl k) ?_
  show Go _ _ _ _ _ _ _ (T9.setTop (mkF m 68 #[.val (.ref aa), .val (.int (tv * (4 : Int32)))] [(.int ((tv * (4 : Int32)) + (3 : Int32))), (.ref bl)]))
  refine Go.step (fun t k => X9.ldc2Long hx hown (mvT hZ (hw _ (List.mem_of_getElem? (i := 27) rfl))) (g := (mkF m 68 #[.val (.ref aa), .val (.int (tv * (4 : Int32)))] [(.int ((tv * (4 : Int32)) + (3 : Int32))), (.ref bl)])) rfl (hb hby d3_68) _ k) ?_
  show Go _ _ _ _ _ _ _ (T9.setTop (mkF m 71 #[.val (.ref aa), .val (.int (tv * (4 : Int32)))] [(.long (4294967295 : Int64)), (.int ((tv * (4 : Int32)) + (3 : Int32))), (.ref bl)]))
  obtain ⟨T10, h10, X10, e10, W10, st10⟩ := own_stJ X9 hx hZ e9 A_bl (4 * kt + 3) (own_ix htp hkt rfl (by decide)) (by omega) (f := (mkF m 71 #[.val (.ref aa), .val (.int (tv * (4 : Int32)))] [(.long (4294967295 : Int64)), (.int ((tv * (4 : Int32)) + (3 : Int32))), (.ref bl)])) rfl rfl (hb hby d3_71)
  replace F_lines_aa := F_lines_aa.other W10 (Or.inl ne_aa_bl)
  replace F_records_aa := F_records_aa.other W10 (Or.inl ne_aa_bl)
  replace F_runRecords_aa := F_runRecords_aa.other W10 (Or.inl ne_aa_bl)
  replace F_runFirsts_aa := F_runFirsts_aa.other W10 (Or.inl ne_aa_bl)
  replace F_topics_aa := F_topics_aa.other W10 (Or.inl ne_aa_bl)
  replace F_recordCount_aa := F_recordCount_aa.other W10 (Or.inl ne_aa_bl)
  replace F_runCount_aa := F_runCount_aa.other W10 (Or.inl ne_aa_bl)
  replace F_origin_aa := F_origin_aa.other W10 (Or.inl ne_aa_bl)
  replace E_aa := E_aa.wr W10
  have Z10 := Nat.le_trans Z8 (Keep.of_wr W10).1
  have N10 := Fr.snoc X10 N8 g_bl
  have K10 := K8.wr W10 (Or.inl (List.mem_of_getElem? (i := 1) rfl))
  replace A_bl := A_bl.setJ W10
  refine Go.step st10 ?_
  show Go _ _ _ _ _ _ _ (T10.setTop (mkF m 72 #[.val (.ref aa), .val (.int (tv * (4 : Int32)))] []))
  refine Go.step (fun t k => XS.aloadN X10.here hx rfl (hb hby d3_72) rfl rfl k) ?_
  show Go _ _ _ _ _ _ _ (T10.setTop (mkF m 73 #[.val (.ref aa), .val (.int (tv * (4 : Int32)))] [(.ref aa)]))
  refine Go.step (fun t k => XS.dup X10.here hx rfl (hb hby d3_73) rfl rfl k) ?_
  show Go _ _ _ _ _ _ _ (T10.setTop (mkF m 74 #[.val (.ref aa), .val (.int (tv * (4 : Int32)))] [(.ref aa), (.ref aa)]))
  obtain ⟨T11, X11, e11, st11⟩ := getF X10 hx hZ hown (host := "") (Or.inl (hw _ (List.mem_of_getElem? (i := 24) rfl))) Via.refl e10 F_topics_aa (g := (mkF m 74 #[.val (.ref aa), .val (.int (tv * (4 : Int32)))] [(.ref aa), (.ref aa)])) rfl rfl (hb hby d3_74)
  refine Go.step st11 ?_
  show Go _ _ _ _ _ _ _ (T11.setTop (mkF m 77 #[.val (.ref aa), .val (.int (tv * (4 : Int32)))] [(.int tv), (.ref aa)]))
  refine Go.step (fun t k => XS.dupX1 X11.here hx rfl (hb hby d3_77) rfl rfl rfl k) ?_
  show Go _ _ _ _ _ _ _ (T11.setTop (mkF m 78 #[.val (.ref aa), .val (.int (tv * (4 : Int32)))] [(.int tv), (.ref aa), (.int tv)]))
  refine Go.step (fun t k => XS.iconst X11.here hx rfl (hb hby d3_78) k) ?_
  show Go _ _ _ _ _ _ _ (T11.setTop (mkF m 79 #[.val (.ref aa), .val (.int (tv * (4 : Int32)))] [(.int (1 : Int32)), (.int tv), (.ref aa), (.int tv)]))
  refine Go.step (fun t k => XS.iadd X11.here hx rfl (hb hby d3_79) rfl k) ?_
  show Go _ _ _ _ _ _ _ (T11.setTop (mkF m 80 #[.val (.ref aa), .val (.int (tv * (4 : Int32)))] [(.int (tv + (1 : Int32))), (.ref aa), (.int tv)]))
  obtain ⟨T12, h12, X12, e12, W12, st12⟩ := putF X11 hx hZ hown (host := "") (Or.inl (hw _ (List.mem_of_getElem? (i := 24) rfl))) Via.refl e11 F_topics_aa E_aa (Or.inl (hw _ (List.mem_of_getElem? (i := 25) rfl))) (hw _ (List.mem_of_getElem? (i := 1) rfl)) (ty := .int) (by decide) rfl rfl (g := (mkF m 80 #[.val (.ref aa), .val (.int (tv * (4 : Int32)))] [(.int (tv + (1 : Int32))), (.ref aa), (.int tv)])) rfl rfl (hb hby d3_80)
  replace F_lines_aa := F_lines_aa.other W12 (Or.inr (slot_ne (Or.inl (hw _ (List.mem_of_getElem? (i := 11) rfl))) (Or.inl (hw _ (List.mem_of_getElem? (i := 25) rfl))) (by decide) (t := (.array .long)) (t' := .int) (by decide) (by decide)))
  replace F_records_aa := F_records_aa.other W12 (Or.inr (slot_ne (Or.inl (hw _ (List.mem_of_getElem? (i := 14) rfl))) (Or.inl (hw _ (List.mem_of_getElem? (i := 25) rfl))) (by decide) (t := (.array .int)) (t' := .int) (by decide) (by decide)))
  replace F_runRecords_aa := F_runRecords_aa.other W12 (Or.inr (slot_ne (Or.inl (hw _ (List.mem_of_getElem? (i := 16) rfl))) (Or.inl (hw _ (List.mem_of_getElem? (i := 25) rfl))) (by decide) (t := (.array .int)) (t' := .int) (by decide) (by decide)))
  replace F_runFirsts_aa := F_runFirsts_aa.other W12 (Or.inr (slot_ne (Or.inl (hw _ (List.mem_of_getElem? (i := 18) rfl))) (Or.inl (hw _ (List.mem_of_getElem? (i := 25) rfl))) (by decide) (t := (.array .long)) (t' := .int) (by decide) (by decide)))
  replace F_recordCount_aa := F_recordCount_aa.other W12 (Or.inr (slot_ne (Or.inl (hw _ (List.mem_of_getElem? (i := 39) rfl))) (Or.inl (hw _ (List.mem_of_getElem? (i := 25) rfl))) (by decide) (t := .int) (t' := .int) (by decide) (by decide)))
  replace F_runCount_aa := F_runCount_aa.other W12 (Or.inr (slot_ne (Or.inl (hw _ (List.mem_of_getElem? (i := 52) rfl))) (Or.inl (hw _ (List.mem_of_getElem? (i := 25) rfl))) (by decide) (t := .int) (t' := .int) (by decide) (by decide)))
  replace F_origin_aa := F_origin_aa.other W12 (Or.inr (slot_ne (Or.inl (hw _ (List.mem_of_getElem? (i := 41) rfl))) (Or.inl (hw _ (List.mem_of_getElem? (i := 25) rfl))) (by decide) (t := .long) (t' := .int) (by decide) (by decide)))
  replace E_aa := E_aa.wr W12
  replace A_bl := A_bl.other W12 (Ne.symm ne_aa_bl)
  have Z12 := Nat.le_trans Z10 (Keep.of_wr W12).1
  have N12 := Fr.snoc X12 N10 g_aa
  have K12 := K10.wr W12 (Or.inl (List.mem_of_getElem? (i := 0) rfl))
  replace F_topics_aa := F_topics_aa.same W12
  refine Go.step st12 ?_
  show Go _ _ _ _ _ _ _ (T12.setTop (mkF m 83 #[.val (.ref aa), .val (.int (tv * (4 : Int32)))] [(.int tv)]))
  refine Go.retI X12 Bd.notSynchronized hx Bd.returns (hb hby d3_83) (by decide) (by decide) ?_
  rw [e12]
  exact ⟨rfl, N12, K12, F_lines_aa, F_records_aa, F_runRecords_aa, F_runFirsts_aa, F_topics_aa, F_recordCount_aa, F_runCount_aa, F_origin_aa, A_bl⟩
theorem d4_0 : decode prog_211_method_4_code 0 = .ok (.aload_n 0, 1) := by decide +kernel
theorem d4_1 : decode prog_211_method_4_code 1 = .ok (.getfield 11, 3) := by decide +kernel
theorem d4_4 : decode prog_211_method_4_code 4 = .ok (.iload_n 1, 1) := by decide +kernel
theorem d4_5 : decode prog_211_method_4_code 5 = .ok (.iconst 4, 1) := by decide +kernel
theorem d4_6 : decode prog_211_method_4_code 6 = .ok (.imul, 1) := by decide +kernel
theorem d4_7 : decode prog_211_method_4_code 7 = .ok (.iconst 0, 1) := by decide +kernel
theorem d4_8 : decode prog_211_method_4_code 8 = .ok (.iadd, 1) := by decide +kernel
theorem d4_9 : decode prog_211_method_4_code 9 = .ok (.lload_n 2, 1) := by decide +kernel
theorem d4_10 : decode prog_211_method_4_code 10 = .ok (.lastore, 1) := by decide +kernel
theorem d4_11 : decode prog_211_method_4_code 11 = .ok (.return_, 1) := by decide +kernel
theorem pn_4 : plainName "com/example/ferrylog/ferrylog/store/LiveIndex" = true := by first | (simp [plainName, overriddenIn]; done) | decide +kernel
theorem ef_4 (m : MethodId) (x0 : Addr) (x1 : Int32) (x2 : Int64) : entryFrame m #[(.ref x0), (.int x1), (.long x2)] 4 = mkF m 0 #[.val (.ref x0), .val (.int x1), .val (.long x2), .second] [] := by first | (simp [entryFrame, mkF, argsToLocals, Value.category]; done) | rfl
def Q4 (Z : State) (aa : Addr) (tp : Int32) (ev : Int64) (bl : Addr) (gg : Nat → Int64) (kt : Nat) (h0 : Heap) (n0 : Nat) (v : Option Value) (h : Heap) (L : List Loc) : Prop := v = none ∧ Fr n0 L ∧ Keep h0 h [bl] ∧ AryJ Z h bl 64 (up gg (4 * kt + 0) ev)
set_option maxRecDepth 65536 in
set_option maxHeartbeats 40000000 in
theorem rm4 (l : Launch) (Z : State) (a0 : Array Value) (hw : ∀ d ∈ tables_1, d.before a0 Z = true) (ws : List Jvm.Cond) (aa : Addr) (tp : Int32) (ev : Int64) (bl : Addr) (gg : Nat → Int64) (kt : Nat) (h0 : Heap) (n0 : Nat) (Z0 : n0 ≤ h0.size) (F_lines_aa : Fld Z h0 aa "com/example/ferrylog/ferrylog/store/LiveIndex" "lines" "[J" (.ref bl)) (A_bl : AryJ Z h0 bl 64 gg) (ne_aa_bl : aa ≠ bl) (g_bl : n0 ≤ bl) (htp : (tp.toInt = (kt : Int))) (hkt : (kt < 16)) :
    MetFree l (⟨"com/example/ferrylog/ferrylog/store/LiveIndex", "setEnd", "(IJ)V"⟩ : MethodName) (head1 (Jvm.Cond.code (⟨"com/example/ferrylog/ferrylog/store/LiveIndex", "setEnd", "(IJ)V"⟩ : MethodName) prog_211_method_4_code 4 none :: ws) ({ frames := 0, cells := 0, slots := 0, locals := 0 } : Room)) (fun a U => a = #[(.ref aa), (.int tp), (.long ev)] ∧ Z.Warmed39 U.vm ∧ U.heap = h0) (fun _ _ _ _ _ => True) (fun _ U o U' => ∃ v L, o = .returned v ∧ Q4 Z aa tp ev bl gg kt h0 n0 v U'.heap L ∧ FrameEnd U o U' L ({ frames := 0, cells := 0, slots := 0, locals := 0 } : Room).cells ({ frames := 0, cells := 0, slots := 0, locals := 0 } : Room).slots) := by
  refine MetFree.of_bodySF (plainFor_of_name pn_4) hisR ?_
  intro p e s m args below meth c s₁ Bd hml0 hP hK
  obtain ⟨rfl, hZ, hh⟩ := hP
  have hx := Bd.exec
  have hby := Bd.bytes
  have hml : c.maxLocals = 4 := hml0
  have hown : s.vm.findClass "com/example/ferrylog/ferrylog/store/LiveIndex" = some m.cls := findClass_of_methodNamed Bd.named
  have hnm := (name_of_methodNamed Bd.named Bd.method).1
  have X0 : Stand p l e ({ frames := 0, cells := 0, slots := 0, locals := 0 } : Room) s m #[(.ref aa), (.int tp), (.long ev)] below meth c s₁ [] 0 0 := Stand.of_body Bd
  have e0 : s₁.heap = h0 := by rw [← hh, Bd.state]; rfl
  have N0 := Fr.nil n0
  have K0 := Keep.refl h0 ([bl] : List Addr)
  show Go p e below s (Q4 Z aa tp ev bl gg kt h0 n0) ({ frames := 0, cells := 0, slots := 0, locals := 0 } : Room).cells ({ frames := 0, cells := 0, slots := 0, locals := 0 } : Room).slots (s₁.setTop (entryFrame m #[(.ref aa), (.int tp), (.long ev)] 4))
  rw [ef_4]
  show Go _ _ _ _ _ _ _ (s₁.setTop (mkF m 0 #[.val (.ref aa), .val (.int tp), .val (.long ev), .second] []))
  refine Go.step (fun t k => XS.aloadN X0.here hx rfl (hb hby d4_0) rfl rfl k) ?_
  show Go _ _ _ _ _ _ _ (s₁.setTop (mkF m 1 #[.val (.ref aa), .val (.int tp), .val (.long ev), .second] [(.ref aa)]))
  obtain ⟨T1, X1, e1, st1⟩ := getF X0 hx hZ hown (host := "") (Or.inl (hw _ (List.mem_of_getElem? (i := 10) rfl))) Via.refl e0 F_lines_aa (g := (mkF m 1 #[.val (.ref aa), .val (.int tp), .val (.long ev), .second] [(.ref aa)])) rfl rfl (hb hby d4_1)
  refine Go.step st1 ?_
  show Go _ _ _ _ _ _ _ (T1.setTop (mkF m 4 #[.val (.ref aa), .val (.int tp), .val (.long ev), .second] [(.ref bl)]))
  refine Go.step (fun t k => XS.iloadN X1.here hx rfl (hb hby d4_4) rfl k) ?_
  show Go _ _ _ _ _ _ _ (T1.setTop (mkF m 5 #[.val (.ref aa), .val (.int tp), .val (.long ev), .second] [(.int tp), (.ref bl)]))
  refine Go.step (fun t k => XS.iconst X1.here hx rfl (hb hby d4_5) k) ?_
  show Go _ _ _ _ _ _ _ (T1.setTop (mkF m 6 #[.val (.ref aa), .val (.int tp), .val (.long ev), .second] [(.int (4 : Int32)), (.int tp), (.ref bl)]))
  refine Go.step (fun t k => XS.imul X1.here hx rfl (hb hby d4_6) rfl k) ?_
  show Go _ _ _ _ _ _ _ (T1.setTop (mkF m 7 #[.val (.ref aa), .val (.int tp), .val (.long ev), .second] [(.int (tp * (4 : Int32))), (.ref bl)]))
  refine Go.step (fun t k => XS.iconst X1.here hx rfl (hb hby d4_7) k) ?_
  show Go _ _ _ _ _ _ _ (T1.setTop (mkF m 8 #[.val (.ref aa), .val (.int tp), .val (.long ev), .second] [(.int (0 : Int32)), (.int (tp * (4 : Int32))), (.ref bl)]))
  refine Go.step (fun t k => XS.iadd X1.here hx rfl (hb hby d4_8) rfl k) ?_
  show Go _ _ _ _ _ _ _ (T1.setTop (mkF m 9 #[.val (.ref aa), .val (.int tp), .val (.long ev), .second] [(.int ((tp * (4 : Int32)) + (0 : Int32))), (.ref bl)]))
  refine Go.step (fun t k => XS.lloadN X1.here hx rfl (hb hby d4_9) rfl k) ?_
  show Go _ _ _ _ _ _ _ (T1.setTop (mkF m 10 #[.val (.ref aa), .val (.int tp), .val (.long ev), .second] [(.long ev), (.int ((tp * (4 : Int32)) + (0 : Int32))), (.ref bl)]))
  obtain ⟨T2, h2, X2, e2, W2, st2⟩ := own_stJ X1 hx hZ e1 A_bl (4 * kt + 0) (own_ix htp hkt rfl (by decide)) (by omega) (f := (mkF m 10 #[.val (.ref aa), .val (.int tp), .val (.long ev), .second] [(.long ev), (.int ((tp * (4 : Int32)) + (0 : Int32))), (.ref bl)])) rfl rfl (hb hby d4_10)
  replace F_lines_aa := F_lines_aa.other W2 (Or.inl ne_aa_bl)
  have Z2 := Nat.le_trans Z0 (Keep.of_wr W2).1
  have N2 := Fr.snoc X2 N0 g_bl
  have K2 := K0.wr W2 (Or.inl (List.mem_of_getElem? (i := 0) rfl))
  replace A_bl := A_bl.setJ W2
  refine Go.step st2 ?_
  show Go _ _ _ _ _ _ _ (T2.setTop (mkF m 11 #[.val (.ref aa), .val (.int tp), .val (.long ev), .second] []))
  refine Go.retV X2 Bd.notSynchronized hx Bd.returns (hb hby d4_11) (by decide) (by decide) ?_
  rw [e2]
  exact ⟨rfl, N2, K2, A_bl⟩
theorem d8_0 : decode prog_211_method_7_code 0 = .ok (.iload_n 1, 1) := by decide +kernel
theorem d8_1 : decode prog_211_method_7_code 1 = .ok (.iconst 4, 1) := by decide +kernel
theorem d8_2 : decode prog_211_method_7_code 2 = .ok (.imul, 1) := by decide +kernel
theorem d8_3 : decode prog_211_method_7_code 3 = .ok (.istore_n 2, 1) := by decide +kernel
theorem d8_4 : decode prog_211_method_7_code 4 = .ok (.aload_n 0, 1) := by decide +kernel
theorem d8_5 : decode prog_211_method_7_code 5 = .ok (.getfield 11, 3) := by decide +kernel
theorem d8_8 : decode prog_211_method_7_code 8 = .ok (.iload_n 2, 1) := by decide +kernel
theorem d8_9 : decode prog_211_method_7_code 9 = .ok (.iconst 3, 1) := by decide +kernel
theorem d8_10 : decode prog_211_method_7_code 10 = .ok (.iadd, 1) := by decide +kernel
theorem d8_11 : decode prog_211_method_7_code 11 = .ok (.laload, 1) := by decide +kernel
theorem d8_12 : decode prog_211_method_7_code 12 = .ok (.lstore_n 3, 1) := by decide +kernel
theorem d8_13 : decode prog_211_method_7_code 13 = .ok (.aload_n 0, 1) := by decide +kernel
theorem d8_14 : decode prog_211_method_7_code 14 = .ok (.getfield 11, 3) := by decide +kernel
theorem d8_17 : decode prog_211_method_7_code 17 = .ok (.iload_n 2, 1) := by decide +kernel
theorem d8_18 : decode prog_211_method_7_code 18 = .ok (.iconst 3, 1) := by decide +kernel
theorem d8_19 : decode prog_211_method_7_code 19 = .ok (.iadd, 1) := by decide +kernel
theorem d8_20 : decode prog_211_method_7_code 20 = .ok (.lload_n 3, 1) := by decide +kernel
theorem d8_21 : decode prog_211_method_7_code 21 = .ok (.ldc2_w 39, 3) := by decide +kernel
theorem d8_24 : decode prog_211_method_7_code 24 = .ok (.ladd, 1) := by decide +kernel
theorem d8_25 : decode prog_211_method_7_code 25 = .ok (.lastore, 1) := by decide +kernel
theorem d8_26 : decode prog_211_method_7_code 26 = .ok (.aload_n 0, 1) := by decide +kernel
theorem d8_27 : decode prog_211_method_7_code 27 = .ok (.getfield 11, 3) := by decide +kernel
theorem d8_30 : decode prog_211_method_7_code 30 = .ok (.iload_n 2, 1) := by decide +kernel
theorem d8_31 : decode prog_211_method_7_code 31 = .ok (.iconst 0, 1) := by decide +kernel
theorem d8_32 : decode prog_211_method_7_code 32 = .ok (.iadd, 1) := by decide +kernel
theorem d8_33 : decode prog_211_method_7_code 33 = .ok (.laload, 1) := by decide +kernel
theorem d8_34 : decode prog_211_method_7_code 34 = .ok (.lload_n 3, 1) := by decide +kernel
theorem d8_35 : decode prog_211_method_7_code 35 = .ok (.bipush 32, 2) := by decide +kernel
theorem d8_37 : decode prog_211_method_7_code 37 = .ok (.lushr, 1) := by decide +kernel
theorem d8_38 : decode prog_211_method_7_code 38 = .ok (.ladd, 1) := by decide +kernel
theorem d8_39 : decode prog_211_method_7_code 39 = .ok (.lreturn, 1) := by decide +kernel
theorem pn_8 : plainName "com/example/ferrylog/ferrylog/store/LiveIndex" = true := by first | (simp [plainName, overriddenIn]; done) | decide +kernel
theorem ef_8 (m : MethodId) (x0 : Addr) (x1 : Int32) : entryFrame m #[(.ref x0), (.int x1)] 5 = mkF m 0 #[.val (.ref x0), .val (.int x1), .unset, .unset, .unset] [] := by first | (simp [entryFrame, mkF, argsToLocals, Value.category]; done) | rfl
def Q8 (Z : State) (aa : Addr) (tp : Int32) (bl : Addr) (gg : Nat → Int64) (kt : Nat) (h0 : Heap) (n0 : Nat) (v : Option Value) (h : Heap) (L : List Loc) : Prop := v = some (.long ((gg (4 * kt + 0)) + (((gg (4 * kt + 3)).toUInt64 >>> ((32 : Int32) &&& 0x3f).toInt64.toUInt64).toInt64))) ∧ Fr n0 L ∧ Keep h0 h [bl] ∧ AryJ Z h bl 64 (up gg (4 * kt + 3) ((gg (4 * kt + 3)) + (4294967296 : Int64)))
set_option maxRecDepth 65536 in
set_option maxHeartbeats 40000000 in
theorem rm8 (l : Launch) (Z : State) (a0 : Array Value) (hw : ∀ d ∈ tables_1, d.before a0 Z = true) (ws : List Jvm.Cond) (aa : Addr) (tp : Int32) (bl : Addr) (gg : Nat → Int64) (kt : Nat) (h0 : Heap) (n0 : Nat) (Z0 : n0 ≤ h0.size) (F_lines_aa : Fld Z h0 aa "com/example/ferrylog/ferrylog/store/LiveIndex" "lines" "[J" (.ref bl)) (A_bl : AryJ Z h0 bl 64 gg) (ne_aa_bl : aa ≠ bl) (g_bl : n0 ≤ bl) (htp : (tp.toInt = (kt : Int))) (hkt : (kt < 16)) :
    MetFree l (⟨"com/example/ferrylog/ferrylog/store/LiveIndex", "giveOffset", "(I)J"⟩ : MethodName) (head1 (Jvm.Cond.code (⟨"com/example/ferrylog/ferrylog/store/LiveIndex", "giveOffset", "(I)J"⟩ : MethodName) prog_211_method_7_code 5 (some .long) :: ws) ({ frames := 0, cells := 0, slots := 0, locals := 0 } : Room)) (fun a U => a = #[(.ref aa), (.int tp)] ∧ Z.Warmed39 U.vm ∧ U.heap = h0) (fun _ _ _ _ _ => True) (fun _ U o U' => ∃ v L, o = .returned v ∧ Q8 Z aa tp bl gg kt h0 n0 v U'.heap L ∧ FrameEnd U o U' L ({ frames := 0, cells := 0, slots := 0, locals := 0 } : Room).cells ({ frames := 0, cells := 0, slots := 0, locals := 0 } : Room).slots) := by
  refine MetFree.of_bodySF (plainFor_of_name pn_8) hisR ?_
  intro p e s m args below meth c s₁ Bd hml0 hP hK
  obtain ⟨rfl, hZ, hh⟩ := hP
  have hx := Bd.exec
  have hby := Bd.bytes
  have hml : c.maxLocals = 5 := hml0
  have hown : s.vm.findClass "com/example/ferrylog/ferrylog/store/LiveIndex" = some m.cls := findClass_of_methodNamed Bd.named
  have hnm := (name_of_methodNamed Bd.named Bd.method).1
  have X0 : Stand p l e ({ frames := 0, cells := 0, slots := 0, locals := 0 } : Room) s m #[(.ref aa), (.int tp)] below meth c s₁ [] 0 0 := Stand.of_body Bd
  have e0 : s₁.heap = h0 := by rw [← hh, Bd.state]; rfl
  have N0 := Fr.nil n0
  have K0 := Keep.refl h0 ([bl] : List Addr)
  show Go p e below s (Q8 Z aa tp bl gg kt h0 n0) ({ frames := 0, cells := 0, slots := 0, locals := 0 } : Room).cells ({ frames := 0, cells := 0, slots := 0, locals := 0 } : Room).slots (s₁.setTop (entryFrame m #[(.ref aa), (.int tp)] 5))
  rw [ef_8]
  show Go _ _ _ _ _ _ _ (s₁.setTop (mkF m 0 #[.val (.ref aa), .val (.int tp), .unset, .unset, .unset] []))
  refine Go.step (fun t k => XS.iloadN X0.here hx rfl (hb hby d8_0) rfl k) ?_
  show Go _ _ _ _ _ _ _ (s₁.setTop (mkF m 1 #[.val (.ref aa), .val (.int tp), .unset, .unset, .unset] [(.int tp)]))
  refine Go.step (fun t k => XS.iconst X0.here hx rfl (hb hby d8_1) k) ?_
  show Go _ _ _ _ _ _ _ (s₁.setTop (mkF m 2 #[.val (.ref aa), .val (.int tp), .unset, .unset, .unset] [(.int (4 : Int32)), (.int tp)]))
  refine Go.step (fun t k => XS.imul X0.here hx rfl (hb hby d8_2) rfl k) ?_
  show Go _ _ _ _ _ _ _ (s₁.setTop (mkF m 3 #[.val (.ref aa), .val (.int tp), .unset, .unset, .unset] [(.int (tp * (4 : Int32)))]))
  refine Go.step (fun t k => XS.istoreN X0.here hx rfl (hb hby d8_3) rfl (l' := #[.val (.ref aa), .val (.int tp), .val (.int (tp * (4 : Int32))), .unset, .unset]) rfl k) ?_
  show Go _ _ _ _ _ _ _ (s₁.setTop (mkF m 4 #[.val (.ref aa), .val (.int tp), .val (.int (tp * (4 : Int32))), .unset, .unset] []))
  refine Go.step (fun t k => XS.aloadN X0.here hx rfl (hb hby d8_4) rfl rfl k) ?_
  show Go _ _ _ _ _ _ _ (s₁.setTop (mkF m 5 #[.val (.ref aa), .val (.int tp), .val (.int (tp * (4 : Int32))), .unset, .unset] [(.ref aa)]))
  obtain ⟨T1, X1, e1, st1⟩ := getF X0 hx hZ hown (host := "") (Or.inl (hw _ (List.mem_of_getElem? (i := 10) rfl))) Via.refl e0 F_lines_aa (g := (mkF m 5 #[.val (.ref aa), .val (.int tp), .val (.int (tp * (4 : Int32))), .unset, .unset] [(.ref aa)])) rfl rfl (hb hby d8_5)
  refine Go.step st1 ?_
  show Go _ _ _ _ _ _ _ (T1.setTop (mkF m 8 #[.val (.ref aa), .val (.int tp), .val (.int (tp * (4 : Int32))), .unset, .unset] [(.ref bl)]))
  refine Go.step (fun t k => XS.iloadN X1.here hx rfl (hb hby d8_8) rfl k) ?_
  show Go _ _ _ _ _ _ _ (T1.setTop (mkF m 9 #[.val (.ref aa), .val (.int tp), .val (.int (tp * (4 : Int32))), .unset, .unset] [(.int (tp * (4 : Int32))), (.ref bl)]))
  refine Go.step (fun t k => XS.iconst X1.here hx rfl (hb hby d8_9) k) ?_
  show Go _ _ _ _ _ _ _ (T1.setTop (mkF m 10 #[.val (.ref aa), .val (.int tp), .val (.int (tp * (4 : Int32))), .unset, .unset] [(.int (3 : Int32)), (.int (tp * (4 : Int32))), (.ref bl)]))
  refine Go.step (fun t k => XS.iadd X1.here hx rfl (hb hby d8_10) rfl k) ?_
  show Go _ _ _ _ _ _ _ (T1.setTop (mkF m 11 #[.val (.ref aa), .val (.int tp), .val (.int (tp * (4 : Int32))), .unset, .unset] [(.int ((tp * (4 : Int32)) + (3 : Int32))), (.ref bl)]))
  refine Go.step (own_ld X1 hx hZ e1 A_bl (j := ((tp * (4 : Int32)) + (3 : Int32))) (4 * kt + 3) (own_ix htp hkt rfl (by decide)) (by omega) (v := (.long (gg (4 * kt + 3)))) rfl (Or.inr (Or.inl ⟨rfl, rfl⟩)) (f := (mkF m 11 #[.val (.ref aa), .val (.int tp), .val (.int (tp * (4 : Int32))), .unset, .unset] [(.int ((tp * (4 : Int32)) + (3 : Int32))), (.ref bl)])) rfl rfl (hb hby d8_11)) ?_
  show Go _ _ _ _ _ _ _ (T1.setTop (mkF m 12 #[.val (.ref aa), .val (.int tp), .val (.int (tp * (4 : Int32))), .unset, .unset] [(.long (gg (4 * kt + 3)))]))
  refine Go.step (fun t k => XS.lstoreN X1.here hx rfl (hb hby d8_12) rfl (l' := #[.val (.ref aa), .val (.int tp), .val (.int (tp * (4 : Int32))), .val (.long (gg (4 * kt + 3))), .second]) rfl k) ?_
  show Go _ _ _ _ _ _ _ (T1.setTop (mkF m 13 #[.val (.ref aa), .val (.int tp), .val (.int (tp * (4 : Int32))), .val (.long (gg (4 * kt + 3))), .second] []))
  refine Go.step (fun t k => XS.aloadN X1.here hx rfl (hb hby d8_13) rfl rfl k) ?_
  show Go _ _ _ _ _ _ _ (T1.setTop (mkF m 14 #[.val (.ref aa), .val (.int tp), .val (.int (tp * (4 : Int32))), .val (.long (gg (4 * kt + 3))), .second] [(.ref aa)]))
  obtain ⟨T3, X3, e3, st3⟩ := getF X1 hx hZ hown (host := "") (Or.inl (hw _ (List.mem_of_getElem? (i := 10) rfl))) Via.refl e1 F_lines_aa (g := (mkF m 14 #[.val (.ref aa), .val (.int tp), .val (.int (tp * (4 : Int32))), .val (.long (gg (4 * kt + 3))), .second] [(.ref aa)])) rfl rfl (hb hby d8_14)
  refine Go.step st3 ?_
  show Go _ _ _ _ _ _ _ (T3.setTop (mkF m 17 #[.val (.ref aa), .val (.int tp), .val (.int (tp * (4 : Int32))), .val (.long (gg (4 * kt + 3))), .second] [(.ref bl)]))
  refine Go.step (fun t k => XS.iloadN X3.here hx rfl (hb hby d8_17) rfl k) ?_
  show Go _ _ _ _ _ _ _ (T3.setTop (mkF m 18 #[.val (.ref aa), .val (.int tp), .val (.int (tp * (4 : Int32))), .val (.long (gg (4 * kt + 3))), .second] [(.int (tp * (4 : Int32))), (.ref bl)]))
  refine Go.step (fun t k => XS.iconst X3.here hx rfl (hb hby d8_18) k) ?_
  show Go _ _ _ _ _ _ _ (T3.setTop (mkF m 19 #[.val (.ref aa), .val (.int tp), .val (.int (tp * (4 : Int32))), .val (.long (gg (4 * kt + 3))), .second] [(.int (3 : Int32)), (.int (tp * (4 : Int32))), (.ref bl)]))
  refine Go.step (fun t k => XS.iadd X3.here hx rfl (hb hby d8_19) rfl k) ?_
  show Go _ _ _ _ _ _ _ (T3.setTop (mkF m 20 #[.val (.ref aa), .val (.int tp), .val (.int (tp * (4 : Int32))), .val (.long (gg (4 * kt + 3))), .second] [(.int ((tp * (4 : Int32)) + (3 : Int32))), (.ref bl)]))
  refine Go.step (fun t k => XS.lloadN X3.here hx rfl (hb hby d8_20) rfl k) ?_
  show Go _ _ _ _ _ _ _ (T3.setTop (mkF m 21 #[.val (.ref aa), .val (.int tp), .val (.int (tp * (4 : Int32))), .val (.long (gg (4 * kt + 3))), .second] [(.long (gg (4 * kt + 3))), (.int ((tp * (4 : Int32)) + (3 : Int32))), (.ref bl)]))
  refine Go.step (fun t k => X3.ldc2Long hx hown (mvT hZ (hw _ (List.mem_of_getElem? (i := 59) rfl))) (g := (mkF m 21 #[.val (.ref aa), .val (.int tp), .val (.int (tp * (4 : Int32))), .val (.long (gg (4 * kt + 3))), .second] [(.long (gg (4 * kt + 3))), (.int ((tp * (4 : Int32)) + (3 : Int32))), (.ref bl)])) rfl (hb hby d8_21) _ k) ?_
  show Go _ _ _ _ _ _ _ (T3.setTop (mkF m 24 #[.val (.ref aa), .val (.int tp), .val (.int (tp * (4 : Int32))), .val (.long (gg (4 * kt + 3))), .second] [(.long (4294967296 : Int64)), (.long (gg (4 * kt + 3))), (.int ((tp * (4 : Int32)) + (3 : Int32))), (.ref bl)]))
  refine Go.step (fun t k => XS.ladd X3.here hx rfl (hb hby d8_24) rfl k) ?_
  show Go _ _ _ _ _ _ _ (T3.setTop (mkF m 25 #[.val (.ref aa), .val (.int tp), .val (.int (tp * (4 : Int32))), .val (.long (gg (4 * kt + 3))), .second] [(.long ((gg (4 * kt + 3)) + (4294967296 : Int64))), (.int ((tp * (4 : Int32)) + (3 : Int32))), (.ref bl)]))
  obtain ⟨T4, h4, X4, e4, W4, st4⟩ := own_stJ X3 hx hZ e3 A_bl (4 * kt + 3) (own_ix htp hkt rfl (by decide)) (by omega) (f := (mkF m 25 #[.val (.ref aa), .val (.int tp), .val (.int (tp * (4 : Int32))), .val (.long (gg (4 * kt + 3))), .second] [(.long ((gg (4 * kt + 3)) + (4294967296 : Int64))), (.int ((tp * (4 : Int32)) + (3 : Int32))), (.ref bl)])) rfl rfl (hb hby d8_25)
  replace F_lines_aa := F_lines_aa.other W4 (Or.inl ne_aa_bl)
  have Z4 := Nat.le_trans Z0 (Keep.of_wr W4).1
  have N4 := Fr.snoc X4 N0 g_bl
  have K4 := K0.wr W4 (Or.inl (List.mem_of_getElem? (i := 0) rfl))
  replace A_bl := A_bl.setJ W4
  refine Go.step st4 ?_
  show Go _ _ _ _ _ _ _ (T4.setTop (mkF m 26 #[.val (.ref aa), .val (.int tp), .val (.int (tp * (4 : Int32))), .val (.long (gg (4 * kt + 3))), .second] []))
  refine Go.step (fun t k => XS.aloadN X4.here hx rfl (hb hby d8_26) rfl rfl k) ?_
  show Go _ _ _ _ _ _ _ (T4.setTop (mkF m 27 #[.val (.ref aa), .val (.int tp), .val (.int (tp * (4 : Int32))), .val (.long (gg (4 * kt + 3))), .second] [(.ref aa)]))
  obtain ⟨T5, X5, e5, st5⟩ := getF X4 hx hZ hown (host := "") (Or.inl (hw _ (List.mem_of_getElem? (i := 10) rfl))) Via.refl e4 F_lines_aa (g := (mkF m 27 #[.val (.ref aa), .val (.int tp), .val (.int (tp * (4 : Int32))), .val (.long (gg (4 * kt + 3))), .second] [(.ref aa)])) rfl rfl (hb hby d8_27)
  refine Go.step st5 ?_
  show Go _ _ _ _ _ _ _ (T5.setTop (mkF m 30 #[.val (.ref aa), .val (.int tp), .val (.int (tp * (4 : Int32))), .val (.long (gg (4 * kt + 3))), .second] [(.ref bl)]))
  refine Go.step (fun t k => XS.iloadN X5.here hx rfl (hb hby d8_30) rfl k) ?_
  show Go _ _ _ _ _ _ _ (T5.setTop (mkF m 31 #[.val (.ref aa), .val (.int tp), .val (.int (tp * (4 : Int32))), .val (.long (gg (4 * kt + 3))), .second] [(.int (tp * (4 : Int32))), (.ref bl)]))
  refine Go.step (fun t k => XS.iconst X5.here hx rfl (hb hby d8_31) k) ?_
  show Go _ _ _ _ _ _ _ (T5.setTop (mkF m 32 #[.val (.ref aa), .val (.int tp), .val (.int (tp * (4 : Int32))), .val (.long (gg (4 * kt + 3))), .second] [(.int (0 : Int32)), (.int (tp * (4 : Int32))), (.ref bl)]))
  refine Go.step (fun t k => XS.iadd X5.here hx rfl (hb hby d8_32) rfl k) ?_
  show Go _ _ _ _ _ _ _ (T5.setTop (mkF m 33 #[.val (.ref aa), .val (.int tp), .val (.int (tp * (4 : Int32))), .val (.long (gg (4 * kt + 3))), .second] [(.int ((tp * (4 : Int32)) + (0 : Int32))), (.ref bl)]))
  refine Go.step (own_ld X5 hx hZ e5 A_bl (j := ((tp * (4 : Int32)) + (0 : Int32))) (4 * kt + 0) (own_ix htp hkt rfl (by decide)) (by omega) (v := (.long (gg (4 * kt + 0)))) (congrArg Value.long (up_ne _ _ (by omega))) (Or.inr (Or.inl ⟨rfl, rfl⟩)) (f := (mkF m 33 #[.val (.ref aa), .val (.int tp), .val (.int (tp * (4 : Int32))), .val (.long (gg (4 * kt + 3))), .second] [(.int ((tp * (4 : Int32)) + (0 : Int32))), (.ref bl)])) rfl rfl (hb hby d8_33)) ?_
  show Go _ _ _ _ _ _ _ (T5.setTop (mkF m 34 #[.val (.ref aa), .val (.int tp), .val (.int (tp * (4 : Int32))), .val (.long (gg (4 * kt + 3))), .second] [(.long (gg (4 * kt + 0)))]))
  refine Go.step (fun t k => XS.lloadN X5.here hx rfl (hb hby d8_34) rfl k) ?_
  show Go _ _ _ _ _ _ _ (T5.setTop (mkF m 35 #[.val (.ref aa), .val (.int tp), .val (.int (tp * (4 : Int32))), .val (.long (gg (4 * kt + 3))), .second] [(.long (gg (4 * kt + 3))), (.long (gg (4 * kt + 0)))]))
  refine Go.step (fun t k => XS.bipush X5.here hx rfl (hb hby d8_35) k) ?_
  show Go _ _ _ _ _ _ _ (T5.setTop (mkF m 37 #[.val (.ref aa), .val (.int tp), .val (.int (tp * (4 : Int32))), .val (.long (gg (4 * kt + 3))), .second] [(.int (32 : Int32)), (.long (gg (4 * kt + 3))), (.long (gg (4 * kt + 0)))]))
  refine Go.step (fun t k => XS.lushr X5.here hx rfl (hb hby d8_37) rfl k) ?_
  show Go _ _ _ _ _ _ _ (T5.setTop (mkF m 38 #[.val (.ref aa), .val (.int tp), .val (.int (tp * (4 : Int32))), .val (.long (gg (4 * kt + 3))), .second] [(.long (((gg (4 * kt + 3)).toUInt64 >>> ((32 : Int32) &&& 0x3f).toInt64.toUInt64).toInt64)), (.long (gg (4 * kt + 0)))]))
  refine Go.step (fun t k => XS.ladd X5.here hx rfl (hb hby d8_38) rfl k) ?_
  show Go _ _ _ _ _ _ _ (T5.setTop (mkF m 39 #[.val (.ref aa), .val (.int tp), .val (.int (tp * (4 : Int32))), .val (.long (gg (4 * kt + 3))), .second] [(.long ((gg (4 * kt + 0)) + (((gg (4 * kt + 3)).toUInt64 >>> ((32 : Int32) &&& 0x3f).toInt64.toUInt64).toInt64)))]))
  refine Go.retJ X5 Bd.notSynchronized hx Bd.returns (hb hby d8_39) (by decide) (by decide) ?_
  rw [e5]
  exact ⟨rfl, N4, K4, A_bl⟩
theorem d10_0 : decode prog_211_method_11_code 0 = .ok (.aload_n 0, 1) := by decide +kernel
theorem d10_1 : decode prog_211_method_11_code 1 = .ok (.getfield 11, 3) := by decide +kernel
theorem d10_4 : decode prog_211_method_11_code 4 = .ok (.iload_n 1, 1) := by decide +kernel
theorem d10_5 : decode prog_211_method_11_code 5 = .ok (.iconst 4, 1) := by decide +kernel
theorem d10_6 : decode prog_211_method_11_code 6 = .ok (.imul, 1) := by decide +kernel
theorem d10_7 : decode prog_211_method_11_code 7 = .ok (.iconst 3, 1) := by decide +kernel
theorem d10_8 : decode prog_211_method_11_code 8 = .ok (.iadd, 1) := by decide +kernel
theorem d10_9 : decode prog_211_method_11_code 9 = .ok (.laload, 1) := by decide +kernel
theorem d10_10 : decode prog_211_method_11_code 10 = .ok (.l2i, 1) := by decide +kernel
theorem d10_11 : decode prog_211_method_11_code 11 = .ok (.ireturn, 1) := by decide +kernel
theorem pn_10 : plainName "com/example/ferrylog/ferrylog/store/LiveIndex" = true := by first | (simp [plainName, overriddenIn]; done) | decide +kernel
theorem ef_10 (m : MethodId) (x0 : Addr) (x1 : Int32) : entryFrame m #[(.ref x0), (.int x1)] 2 = mkF m 0 #[.val (.ref x0), .val (.int x1)] [] := by first | (simp [entryFrame, mkF, argsToLocals, Value.category]; done) | rfl
def Q10 (Z : State) (aa : Addr) (tp : Int32) (bl : Addr) (gg : Nat → Int64) (kt : Nat) (h0 : Heap) (n0 : Nat) (v : Option Value) (h : Heap) (L : List Loc) : Prop := v = some (.int ((gg (4 * kt + 3)).toInt32)) ∧ Fr n0 L ∧ h = h0
set_option maxRecDepth 65536 in
set_option maxHeartbeats 40000000 in
theorem rm10 (l : Launch) (Z : State) (a0 : Array Value) (hw : ∀ d ∈ tables_1, d.before a0 Z = true) (ws : List Jvm.Cond) (aa : Addr) (tp : Int32) (bl : Addr) (gg : Nat → Int64) (kt : Nat) (h0 : Heap) (n0 : Nat) (Z0 : n0 ≤ h0.size) (F_lines_aa : Fld Z h0 aa "com/example/ferrylog/ferrylog/store/LiveIndex" "lines" "[J" (.ref bl)) (A_bl : AryJ Z h0 bl 64 gg) (ne_aa_bl : aa ≠ bl) (htp : (tp.toInt = (kt : Int))) (hkt : (kt < 16)) :
    MetFree l (⟨"com/example/ferrylog/ferrylog/store/LiveIndex", "last", "(I)I"⟩ : MethodName) (head1 (Jvm.Cond.code (⟨"com/example/ferrylog/ferrylog/store/LiveIndex", "last", "(I)I"⟩ : MethodName) prog_211_method_11_code 2 (some .int) :: ws) ({ frames := 0, cells := 0, slots := 0, locals := 0 } : Room)) (fun a U => a = #[(.ref aa), (.int tp)] ∧ Z.Warmed39 U.vm ∧ U.heap = h0) (fun _ _ _ _ _ => True) (fun _ U o U' => ∃ v L, o = .returned v ∧ Q10 Z aa tp bl gg kt h0 n0 v U'.heap L ∧ FrameEnd U o U' L ({ frames := 0, cells := 0, slots := 0, locals := 0 } : Room).cells ({ frames := 0, cells := 0, slots := 0, locals := 0 } : Room).slots) := by
  refine MetFree.of_bodySF (plainFor_of_name pn_10) hisR ?_
  intro p e s m args below meth c s₁ Bd hml0 hP hK
  obtain ⟨rfl, hZ, hh⟩ := hP
  have hx := Bd.exec
  have hby := Bd.bytes
  have hml : c.maxLocals = 2 := hml0
  have hown : s.vm.findClass "com/example/ferrylog/ferrylog/store/LiveIndex" = some m.cls := findClass_of_methodNamed Bd.named
  have hnm := (name_of_methodNamed Bd.named Bd.method).1
  have X0 : Stand p l e ({ frames := 0, cells := 0, slots := 0, locals := 0 } : Room) s m #[(.ref aa), (.int tp)] below meth c s₁ [] 0 0 := Stand.of_body Bd
  have e0 : s₁.heap = h0 := by rw [← hh, Bd.state]; rfl
  have N0 := Fr.nil n0
  show Go p e below s (Q10 Z aa tp bl gg kt h0 n0) ({ frames := 0, cells := 0, slots := 0, locals := 0 } : Room).cells ({ frames := 0, cells := 0, slots := 0, locals := 0 } : Room).slots (s₁.setTop (entryFrame m #[(.ref aa), (.int tp)] 2))
  rw [ef_10]
  show Go _ _ _ _ _ _ _ (s₁.setTop (mkF m 0 #[.val (.ref aa), .val (.int tp)] []))
  refine Go.step (fun t k => XS.aloadN X0.here hx rfl (hb hby d10_0) rfl rfl k) ?_
  show Go _ _ _ _ _ _ _ (s₁.setTop (mkF m 1 #[.val (.ref aa), .val (.int tp)] [(.ref aa)]))
  obtain ⟨T1, X1, e1, st1⟩ := getF X0 hx hZ hown (host := "") (Or.inl (hw _ (List.mem_of_getElem? (i := 10) rfl))) Via.refl e0 F_lines_aa (g := (mkF m 1 #[.val (.ref aa), .val (.int tp)] [(.ref aa)])) rfl rfl (hb hby d10_1)
  refine Go.step st1 ?_
  show Go _ _ _ _ _ _ _ (T1.setTop (mkF m 4 #[.val (.ref aa), .val (.int tp)] [(.ref bl)]))
  refine Go.step (fun t k => XS.iloadN X1.here hx rfl (hb hby d10_4) rfl k) ?_
  show Go _ _ _ _ _ _ _ (T1.setTop (mkF m 5 #[.val (.ref aa), .val (.int tp)] [(.int tp), (.ref bl)]))
  refine Go.step (fun t k => XS.iconst X1.here hx rfl (hb hby d10_5) k) ?_
  show Go _ _ _ _ _ _ _ (T1.setTop (mkF m 6 #[.val (.ref aa), .val (.int tp)] [(.int (4 : Int32)), (.int tp), (.ref bl)]))
  refine Go.step (fun t k => XS.imul X1.here hx rfl (hb hby d10_6) rfl k) ?_
  show Go _ _ _ _ _ _ _ (T1.setTop (mkF m 7 #[.val (.ref aa), .val (.int tp)] [(.int (tp * (4 : Int32))), (.ref bl)]))
  refine Go.step (fun t k => XS.iconst X1.here hx rfl (hb hby d10_7) k) ?_
  show Go _ _ _ _ _ _ _ (T1.setTop (mkF m 8 #[.val (.ref aa), .val (.int tp)] [(.int (3 : Int32)), (.int (tp * (4 : Int32))), (.ref bl)]))
  refine Go.step (fun t k => XS.iadd X1.here hx rfl (hb hby d10_8) rfl k) ?_
  show Go _ _ _ _ _ _ _ (T1.setTop (mkF m 9 #[.val (.ref aa), .val (.int tp)] [(.int ((tp * (4 : Int32)) + (3 : Int32))), (.ref bl)]))
  refine Go.step (own_ld X1 hx hZ e1 A_bl (j := ((tp * (4 : Int32)) + (3 : Int32))) (4 * kt + 3) (own_ix htp hkt rfl (by decide)) (by omega) (v := (.long (gg (4 * kt + 3)))) rfl (Or.inr (Or.inl ⟨rfl, rfl⟩)) (f := (mkF m 9 #[.val (.ref aa), .val (.int tp)] [(.int ((tp * (4 : Int32)) + (3 : Int32))), (.ref bl)])) rfl rfl (hb hby d10_9)) ?_
  show Go _ _ _ _ _ _ _ (T1.setTop (mkF m 10 #[.val (.ref aa), .val (.int tp)] [(.long (gg (4 * kt + 3)))]))
  refine Go.step (fun t k => XS.l2i X1.here hx rfl (hb hby d10_10) rfl k) ?_
  show Go _ _ _ _ _ _ _ (T1.setTop (mkF m 11 #[.val (.ref aa), .val (.int tp)] [(.int ((gg (4 * kt + 3)).toInt32))]))
  refine Go.retI X1 Bd.notSynchronized hx Bd.returns (hb hby d10_11) (by decide) (by decide) ?_
  rw [e1]
  exact ⟨rfl, N0, rfl⟩
theorem d6_0 : decode jdk_29_method_43_code 0 = .ok (.lload_n 0, 1) := by decide +kernel
theorem d6_1 : decode jdk_29_method_43_code 1 = .ok (.l2i, 1) := by decide +kernel
theorem d6_2 : decode jdk_29_method_43_code 2 = .ok (.i2l, 1) := by decide +kernel
theorem d6_3 : decode jdk_29_method_43_code 3 = .ok (.lload_n 0, 1) := by decide +kernel
theorem d6_4 : decode jdk_29_method_43_code 4 = .ok (.lcmp, 1) := by decide +kernel
theorem d6_5 : decode jdk_29_method_43_code 5 = .ok (.ifCond .eq 13, 3) := by decide +kernel
theorem d6_18 : decode jdk_29_method_43_code 18 = .ok (.lload_n 0, 1) := by decide +kernel
theorem d6_19 : decode jdk_29_method_43_code 19 = .ok (.l2i, 1) := by decide +kernel
theorem d6_20 : decode jdk_29_method_43_code 20 = .ok (.ireturn, 1) := by decide +kernel
theorem ef_6 (m : MethodId) (x0 : Int64) : entryFrame m #[(.long x0)] 2 = mkF m 0 #[.val (.long x0), .second] [] := by first | (simp [entryFrame, mkF, argsToLocals, Value.category]; done) | rfl
def Q6 (Z : State) (xx : Int64) (h0 : Heap) (n0 : Nat) (v : Option Value) (h : Heap) (L : List Loc) : Prop := v = some (.int (xx.toInt32)) ∧ Fr n0 L ∧ h = h0
set_option maxRecDepth 65536 in
set_option maxHeartbeats 40000000 in
theorem rm6 (l : Launch) (Z : State) (a0 : Array Value) (hw : ∀ d ∈ tables_1, d.before a0 Z = true) (ws : List Jvm.Cond) (xx : Int64) (h0 : Heap) (n0 : Nat) (Z0 : n0 ≤ h0.size) (hex : (((xx.toInt32).toInt64) = xx)) :
    MetFree l (⟨"java/lang/Math", "toIntExact", "(J)I"⟩ : MethodName) (head1 (Jvm.Cond.code (⟨"java/lang/Math", "toIntExact", "(J)I"⟩ : MethodName) jdk_29_method_43_code 2 (some .int) :: ws) ({ frames := 0, cells := 0, slots := 0, locals := 0 } : Room)) (fun a U => a = #[(.long xx)] ∧ Z.Warmed39 U.vm ∧ U.heap = h0) (fun _ _ _ _ _ => True) (fun _ U o U' => ∃ v L, o = .returned v ∧ Q6 Z xx h0 n0 v U'.heap L ∧ FrameEnd U o U' L ({ frames := 0, cells := 0, slots := 0, locals := 0 } : Room).cells ({ frames := 0, cells := 0, slots := 0, locals := 0 } : Room).slots) := by
  refine MetFree.of_bodySF (Jvm.Free.JP.mathPlain rfl (by decide +kernel)) hisR ?_
  intro p e s m args below meth c s₁ Bd hml0 hP hK
  obtain ⟨rfl, hZ, hh⟩ := hP
  have hx := Bd.exec
  have hby := Bd.bytes
  have hml : c.maxLocals = 2 := hml0
  have hown : s.vm.findClass "java/lang/Math" = some m.cls := findClass_of_methodNamed Bd.named
  have hnm := (name_of_methodNamed Bd.named Bd.method).1
  have X0 : Stand p l e ({ frames := 0, cells := 0, slots := 0, locals := 0 } : Room) s m #[(.long xx)] below meth c s₁ [] 0 0 := Stand.of_body Bd
  have e0 : s₁.heap = h0 := by rw [← hh, Bd.state]; rfl
  have N0 := Fr.nil n0
  show Go p e below s (Q6 Z xx h0 n0) ({ frames := 0, cells := 0, slots := 0, locals := 0 } : Room).cells ({ frames := 0, cells := 0, slots := 0, locals := 0 } : Room).slots (s₁.setTop (entryFrame m #[(.long xx)] 2))
  rw [ef_6]
  show Go _ _ _ _ _ _ _ (s₁.setTop (mkF m 0 #[.val (.long xx), .second] []))
  refine Go.step (fun t k => XS.lloadN X0.here hx rfl (hb hby d6_0) rfl k) ?_
  show Go _ _ _ _ _ _ _ (s₁.setTop (mkF m 1 #[.val (.long xx), .second] [(.long xx)]))
  refine Go.step (fun t k => XS.l2i X0.here hx rfl (hb hby d6_1) rfl k) ?_
  show Go _ _ _ _ _ _ _ (s₁.setTop (mkF m 2 #[.val (.long xx), .second] [(.int (xx.toInt32))]))
  refine Go.step (fun t k => XS.i2l X0.here hx rfl (hb hby d6_2) rfl k) ?_
  show Go _ _ _ _ _ _ _ (s₁.setTop (mkF m 3 #[.val (.long xx), .second] [(.long ((xx.toInt32).toInt64))]))
  refine Go.step (fun t k => XS.lloadN X0.here hx rfl (hb hby d6_3) rfl k) ?_
  show Go _ _ _ _ _ _ _ (s₁.setTop (mkF m 4 #[.val (.long xx), .second] [(.long xx), (.long ((xx.toInt32).toInt64))]))
  refine Go.step (fun t k => XS.lcmp X0.here hx rfl (hb hby d6_4) rfl k) ?_
  show Go _ _ _ _ _ _ _ (s₁.setTop (mkF m 5 #[.val (.long xx), .second] [(.int (lcmpW ((xx.toInt32).toInt64) xx))]))
  refine Go.step (fun t k => XS.ifYes X0.here hx rfl (pc0 := 5) (pc' := 18) rfl (hb hby d6_5) rfl ((if0 _ _).trans (teq (own_lweq (hex : ((xx.toInt32).toInt64) = xx))).1) (by decide) (by decide) k) ?_
  show Go _ _ _ _ _ _ _ (s₁.setTop (mkF m 18 #[.val (.long xx), .second] []))
  refine Go.step (fun t k => XS.lloadN X0.here hx rfl (hb hby d6_18) rfl k) ?_
  show Go _ _ _ _ _ _ _ (s₁.setTop (mkF m 19 #[.val (.long xx), .second] [(.long xx)]))
  refine Go.step (fun t k => XS.l2i X0.here hx rfl (hb hby d6_19) rfl k) ?_
  show Go _ _ _ _ _ _ _ (s₁.setTop (mkF m 20 #[.val (.long xx), .second] [(.int (xx.toInt32))]))
  refine Go.retI X0 Bd.notSynchronized hx Bd.returns (hb hby d6_20) (by decide) (by decide) ?_
  rw [e0]
  exact ⟨rfl, N0, rfl⟩
theorem d7_0 : decode prog_211_method_10_code 0 = .ok (.aload_n 0, 1) := by decide +kernel
theorem d7_1 : decode prog_211_method_10_code 1 = .ok (.getfield 64, 3) := by decide +kernel
theorem d7_4 : decode prog_211_method_10_code 4 = .ok (.aload_n 0, 1) := by decide +kernel
theorem d7_5 : decode prog_211_method_10_code 5 = .ok (.getfield 19, 3) := by decide +kernel
theorem d7_8 : decode prog_211_method_10_code 8 = .ok (.arraylength, 1) := by decide +kernel
theorem d7_9 : decode prog_211_method_10_code 9 = .ok (.if_icmp .ne 37, 3) := by decide +kernel
theorem d7_46 : decode prog_211_method_10_code 46 = .ok (.aload_n 0, 1) := by decide +kernel
theorem d7_47 : decode prog_211_method_10_code 47 = .ok (.getfield 19, 3) := by decide +kernel
theorem d7_50 : decode prog_211_method_10_code 50 = .ok (.aload_n 0, 1) := by decide +kernel
theorem d7_51 : decode prog_211_method_10_code 51 = .ok (.getfield 64, 3) := by decide +kernel
theorem d7_54 : decode prog_211_method_10_code 54 = .ok (.iload_n 1, 1) := by decide +kernel
theorem d7_55 : decode prog_211_method_10_code 55 = .ok (.iastore, 1) := by decide +kernel
theorem d7_56 : decode prog_211_method_10_code 56 = .ok (.aload_n 0, 1) := by decide +kernel
theorem d7_57 : decode prog_211_method_10_code 57 = .ok (.getfield 22, 3) := by decide +kernel
theorem d7_60 : decode prog_211_method_10_code 60 = .ok (.aload_n 0, 1) := by decide +kernel
theorem d7_61 : decode prog_211_method_10_code 61 = .ok (.dup, 1) := by decide +kernel
theorem d7_62 : decode prog_211_method_10_code 62 = .ok (.getfield 64, 3) := by decide +kernel
theorem d7_65 : decode prog_211_method_10_code 65 = .ok (.dup_x1, 1) := by decide +kernel
theorem d7_66 : decode prog_211_method_10_code 66 = .ok (.iconst 1, 1) := by decide +kernel
theorem d7_67 : decode prog_211_method_10_code 67 = .ok (.iadd, 1) := by decide +kernel
theorem d7_68 : decode prog_211_method_10_code 68 = .ok (.putfield 64, 3) := by decide +kernel
theorem d7_71 : decode prog_211_method_10_code 71 = .ok (.lload_n 2, 1) := by decide +kernel
theorem d7_72 : decode prog_211_method_10_code 72 = .ok (.lastore, 1) := by decide +kernel
theorem d7_73 : decode prog_211_method_10_code 73 = .ok (.return_, 1) := by decide +kernel
theorem pn_7 : plainName "com/example/ferrylog/ferrylog/store/LiveIndex" = true := by first | (simp [plainName, overriddenIn]; done) | decide +kernel
theorem ef_7 (m : MethodId) (x0 : Addr) (x1 : Int32) (x2 : Int64) : entryFrame m #[(.ref x0), (.int x1), (.long x2)] 4 = mkF m 0 #[.val (.ref x0), .val (.int x1), .val (.long x2), .second] [] := by first | (simp [entryFrame, mkF, argsToLocals, Value.category]; done) | rfl
def Q7 (Z : State) (aa : Addr) (rr : Int32) (ev : Int64) (bl : Addr) (br : Addr) (bq : Addr) (bf : Addr) (tv : Int32) (rc : Int32) (rn : Int32) (og : Int64) (kr : Nat) (gq : Nat → Int32) (gf : Nat → Int64) (h0 : Heap) (n0 : Nat) (v : Option Value) (h : Heap) (L : List Loc) : Prop := v = none ∧ Fr n0 L ∧ Keep h0 h [aa, bq, bf] ∧ Fld Z h aa "com/example/ferrylog/ferrylog/store/LiveIndex" "lines" "[J" (.ref bl) ∧ Fld Z h aa "com/example/ferrylog/ferrylog/store/LiveIndex" "records" "[I" (.ref br) ∧ Fld Z h aa "com/example/ferrylog/ferrylog/store/LiveIndex" "runRecords" "[I" (.ref bq) ∧ Fld Z h aa "com/example/ferrylog/ferrylog/store/LiveIndex" "runFirsts" "[J" (.ref bf) ∧ Fld Z h aa "com/example/ferrylog/ferrylog/store/LiveIndex" "topics" "I" (.int tv) ∧ Fld Z h aa "com/example/ferrylog/ferrylog/store/LiveIndex" "recordCount" "I" (.int rc) ∧ Fld Z h aa "com/example/ferrylog/ferrylog/store/LiveIndex" "runCount" "I" (.int (rn + (1 : Int32))) ∧ Fld Z h aa "com/example/ferrylog/ferrylog/store/LiveIndex" "origin" "J" (.long og) ∧ AryI Z h bq .int 64 (up gq kr rr) ∧ AryJ Z h bf 64 (up gf kr ev)
set_option maxRecDepth 65536 in
set_option maxHeartbeats 40000000 in
theorem rm7 (l : Launch) (Z : State) (a0 : Array Value) (hw : ∀ d ∈ tables_1, d.before a0 Z = true) (ws : List Jvm.Cond) (aa : Addr) (rr : Int32) (ev : Int64) (bl : Addr) (br : Addr) (bq : Addr) (bf : Addr) (tv : Int32) (rc : Int32) (rn : Int32) (og : Int64) (kr : Nat) (gq : Nat → Int32) (gf : Nat → Int64) (h0 : Heap) (n0 : Nat) (Z0 : n0 ≤ h0.size) (F_lines_aa : Fld Z h0 aa "com/example/ferrylog/ferrylog/store/LiveIndex" "lines" "[J" (.ref bl)) (F_records_aa : Fld Z h0 aa "com/example/ferrylog/ferrylog/store/LiveIndex" "records" "[I" (.ref br)) (F_runRecords_aa : Fld Z h0 aa "com/example/ferrylog/ferrylog/store/LiveIndex" "runRecords" "[I" (.ref bq)) (F_runFirsts_aa : Fld Z h0 aa "com/example/ferrylog/ferrylog/store/LiveIndex" "runFirsts" "[J" (.ref bf)) (F_topics_aa : Fld Z h0 aa "com/example/ferrylog/ferrylog/store/LiveIndex" "topics" "I" (.int tv)) (F_recordCount_aa : Fld Z h0 aa "com/example/ferrylog/ferrylog/store/LiveIndex" "recordCount" "I" (.int rc)) (F_runCount_aa : Fld Z h0 aa "com/example/ferrylog/ferrylog/store/LiveIndex" "runCount" "I" (.int rn)) (F_origin_aa : Fld Z h0 aa "com/example/ferrylog/ferrylog/store/LiveIndex" "origin" "J" (.long og)) (E_aa : Exa Z h0 aa "com/example/ferrylog/ferrylog/store/LiveIndex") (g_aa : n0 ≤ aa) (g_bq : n0 ≤ bq) (g_bf : n0 ≤ bf) (ne_bq_bf : bq ≠ bf) (A_bq : AryI Z h0 bq .int 64 gq) (A_bf : AryJ Z h0 bf 64 gf) (hrn : (rn.toInt = (kr : Int))) (hkr : (kr < 64)) :
    MetFree l (⟨"com/example/ferrylog/ferrylog/store/LiveIndex", "beginRun", "(IJ)V"⟩ : MethodName) (head1 (Jvm.Cond.code (⟨"com/example/ferrylog/ferrylog/store/LiveIndex", "beginRun", "(IJ)V"⟩ : MethodName) prog_211_method_10_code 4 none :: ws) ({ frames := 0, cells := 0, slots := 0, locals := 0 } : Room)) (fun a U => a = #[(.ref aa), (.int rr), (.long ev)] ∧ Z.Warmed39 U.vm ∧ U.heap = h0) (fun _ _ _ _ _ => True) (fun _ U o U' => ∃ v L, o = .returned v ∧ Q7 Z aa rr ev bl br bq bf tv rc rn og kr gq gf h0 n0 v U'.heap L ∧ FrameEnd U o U' L ({ frames := 0, cells := 0, slots := 0, locals := 0 } : Room).cells ({ frames := 0, cells := 0, slots := 0, locals := 0 } : Room).slots) := by
  refine MetFree.of_bodySF (plainFor_of_name pn_7) hisR ?_
  intro p e s m args below meth c s₁ Bd hml0 hP hK
  obtain ⟨rfl, hZ, hh⟩ := hP
  have hx := Bd.exec
  have hby := Bd.bytes
  have hml : c.maxLocals = 4 := hml0
  have hown : s.vm.findClass "com/example/ferrylog/ferrylog/store/LiveIndex" = some m.cls := findClass_of_methodNamed Bd.named
  have hnm := (name_of_methodNamed Bd.named Bd.method).1
  have X0 : Stand p l e ({ frames := 0, cells := 0, slots := 0, locals := 0 } : Room) s m #[(.ref aa), (.int rr), (.long ev)] below meth c s₁ [] 0 0 := Stand.of_body Bd
  have e0 : s₁.heap = h0 := by rw [← hh, Bd.state]; rfl
  have N0 := Fr.nil n0
  have K0 := Keep.refl h0 ([aa, bq, bf] : List Addr)
  show Go p e below s (Q7 Z aa rr ev bl br bq bf tv rc rn og kr gq gf h0 n0) ({ frames := 0, cells := 0, slots := 0, locals := 0 } : Room).cells ({ frames := 0, cells := 0, slots := 0, locals := 0 } : Room).slots (s₁.setTop (entryFrame m #[(.ref aa), (.int rr), (.long ev)] 4))
  rw [ef_7]
  show Go _ _ _ _ _ _ _ (s₁.setTop (mkF m 0 #[.val (.ref aa), .val (.int rr), .val (.long ev), .second] []))
  refine Go.step (fun t k => XS.aloadN X0.here hx rfl (hb hby d7_0) rfl rfl k) ?_
  show Go _ _ _ _ _ _ _ (s₁.setTop (mkF m 1 #[.val (.ref aa), .val (.int rr), .val (.long ev), .second] [(.ref aa)]))
  obtain ⟨T1, X1, e1, st1⟩ := getF X0 hx hZ hown (host := "") (Or.inl (hw _ (List.mem_of_getElem? (i := 51) rfl))) Via.refl e0 F_runCount_aa (g := (mkF m 1 #[.val (.ref aa), .val (.int rr), .val (.long ev), .second] [(.ref aa)])) rfl rfl (hb hby d7_1)
  refine Go.step st1 ?_
  show Go _ _ _ _ _ _ _ (T1.setTop (mkF m 4 #[.val (.ref aa), .val (.int rr), .val (.long ev), .second] [(.int rn)]))
  refine Go.step (fun t k => XS.aloadN X1.here hx rfl (hb hby d7_4) rfl rfl k) ?_
  show Go _ _ _ _ _ _ _ (T1.setTop (mkF m 5 #[.val (.ref aa), .val (.int rr), .val (.long ev), .second] [(.ref aa), (.int rn)]))
  obtain ⟨T2, X2, e2, st2⟩ := getF X1 hx hZ hown (host := "") (Or.inl (hw _ (List.mem_of_getElem? (i := 15) rfl))) Via.refl e1 F_runRecords_aa (g := (mkF m 5 #[.val (.ref aa), .val (.int rr), .val (.long ev), .second] [(.ref aa), (.int rn)])) rfl rfl (hb hby d7_5)
  refine Go.step st2 ?_
  show Go _ _ _ _ _ _ _ (T2.setTop (mkF m 8 #[.val (.ref aa), .val (.int rr), .val (.long ev), .second] [(.ref bq), (.int rn)]))
  refine Go.step (own_len X2 hx hZ e2 A_bq (z := (64 : Int32)) rfl (f := (mkF m 8 #[.val (.ref aa), .val (.int rr), .val (.long ev), .second] [(.ref bq), (.int rn)])) rfl rfl (hb hby d7_8)) ?_
  show Go _ _ _ _ _ _ _ (T2.setTop (mkF m 9 #[.val (.ref aa), .val (.int rr), .val (.long ev), .second] [(.int (64 : Int32)), (.int rn)]))
  refine Go.step (fun t k => XS.icmpYes X2.here hx rfl (pc0 := 9) (pc' := 46) rfl (hb hby d7_9) rfl (feq (own_n64 hrn hkr : ¬ rn = (64 : Int32))).2 (by decide) (by decide) k) ?_
  show Go _ _ _ _ _ _ _ (T2.setTop (mkF m 46 #[.val (.ref aa), .val (.int rr), .val (.long ev), .second] []))
  refine Go.step (fun t k => XS.aloadN X2.here hx rfl (hb hby d7_46) rfl rfl k) ?_
  show Go _ _ _ _ _ _ _ (T2.setTop (mkF m 47 #[.val (.ref aa), .val (.int rr), .val (.long ev), .second] [(.ref aa)]))
  obtain ⟨T4, X4, e4, st4⟩ := getF X2 hx hZ hown (host := "") (Or.inl (hw _ (List.mem_of_getElem? (i := 15) rfl))) Via.refl e2 F_runRecords_aa (g := (mkF m 47 #[.val (.ref aa), .val (.int rr), .val (.long ev), .second] [(.ref aa)])) rfl rfl (hb hby d7_47)
  refine Go.step st4 ?_
  show Go _ _ _ _ _ _ _ (T4.setTop (mkF m 50 #[.val (.ref aa), .val (.int rr), .val (.long ev), .second] [(.ref bq)]))
  refine Go.step (fun t k => XS.aloadN X4.here hx rfl (hb hby d7_50) rfl rfl k) ?_
  show Go _ _ _ _ _ _ _ (T4.setTop (mkF m 51 #[.val (.ref aa), .val (.int rr), .val (.long ev), .second] [(.ref aa), (.ref bq)]))
  obtain ⟨T5, X5, e5, st5⟩ := getF X4 hx hZ hown (host := "") (Or.inl (hw _ (List.mem_of_getElem? (i := 51) rfl))) Via.refl e4 F_runCount_aa (g := (mkF m 51 #[.val (.ref aa), .val (.int rr), .val (.long ev), .second] [(.ref aa), (.ref bq)])) rfl rfl (hb hby d7_51)
  refine Go.step st5 ?_
  show Go _ _ _ _ _ _ _ (T5.setTop (mkF m 54 #[.val (.ref aa), .val (.int rr), .val (.long ev), .second] [(.int rn), (.ref bq)]))
  refine Go.step (fun t k => XS.iloadN X5.here hx rfl (hb hby d7_54) rfl k) ?_
  show Go _ _ _ _ _ _ _ (T5.setTop (mkF m 55 #[.val (.ref aa), .val (.int rr), .val (.long ev), .second] [(.int rr), (.int rn), (.ref bq)]))
  obtain ⟨T6, h6, X6, e6, W6, st6⟩ := own_stI X5 hx hZ e5 A_bq kr hrn hkr (f := (mkF m 55 #[.val (.ref aa), .val (.int rr), .val (.long ev), .second] [(.int rr), (.int rn), (.ref bq)])) rfl rfl (hb hby d7_55)
  have ne_aa_bq : aa ≠ bq := (own_neA E_aa (hw _ (List.mem_of_getElem? (i := 1) rfl)) A_bq)
  replace F_lines_aa := F_lines_aa.other W6 (Or.inl ne_aa_bq)
  replace F_records_aa := F_records_aa.other W6 (Or.inl ne_aa_bq)
  replace F_runRecords_aa := F_runRecords_aa.other W6 (Or.inl ne_aa_bq)
  replace F_runFirsts_aa := F_runFirsts_aa.other W6 (Or.inl ne_aa_bq)
  replace F_topics_aa := F_topics_aa.other W6 (Or.inl ne_aa_bq)
  replace F_recordCount_aa := F_recordCount_aa.other W6 (Or.inl ne_aa_bq)
  replace F_runCount_aa := F_runCount_aa.other W6 (Or.inl ne_aa_bq)
  replace F_origin_aa := F_origin_aa.other W6 (Or.inl ne_aa_bq)
  replace E_aa := E_aa.wr W6
  replace A_bf := A_bf.other W6 (Ne.symm ne_bq_bf)
  have Z6 := Nat.le_trans Z0 (Keep.of_wr W6).1
  have N6 := Fr.snoc X6 N0 g_bq
  have K6 := K0.wr W6 (Or.inl (List.mem_of_getElem? (i := 1) rfl))
  replace A_bq := A_bq.setI W6
  refine Go.step st6 ?_
  show Go _ _ _ _ _ _ _ (T6.setTop (mkF m 56 #[.val (.ref aa), .val (.int rr), .val (.long ev), .second] []))
  refine Go.step (fun t k => XS.aloadN X6.here hx rfl (hb hby d7_56) rfl rfl k) ?_
  show Go _ _ _ _ _ _ _ (T6.setTop (mkF m 57 #[.val (.ref aa), .val (.int rr), .val (.long ev), .second] [(.ref aa)]))
  obtain ⟨T7, X7, e7, st7⟩ := getF X6 hx hZ hown (host := "") (Or.inl (hw _ (List.mem_of_getElem? (i := 17) rfl))) Via.refl e6 F_runFirsts_aa (g := (mkF m 57 #[.val (.ref aa), .val (.int rr), .val (.long ev), .second] [(.ref aa)])) rfl rfl (hb hby d7_57)
  refine Go.step st7 ?_
  show Go _ _ _ _ _ _ _ (T7.setTop (mkF m 60 #[.val (.ref aa), .val (.int rr), .val (.long ev), .second] [(.ref bf)]))
  refine Go.step (fun t k => XS.aloadN X7.here hx rfl (hb hby d7_60) rfl rfl k) ?_
  show Go _ _ _ _ _ _ _ (T7.setTop (mkF m 61 #[.val (.ref aa), .val (.int rr), .val (.long ev), .second] [(.ref aa), (.ref bf)]))
  refine Go.step (fun t k => XS.dup X7.here hx rfl (hb hby d7_61) rfl rfl k) ?_
  show Go _ _ _ _ _ _ _ (T7.setTop (mkF m 62 #[.val (.ref aa), .val (.int rr), .val (.long ev), .second] [(.ref aa), (.ref aa), (.ref bf)]))
  obtain ⟨T8, X8, e8, st8⟩ := getF X7 hx hZ hown (host := "") (Or.inl (hw _ (List.mem_of_getElem? (i := 51) rfl))) Via.refl e7 F_runCount_aa (g := (mkF m 62 #[.val (.ref aa), .val (.int rr), .val (.long ev), .second] [(.ref aa), (.ref aa), (.ref bf)])) rfl rfl (hb hby d7_62)
  refine Go.step st8 ?_
  show Go _ _ _ _ _ _ _ (T8.setTop (mkF m 65 #[.val (.ref aa), .val (.int rr), .val (.long ev), .second] [(.int rn), (.ref aa), (.ref bf)]))
  refine Go.step (fun t k => XS.dupX1 X8.here hx rfl (hb hby d7_65) rfl rfl rfl k) ?_
  show Go _ _ _ _ _ _ _ (T8.setTop (mkF m 66 #[.val (.ref aa), .val (.int rr), .val (.long ev), .second] [(.int rn), (.ref aa), (.int rn), (.ref bf)]))
  refine Go.step (fun t k => XS.iconst X8.here hx rfl (hb hby d7_66) k) ?_
  show Go _ _ _ _ _ _ _ (T8.setTop (mkF m 67 #[.val (.ref aa), .val (.int rr), .val (.long ev), .second] [(.int (1 : Int32)), (.int rn), (.ref aa), (.int rn), (.ref bf)]))
  refine Go.step (fun t k => XS.iadd X8.here hx rfl (hb hby d7_67) rfl k) ?_
  show Go _ _ _ _ _ _ _ (T8.setTop (mkF m 68 #[.val (.ref aa), .val (.int rr), .val (.long ev), .second] [(.int (rn + (1 : Int32))), (.ref aa), (.int rn), (.ref bf)]))
  obtain ⟨T9, h9, X9, e9, W9, st9⟩ := putF X8 hx hZ hown (host := "") (Or.inl (hw _ (List.mem_of_getElem? (i := 51) rfl))) Via.refl e8 F_runCount_aa E_aa (Or.inl (hw _ (List.mem_of_getElem? (i := 52) rfl))) (hw _ (List.mem_of_getElem? (i := 1) rfl)) (ty := .int) (by decide) rfl rfl (g := (mkF m 68 #[.val (.ref aa), .val (.int rr), .val (.long ev), .second] [(.int (rn + (1 : Int32))), (.ref aa), (.int rn), (.ref bf)])) rfl rfl (hb hby d7_68)
  have ne_bf_aa : bf ≠ aa := (Ne.symm (own_neA E_aa (hw _ (List.mem_of_getElem? (i := 1) rfl)) A_bf))
  replace F_lines_aa := F_lines_aa.other W9 (Or.inr (slot_ne (Or.inl (hw _ (List.mem_of_getElem? (i := 11) rfl))) (Or.inl (hw _ (List.mem_of_getElem? (i := 52) rfl))) (by decide) (t := (.array .long)) (t' := .int) (by decide) (by decide)))
  replace F_records_aa := F_records_aa.other W9 (Or.inr (slot_ne (Or.inl (hw _ (List.mem_of_getElem? (i := 14) rfl))) (Or.inl (hw _ (List.mem_of_getElem? (i := 52) rfl))) (by decide) (t := (.array .int)) (t' := .int) (by decide) (by decide)))
  replace F_runRecords_aa := F_runRecords_aa.other W9 (Or.inr (slot_ne (Or.inl (hw _ (List.mem_of_getElem? (i := 16) rfl))) (Or.inl (hw _ (List.mem_of_getElem? (i := 52) rfl))) (by decide) (t := (.array .int)) (t' := .int) (by decide) (by decide)))
  replace F_runFirsts_aa := F_runFirsts_aa.other W9 (Or.inr (slot_ne (Or.inl (hw _ (List.mem_of_getElem? (i := 18) rfl))) (Or.inl (hw _ (List.mem_of_getElem? (i := 52) rfl))) (by decide) (t := (.array .long)) (t' := .int) (by decide) (by decide)))
  replace F_topics_aa := F_topics_aa.other W9 (Or.inr (slot_ne (Or.inl (hw _ (List.mem_of_getElem? (i := 25) rfl))) (Or.inl (hw _ (List.mem_of_getElem? (i := 52) rfl))) (by decide) (t := .int) (t' := .int) (by decide) (by decide)))
  replace F_recordCount_aa := F_recordCount_aa.other W9 (Or.inr (slot_ne (Or.inl (hw _ (List.mem_of_getElem? (i := 39) rfl))) (Or.inl (hw _ (List.mem_of_getElem? (i := 52) rfl))) (by decide) (t := .int) (t' := .int) (by decide) (by decide)))
  replace F_origin_aa := F_origin_aa.other W9 (Or.inr (slot_ne (Or.inl (hw _ (List.mem_of_getElem? (i := 41) rfl))) (Or.inl (hw _ (List.mem_of_getElem? (i := 52) rfl))) (by decide) (t := .long) (t' := .int) (by decide) (by decide)))
  replace E_aa := E_aa.wr W9
  replace A_bq := A_bq.other W9 (Ne.symm ne_aa_bq)
  replace A_bf := A_bf.other W9 ne_bf_aa
  have Z9 := Nat.le_trans Z6 (Keep.of_wr W9).1
  have N9 := Fr.snoc X9 N6 g_aa
  have K9 := K6.wr W9 (Or.inl (List.mem_of_getElem? (i := 0) rfl))
  replace F_runCount_aa := F_runCount_aa.same W9
  refine Go.step st9 ?_
  show Go _ _ _ _ _ _ _ (T9.setTop (mkF m 71 #[.val (.ref aa), .val (.int rr), .val (.long ev), .second] [(.int rn), (.ref bf)]))
  refine Go.step (fun t k => XS.lloadN X9.here hx rfl (hb hby d7_71) rfl k) ?_
  show Go _ _ _ _ _ _ _ (T9.setTop (mkF m 72 #[.val (.ref aa), .val (.int rr), .val (.long ev), .second] [(.long ev), (.int rn), (.ref bf)]))
  obtain ⟨T10, h10, X10, e10, W10, st10⟩ := own_stJ X9 hx hZ e9 A_bf kr hrn hkr (f := (mkF m 72 #[.val (.ref aa), .val (.int rr), .val (.long ev), .second] [(.long ev), (.int rn), (.ref bf)])) rfl rfl (hb hby d7_72)
  replace F_lines_aa := F_lines_aa.other W10 (Or.inl (Ne.symm ne_bf_aa))
  replace F_records_aa := F_records_aa.other W10 (Or.inl (Ne.symm ne_bf_aa))
  replace F_runRecords_aa := F_runRecords_aa.other W10 (Or.inl (Ne.symm ne_bf_aa))
  replace F_runFirsts_aa := F_runFirsts_aa.other W10 (Or.inl (Ne.symm ne_bf_aa))
  replace F_topics_aa := F_topics_aa.other W10 (Or.inl (Ne.symm ne_bf_aa))
  replace F_recordCount_aa := F_recordCount_aa.other W10 (Or.inl (Ne.symm ne_bf_aa))
  replace F_runCount_aa := F_runCount_aa.other W10 (Or.inl (Ne.symm ne_bf_aa))
  replace F_origin_aa := F_origin_aa.other W10 (Or.inl (Ne.symm ne_bf_aa))
  replace E_aa := E_aa.wr W10
  replace A_bq := A_bq.other W10 ne_bq_bf
  have Z10 := Nat.le_trans Z9 (Keep.of_wr W10).1
  have N10 := Fr.snoc X10 N9 g_bf
  have K10 := K9.wr W10 (Or.inl (List.mem_of_getElem? (i := 2) rfl))
  replace A_bf := A_bf.setJ W10
  refine Go.step st10 ?_
  show Go _ _ _ _ _ _ _ (T10.setTop (mkF m 73 #[.val (.ref aa), .val (.int rr), .val (.long ev), .second] []))
  refine Go.retV X10 Bd.notSynchronized hx Bd.returns (hb hby d7_73) (by decide) (by decide) ?_
  rw [e10]
  exact ⟨rfl, N10, K10, F_lines_aa, F_records_aa, F_runRecords_aa, F_runFirsts_aa, F_topics_aa, F_recordCount_aa, F_runCount_aa, F_origin_aa, A_bq, A_bf⟩
theorem d5_0 : decode prog_211_method_9_code 0 = .ok (.aload_n 0, 1) := by decide +kernel
theorem d5_1 : decode prog_211_method_9_code 1 = .ok (.getfield 41, 3) := by decide +kernel
theorem d5_4 : decode prog_211_method_9_code 4 = .ok (.ifCond .ne 8, 3) := by decide +kernel
theorem d5_7 : decode prog_211_method_9_code 7 = .ok (.aload_n 0, 1) := by decide +kernel
theorem d5_8 : decode prog_211_method_9_code 8 = .ok (.lload_n 2, 1) := by decide +kernel
theorem d5_9 : decode prog_211_method_9_code 9 = .ok (.putfield 44, 3) := by decide +kernel
theorem d5_12 : decode prog_211_method_9_code 12 = .ok (.aload_n 0, 1) := by decide +kernel
theorem d5_13 : decode prog_211_method_9_code 13 = .ok (.getfield 41, 3) := by decide +kernel
theorem d5_16 : decode prog_211_method_9_code 16 = .ok (.iconst 3, 1) := by decide +kernel
theorem d5_17 : decode prog_211_method_9_code 17 = .ok (.imul, 1) := by decide +kernel
theorem d5_18 : decode prog_211_method_9_code 18 = .ok (.aload_n 0, 1) := by decide +kernel
theorem d5_19 : decode prog_211_method_9_code 19 = .ok (.getfield 15, 3) := by decide +kernel
theorem d5_22 : decode prog_211_method_9_code 22 = .ok (.arraylength, 1) := by decide +kernel
theorem d5_23 : decode prog_211_method_9_code 23 = .ok (.if_icmp .ne 31, 3) := by decide +kernel
theorem d5_54 : decode prog_211_method_9_code 54 = .ok (.iload_n 1, 1) := by decide +kernel
theorem d5_55 : decode prog_211_method_9_code 55 = .ok (.iconst 4, 1) := by decide +kernel
theorem d5_56 : decode prog_211_method_9_code 56 = .ok (.imul, 1) := by decide +kernel
theorem d5_57 : decode prog_211_method_9_code 57 = .ok (.istore 4, 2) := by decide +kernel
theorem d5_59 : decode prog_211_method_9_code 59 = .ok (.aload_n 0, 1) := by decide +kernel
theorem d5_60 : decode prog_211_method_9_code 60 = .ok (.getfield 11, 3) := by decide +kernel
theorem d5_63 : decode prog_211_method_9_code 63 = .ok (.iload 4, 2) := by decide +kernel
theorem d5_65 : decode prog_211_method_9_code 65 = .ok (.iconst 0, 1) := by decide +kernel
theorem d5_66 : decode prog_211_method_9_code 66 = .ok (.iadd, 1) := by decide +kernel
theorem d5_67 : decode prog_211_method_9_code 67 = .ok (.laload, 1) := by decide +kernel
theorem d5_68 : decode prog_211_method_9_code 68 = .ok (.lstore 5, 2) := by decide +kernel
theorem d5_70 : decode prog_211_method_9_code 70 = .ok (.aload_n 0, 1) := by decide +kernel
theorem d5_71 : decode prog_211_method_9_code 71 = .ok (.getfield 41, 3) := by decide +kernel
theorem d5_74 : decode prog_211_method_9_code 74 = .ok (.iconst 3, 1) := by decide +kernel
theorem d5_75 : decode prog_211_method_9_code 75 = .ok (.imul, 1) := by decide +kernel
theorem d5_76 : decode prog_211_method_9_code 76 = .ok (.istore 7, 2) := by decide +kernel
theorem d5_78 : decode prog_211_method_9_code 78 = .ok (.aload_n 0, 1) := by decide +kernel
theorem d5_79 : decode prog_211_method_9_code 79 = .ok (.getfield 15, 3) := by decide +kernel
theorem d5_82 : decode prog_211_method_9_code 82 = .ok (.iload 7, 2) := by decide +kernel
theorem d5_84 : decode prog_211_method_9_code 84 = .ok (.lload_n 2, 1) := by decide +kernel
theorem d5_85 : decode prog_211_method_9_code 85 = .ok (.aload_n 0, 1) := by decide +kernel
theorem d5_86 : decode prog_211_method_9_code 86 = .ok (.getfield 44, 3) := by decide +kernel
theorem d5_89 : decode prog_211_method_9_code 89 = .ok (.lsub, 1) := by decide +kernel
theorem d5_90 : decode prog_211_method_9_code 90 = .ok (.invokestatic 51, 3) := by decide +kernel
theorem d5_93 : decode prog_211_method_9_code 93 = .ok (.iastore, 1) := by decide +kernel
theorem d5_94 : decode prog_211_method_9_code 94 = .ok (.aload_n 0, 1) := by decide +kernel
theorem d5_95 : decode prog_211_method_9_code 95 = .ok (.getfield 11, 3) := by decide +kernel
theorem d5_98 : decode prog_211_method_9_code 98 = .ok (.iload 4, 2) := by decide +kernel
theorem d5_100 : decode prog_211_method_9_code 100 = .ok (.iconst 3, 1) := by decide +kernel
theorem d5_101 : decode prog_211_method_9_code 101 = .ok (.iadd, 1) := by decide +kernel
theorem d5_102 : decode prog_211_method_9_code 102 = .ok (.laload, 1) := by decide +kernel
theorem d5_103 : decode prog_211_method_9_code 103 = .ok (.lstore 8, 2) := by decide +kernel
theorem d5_105 : decode prog_211_method_9_code 105 = .ok (.lload 8, 2) := by decide +kernel
theorem d5_107 : decode prog_211_method_9_code 107 = .ok (.l2i, 1) := by decide +kernel
theorem d5_108 : decode prog_211_method_9_code 108 = .ok (.istore 10, 2) := by decide +kernel
theorem d5_110 : decode prog_211_method_9_code 110 = .ok (.iload 10, 2) := by decide +kernel
theorem d5_112 : decode prog_211_method_9_code 112 = .ok (.ifCond .lt 31, 3) := by decide +kernel
theorem d5_143 : decode prog_211_method_9_code 143 = .ok (.aload_n 0, 1) := by decide +kernel
theorem d5_144 : decode prog_211_method_9_code 144 = .ok (.getfield 15, 3) := by decide +kernel
theorem d5_147 : decode prog_211_method_9_code 147 = .ok (.iload 7, 2) := by decide +kernel
theorem d5_149 : decode prog_211_method_9_code 149 = .ok (.iconst 1, 1) := by decide +kernel
theorem d5_150 : decode prog_211_method_9_code 150 = .ok (.iadd, 1) := by decide +kernel
theorem d5_151 : decode prog_211_method_9_code 151 = .ok (.iload_n 1, 1) := by decide +kernel
theorem d5_152 : decode prog_211_method_9_code 152 = .ok (.ldc 57, 2) := by decide +kernel
theorem d5_154 : decode prog_211_method_9_code 154 = .ok (.ior, 1) := by decide +kernel
theorem d5_155 : decode prog_211_method_9_code 155 = .ok (.iastore, 1) := by decide +kernel
theorem d5_156 : decode prog_211_method_9_code 156 = .ok (.aload_n 0, 1) := by decide +kernel
theorem d5_157 : decode prog_211_method_9_code 157 = .ok (.aload_n 0, 1) := by decide +kernel
theorem d5_158 : decode prog_211_method_9_code 158 = .ok (.getfield 41, 3) := by decide +kernel
theorem d5_161 : decode prog_211_method_9_code 161 = .ok (.lload 5, 2) := by decide +kernel
theorem d5_163 : decode prog_211_method_9_code 163 = .ok (.invokevirtual 58, 3) := by decide +kernel
theorem d5_166 : decode prog_211_method_9_code 166 = .ok (.aload_n 0, 1) := by decide +kernel
theorem d5_167 : decode prog_211_method_9_code 167 = .ok (.getfield 15, 3) := by decide +kernel
theorem d5_170 : decode prog_211_method_9_code 170 = .ok (.iload 7, 2) := by decide +kernel
theorem d5_172 : decode prog_211_method_9_code 172 = .ok (.iconst 2, 1) := by decide +kernel
theorem d5_173 : decode prog_211_method_9_code 173 = .ok (.iadd, 1) := by decide +kernel
theorem d5_174 : decode prog_211_method_9_code 174 = .ok (.iload 10, 2) := by decide +kernel
theorem d5_176 : decode prog_211_method_9_code 176 = .ok (.iastore, 1) := by decide +kernel
theorem d5_177 : decode prog_211_method_9_code 177 = .ok (.aload_n 0, 1) := by decide +kernel
theorem d5_178 : decode prog_211_method_9_code 178 = .ok (.getfield 11, 3) := by decide +kernel
theorem d5_181 : decode prog_211_method_9_code 181 = .ok (.iload 4, 2) := by decide +kernel
theorem d5_183 : decode prog_211_method_9_code 183 = .ok (.iconst 3, 1) := by decide +kernel
theorem d5_184 : decode prog_211_method_9_code 184 = .ok (.iadd, 1) := by decide +kernel
theorem d5_185 : decode prog_211_method_9_code 185 = .ok (.lload 8, 2) := by decide +kernel
theorem d5_187 : decode prog_211_method_9_code 187 = .ok (.ldc2_w 62, 3) := by decide +kernel
theorem d5_190 : decode prog_211_method_9_code 190 = .ok (.land, 1) := by decide +kernel
theorem d5_191 : decode prog_211_method_9_code 191 = .ok (.aload_n 0, 1) := by decide +kernel
theorem d5_192 : decode prog_211_method_9_code 192 = .ok (.dup, 1) := by decide +kernel
theorem d5_193 : decode prog_211_method_9_code 193 = .ok (.getfield 41, 3) := by decide +kernel
theorem d5_196 : decode prog_211_method_9_code 196 = .ok (.dup_x1, 1) := by decide +kernel
theorem d5_197 : decode prog_211_method_9_code 197 = .ok (.iconst 1, 1) := by decide +kernel
theorem d5_198 : decode prog_211_method_9_code 198 = .ok (.iadd, 1) := by decide +kernel
theorem d5_199 : decode prog_211_method_9_code 199 = .ok (.putfield 41, 3) := by decide +kernel
theorem d5_202 : decode prog_211_method_9_code 202 = .ok (.i2l, 1) := by decide +kernel
theorem d5_203 : decode prog_211_method_9_code 203 = .ok (.lor, 1) := by decide +kernel
theorem d5_204 : decode prog_211_method_9_code 204 = .ok (.lastore, 1) := by decide +kernel
theorem d5_205 : decode prog_211_method_9_code 205 = .ok (.aload_n 0, 1) := by decide +kernel
theorem d5_206 : decode prog_211_method_9_code 206 = .ok (.getfield 11, 3) := by decide +kernel
theorem d5_209 : decode prog_211_method_9_code 209 = .ok (.iload 4, 2) := by decide +kernel
theorem d5_211 : decode prog_211_method_9_code 211 = .ok (.iconst 0, 1) := by decide +kernel
theorem d5_212 : decode prog_211_method_9_code 212 = .ok (.iadd, 1) := by decide +kernel
theorem d5_213 : decode prog_211_method_9_code 213 = .ok (.lload 5, 2) := by decide +kernel
theorem d5_215 : decode prog_211_method_9_code 215 = .ok (.lconst 1, 1) := by decide +kernel
theorem d5_216 : decode prog_211_method_9_code 216 = .ok (.ladd, 1) := by decide +kernel
theorem d5_217 : decode prog_211_method_9_code 217 = .ok (.lastore, 1) := by decide +kernel
theorem d5_218 : decode prog_211_method_9_code 218 = .ok (.aload_n 0, 1) := by decide +kernel
theorem d5_219 : decode prog_211_method_9_code 219 = .ok (.getfield 11, 3) := by decide +kernel
theorem d5_222 : decode prog_211_method_9_code 222 = .ok (.iload 4, 2) := by decide +kernel
theorem d5_224 : decode prog_211_method_9_code 224 = .ok (.iconst 2, 1) := by decide +kernel
theorem d5_225 : decode prog_211_method_9_code 225 = .ok (.iadd, 1) := by decide +kernel
theorem d5_226 : decode prog_211_method_9_code 226 = .ok (.lload 5, 2) := by decide +kernel
theorem d5_228 : decode prog_211_method_9_code 228 = .ok (.lconst 1, 1) := by decide +kernel
theorem d5_229 : decode prog_211_method_9_code 229 = .ok (.ladd, 1) := by decide +kernel
theorem d5_230 : decode prog_211_method_9_code 230 = .ok (.lastore, 1) := by decide +kernel
theorem d5_231 : decode prog_211_method_9_code 231 = .ok (.return_, 1) := by decide +kernel
theorem pn_5_0 : plainName "com/example/ferrylog/ferrylog/store/LiveIndex" = true := by first | (simp [plainName, overriddenIn]; done) | decide +kernel
theorem pd_5_0_0 : parseMethodDescriptor "(J)I" = some ⟨[.long], some .int⟩ := by decide +kernel
theorem pd_5_1_0 : parseMethodDescriptor "(IJ)V" = some ⟨[.int, .long], none⟩ := by decide +kernel
theorem ef_5_0 (m : MethodId) (x0 : Addr) (x1 : Int32) (x2 : Int64) : entryFrame m #[(.ref x0), (.int x1), (.long x2)] 11 = mkF m 0 #[.val (.ref x0), .val (.int x1), .val (.long x2), .second, .unset, .unset, .unset, .unset, .unset, .unset, .unset] [] := by first | (simp [entryFrame, mkF, argsToLocals, Value.category]; done) | rfl
def Q5_0 (Z : State) (aa : Addr) (tp : Int32) (rp : Int64) (bl : Addr) (br : Addr) (bq : Addr) (bf : Addr) (tv : Int32) (rn : Int32) (og : Int64) (kt : Nat) (kr : Nat) (gg : Nat → Int64) (gr : Nat → Int32) (gq : Nat → Int32) (gf : Nat → Int64) (h0 : Heap) (n0 : Nat) (v : Option Value) (h : Heap) (L : List Loc) : Prop := v = none ∧ Fr n0 L ∧ Keep h0 h [aa, bl, br, bq, bf] ∧ Fld Z h aa "com/example/ferrylog/ferrylog/store/LiveIndex" "lines" "[J" (.ref bl) ∧ Fld Z h aa "com/example/ferrylog/ferrylog/store/LiveIndex" "records" "[I" (.ref br) ∧ Fld Z h aa "com/example/ferrylog/ferrylog/store/LiveIndex" "runRecords" "[I" (.ref bq) ∧ Fld Z h aa "com/example/ferrylog/ferrylog/store/LiveIndex" "runFirsts" "[J" (.ref bf) ∧ Fld Z h aa "com/example/ferrylog/ferrylog/store/LiveIndex" "topics" "I" (.int tv) ∧ Fld Z h aa "com/example/ferrylog/ferrylog/store/LiveIndex" "recordCount" "I" (.int (1 : Int32)) ∧ Fld Z h aa "com/example/ferrylog/ferrylog/store/LiveIndex" "runCount" "I" (.int (rn + (1 : Int32))) ∧ Fld Z h aa "com/example/ferrylog/ferrylog/store/LiveIndex" "origin" "J" (.long rp) ∧ AryJ Z h bl 64 (up (up (up gg (4 * kt + 3) (((gg (4 * kt + 3)) &&& (-4294967296 : Int64)) ||| ((0 : Int32).toInt64))) (4 * kt + 0) ((gg (4 * kt + 0)) + (1 : Int64))) (4 * kt + 2) ((gg (4 * kt + 0)) + (1 : Int64))) ∧ AryI Z h br .int 3072 (up (up (up gr 0 ((rp - rp).toInt32)) 1 (tp ||| (-2147483648 : Int32))) 2 ((gg (4 * kt + 3)).toInt32)) ∧ AryI Z h bq .int 64 (up gq kr (0 : Int32)) ∧ AryJ Z h bf 64 (up gf kr (gg (4 * kt + 0)))
set_option maxRecDepth 65536 in
set_option maxHeartbeats 40000000 in
theorem rm5_0 (l : Launch) (Z : State) (a0 : Array Value) (hw : ∀ d ∈ tables_1, d.before a0 Z = true) (ws : List Jvm.Cond) (aa : Addr) (tp : Int32) (rp : Int64) (bl : Addr) (br : Addr) (bq : Addr) (bf : Addr) (tv : Int32) (rn : Int32) (og : Int64) (kt : Nat) (kr : Nat) (gg : Nat → Int64) (gr : Nat → Int32) (gq : Nat → Int32) (gf : Nat → Int64) (h0 : Heap) (n0 : Nat) (Z0 : n0 ≤ h0.size) (F_lines_aa : Fld Z h0 aa "com/example/ferrylog/ferrylog/store/LiveIndex" "lines" "[J" (.ref bl)) (F_records_aa : Fld Z h0 aa "com/example/ferrylog/ferrylog/store/LiveIndex" "records" "[I" (.ref br)) (F_runRecords_aa : Fld Z h0 aa "com/example/ferrylog/ferrylog/store/LiveIndex" "runRecords" "[I" (.ref bq)) (F_runFirsts_aa : Fld Z h0 aa "com/example/ferrylog/ferrylog/store/LiveIndex" "runFirsts" "[J" (.ref bf)) (F_topics_aa : Fld Z h0 aa "com/example/ferrylog/ferrylog/store/LiveIndex" "topics" "I" (.int tv)) (F_recordCount_aa : Fld Z h0 aa "com/example/ferrylog/ferrylog/store/LiveIndex" "recordCount" "I" (.int (0 : Int32))) (F_runCount_aa : Fld Z h0 aa "com/example/ferrylog/ferrylog/store/LiveIndex" "runCount" "I" (.int rn)) (F_origin_aa : Fld Z h0 aa "com/example/ferrylog/ferrylog/store/LiveIndex" "origin" "J" (.long og)) (E_aa : Exa Z h0 aa "com/example/ferrylog/ferrylog/store/LiveIndex") (g_aa : n0 ≤ aa) (g_bl : n0 ≤ bl) (g_br : n0 ≤ br) (g_bq : n0 ≤ bq) (g_bf : n0 ≤ bf) (ne_bl_br : bl ≠ br) (ne_bl_bq : bl ≠ bq) (ne_bl_bf : bl ≠ bf) (ne_br_bq : br ≠ bq) (ne_br_bf : br ≠ bf) (ne_bq_bf : bq ≠ bf) (A_bl : AryJ Z h0 bl 64 gg) (A_br : AryI Z h0 br .int 3072 gr) (A_bq : AryI Z h0 bq .int 64 gq) (A_bf : AryJ Z h0 bf 64 gf) (htp : (tp.toInt = (kt : Int))) (hkt : (kt < 16)) (hrn : (rn.toInt = (kr : Int))) (hkr : (kr < 64)) (hla : (((gg (4 * kt + 3)).toInt32) < (0 : Int32))) (hex : ((((rp - rp).toInt32).toInt64) = (rp - rp))) :
    MetFree l (⟨"com/example/ferrylog/ferrylog/store/LiveIndex", "addRecord", "(IJ)V"⟩ : MethodName) (head1 (Jvm.Cond.code (⟨"com/example/ferrylog/ferrylog/store/LiveIndex", "addRecord", "(IJ)V"⟩ : MethodName) prog_211_method_9_code 11 none :: ws) ({ frames := 1, cells := 0, slots := 0, locals := 15 } : Room)) (fun a U => a = #[(.ref aa), (.int tp), (.long rp)] ∧ Z.Warmed39 U.vm ∧ U.heap = h0) (fun _ _ _ _ _ => True) (fun _ U o U' => ∃ v L, o = .returned v ∧ Q5_0 Z aa tp rp bl br bq bf tv rn og kt kr gg gr gq gf h0 n0 v U'.heap L ∧ FrameEnd U o U' L ({ frames := 1, cells := 0, slots := 0, locals := 15 } : Room).cells ({ frames := 1, cells := 0, slots := 0, locals := 15 } : Room).slots) := by
  refine MetFree.of_bodySF (plainFor_of_name pn_5_0) hisR ?_
  intro p e s m args below meth c s₁ Bd hml0 hP hK
  obtain ⟨rfl, hZ, hh⟩ := hP
  have hx := Bd.exec
  have hby := Bd.bytes
  have hml : c.maxLocals = 11 := hml0
  have hown : s.vm.findClass "com/example/ferrylog/ferrylog/store/LiveIndex" = some m.cls := findClass_of_methodNamed Bd.named
  have hnm := (name_of_methodNamed Bd.named Bd.method).1
  have X0 : Stand p l e ({ frames := 1, cells := 0, slots := 0, locals := 15 } : Room) s m #[(.ref aa), (.int tp), (.long rp)] below meth c s₁ [] 0 0 := Stand.of_body Bd
  have e0 : s₁.heap = h0 := by rw [← hh, Bd.state]; rfl
  have N0 := Fr.nil n0
  have K0 := Keep.refl h0 ([aa, bl, br, bq, bf] : List Addr)
  show Go p e below s (Q5_0 Z aa tp rp bl br bq bf tv rn og kt kr gg gr gq gf h0 n0) ({ frames := 1, cells := 0, slots := 0, locals := 15 } : Room).cells ({ frames := 1, cells := 0, slots := 0, locals := 15 } : Room).slots (s₁.setTop (entryFrame m #[(.ref aa), (.int tp), (.long rp)] 11))
  rw [ef_5_0]
  show Go _ _ _ _ _ _ _ (s₁.setTop (mkF m 0 #[.val (.ref aa), .val (.int tp), .val (.long rp), .second, .unset, .unset, .unset, .unset, .unset, .unset, .unset] []))
  refine Go.step (fun t k => XS.aloadN X0.here hx rfl (hb hby d5_0) rfl rfl k) ?_
  show Go _ _ _ _ _ _ _ (s₁.setTop (mkF m 1 #[.val (.ref aa), .val (.int tp), .val (.long rp), .second, .unset, .unset, .unset, .unset, .unset, .unset, .unset] [(.ref aa)]))
  obtain ⟨T1, X1, e1, st1⟩ := getF X0 hx hZ hown (host := "") (Or.inl (hw _ (List.mem_of_getElem? (i := 38) rfl))) Via.refl e0 F_recordCount_aa (g := (mkF m 1 #[.val (.ref aa), .val (.int tp), .val (.long rp), .second, .unset, .unset, .unset, .unset, .unset, .unset, .unset] [(.ref aa)])) rfl rfl (hb hby d5_1)
  refine Go.step st1 ?_
  show Go _ _ _ _ _ _ _ (T1.setTop (mkF m 4 #[.val (.ref aa), .val (.int tp), .val (.long rp), .second, .unset, .unset, .unset, .unset, .unset, .unset, .unset] [(.int (0 : Int32))]))
  refine Go.step (fun t k => XS.ifNo X1.here hx rfl (hb hby d5_4) rfl ((if0 _ _).trans (teq (by decide : (0 : Int32) = (0 : Int32))).2) k) ?_
  show Go _ _ _ _ _ _ _ (T1.setTop (mkF m 7 #[.val (.ref aa), .val (.int tp), .val (.long rp), .second, .unset, .unset, .unset, .unset, .unset, .unset, .unset] []))
  refine Go.step (fun t k => XS.aloadN X1.here hx rfl (hb hby d5_7) rfl rfl k) ?_
  show Go _ _ _ _ _ _ _ (T1.setTop (mkF m 8 #[.val (.ref aa), .val (.int tp), .val (.long rp), .second, .unset, .unset, .unset, .unset, .unset, .unset, .unset] [(.ref aa)]))
  refine Go.step (fun t k => XS.lloadN X1.here hx rfl (hb hby d5_8) rfl k) ?_
  show Go _ _ _ _ _ _ _ (T1.setTop (mkF m 9 #[.val (.ref aa), .val (.int tp), .val (.long rp), .second, .unset, .unset, .unset, .unset, .unset, .unset, .unset] [(.long rp), (.ref aa)]))
  obtain ⟨T2, h2, X2, e2, W2, st2⟩ := putF X1 hx hZ hown (host := "") (Or.inl (hw _ (List.mem_of_getElem? (i := 40) rfl))) Via.refl e1 F_origin_aa E_aa (Or.inl (hw _ (List.mem_of_getElem? (i := 41) rfl))) (hw _ (List.mem_of_getElem? (i := 1) rfl)) (ty := .long) (by decide) rfl rfl (g := (mkF m 9 #[.val (.ref aa), .val (.int tp), .val (.long rp), .second, .unset, .unset, .unset, .unset, .unset, .unset, .unset] [(.long rp), (.ref aa)])) rfl rfl (hb hby d5_9)
  have ne_bl_aa : bl ≠ aa := (Ne.symm (own_neA E_aa (hw _ (List.mem_of_getElem? (i := 1) rfl)) A_bl))
  have ne_br_aa : br ≠ aa := (Ne.symm (own_neA E_aa (hw _ (List.mem_of_getElem? (i := 1) rfl)) A_br))
  have ne_bq_aa : bq ≠ aa := (Ne.symm (own_neA E_aa (hw _ (List.mem_of_getElem? (i := 1) rfl)) A_bq))
  have ne_bf_aa : bf ≠ aa := (Ne.symm (own_neA E_aa (hw _ (List.mem_of_getElem? (i := 1) rfl)) A_bf))
  replace F_lines_aa := F_lines_aa.other W2 (Or.inr (slot_ne (Or.inl (hw _ (List.mem_of_getElem? (i := 11) rfl))) (Or.inl (hw _ (List.mem_of_getElem? (i := 41) rfl))) (by decide) (t := (.array .long)) (t' := .long) (by decide) (by decide)))
  replace F_records_aa := F_records_aa.other W2 (Or.inr (slot_ne (Or.inl (hw _ (List.mem_of_getElem? (i := 14) rfl))) (Or.inl (hw _ (List.mem_of_getElem? (i := 41) rfl))) (by decide) (t := (.array .int)) (t' := .long) (by decide) (by decide)))
  replace F_runRecords_aa := F_runRecords_aa.other W2 (Or.inr (slot_ne (Or.inl (hw _ (List.mem_of_getElem? (i := 16) rfl))) (Or.inl (hw _ (List.mem_of_getElem? (i := 41) rfl))) (by decide) (t := (.array .int)) (t' := .long) (by decide) (by decide)))
  replace F_runFirsts_aa := F_runFirsts_aa.other W2 (Or.inr (slot_ne (Or.inl (hw _ (List.mem_of_getElem? (i := 18) rfl))) (Or.inl (hw _ (List.mem_of_getElem? (i := 41) rfl))) (by decide) (t := (.array .long)) (t' := .long) (by decide) (by decide)))
  replace F_topics_aa := F_topics_aa.other W2 (Or.inr (slot_ne (Or.inl (hw _ (List.mem_of_getElem? (i := 25) rfl))) (Or.inl (hw _ (List.mem_of_getElem? (i := 41) rfl))) (by decide) (t := .int) (t' := .long) (by decide) (by decide)))
  replace F_recordCount_aa := F_recordCount_aa.other W2 (Or.inr (slot_ne (Or.inl (hw _ (List.mem_of_getElem? (i := 39) rfl))) (Or.inl (hw _ (List.mem_of_getElem? (i := 41) rfl))) (by decide) (t := .int) (t' := .long) (by decide) (by decide)))
  replace F_runCount_aa := F_runCount_aa.other W2 (Or.inr (slot_ne (Or.inl (hw _ (List.mem_of_getElem? (i := 52) rfl))) (Or.inl (hw _ (List.mem_of_getElem? (i := 41) rfl))) (by decide) (t := .int) (t' := .long) (by decide) (by decide)))
  replace E_aa := E_aa.wr W2
  replace A_bl := A_bl.other W2 ne_bl_aa
  replace A_br := A_br.other W2 ne_br_aa
  replace A_bq := A_bq.other W2 ne_bq_aa
  replace A_bf := A_bf.other W2 ne_bf_aa
  have Z2 := Nat.le_trans Z0 (Keep.of_wr W2).1
  have N2 := Fr.snoc X2 N0 g_aa
  have K2 := K0.wr W2 (Or.inl (List.mem_of_getElem? (i := 0) rfl))
  replace F_origin_aa := F_origin_aa.same W2
  refine Go.step st2 ?_
  show Go _ _ _ _ _ _ _ (T2.setTop (mkF m 12 #[.val (.ref aa), .val (.int tp), .val (.long rp), .second, .unset, .unset, .unset, .unset, .unset, .unset, .unset] []))
  refine Go.step (fun t k => XS.aloadN X2.here hx rfl (hb hby d5_12) rfl rfl k) ?_
  show Go _ _ _ _ _ _ _ (T2.setTop (mkF m 13 #[.val (.ref aa), .val (.int tp), .val (.long rp), .second, .unset, .unset, .unset, .unset, .unset, .unset, .unset] [(.ref aa)]))
  obtain ⟨T3, X3, e3, st3⟩ := getF X2 hx hZ hown (host := "") (Or.inl (hw _ (List.mem_of_getElem? (i := 38) rfl))) Via.refl e2 F_recordCount_aa (g := (mkF m 13 #[.val (.ref aa), .val (.int tp), .val (.long rp), .second, .unset, .unset, .unset, .unset, .unset, .unset, .unset] [(.ref aa)])) rfl rfl (hb hby d5_13)
  refine Go.step st3 ?_
  show Go _ _ _ _ _ _ _ (T3.setTop (mkF m 16 #[.val (.ref aa), .val (.int tp), .val (.long rp), .second, .unset, .unset, .unset, .unset, .unset, .unset, .unset] [(.int (0 : Int32))]))
  refine Go.step (fun t k => XS.iconst X3.here hx rfl (hb hby d5_16) k) ?_
  show Go _ _ _ _ _ _ _ (T3.setTop (mkF m 17 #[.val (.ref aa), .val (.int tp), .val (.long rp), .second, .unset, .unset, .unset, .unset, .unset, .unset, .unset] [(.int (3 : Int32)), (.int (0 : Int32))]))
  refine Go.step (fun t k => XS.imul X3.here hx rfl (hb hby d5_17) rfl k) ?_
  show Go _ _ _ _ _ _ _ (T3.setTop (mkF m 18 #[.val (.ref aa), .val (.int tp), .val (.long rp), .second, .unset, .unset, .unset, .unset, .unset, .unset, .unset] [(.int (0 : Int32))]))
  refine Go.step (fun t k => XS.aloadN X3.here hx rfl (hb hby d5_18) rfl rfl k) ?_
  show Go _ _ _ _ _ _ _ (T3.setTop (mkF m 19 #[.val (.ref aa), .val (.int tp), .val (.long rp), .second, .unset, .unset, .unset, .unset, .unset, .unset, .unset] [(.ref aa), (.int (0 : Int32))]))
  obtain ⟨T4, X4, e4, st4⟩ := getF X3 hx hZ hown (host := "") (Or.inl (hw _ (List.mem_of_getElem? (i := 13) rfl))) Via.refl e3 F_records_aa (g := (mkF m 19 #[.val (.ref aa), .val (.int tp), .val (.long rp), .second, .unset, .unset, .unset, .unset, .unset, .unset, .unset] [(.ref aa), (.int (0 : Int32))])) rfl rfl (hb hby d5_19)
  refine Go.step st4 ?_
  show Go _ _ _ _ _ _ _ (T4.setTop (mkF m 22 #[.val (.ref aa), .val (.int tp), .val (.long rp), .second, .unset, .unset, .unset, .unset, .unset, .unset, .unset] [(.ref br), (.int (0 : Int32))]))
  refine Go.step (own_len X4 hx hZ e4 A_br (z := (3072 : Int32)) rfl (f := (mkF m 22 #[.val (.ref aa), .val (.int tp), .val (.long rp), .second, .unset, .unset, .unset, .unset, .unset, .unset, .unset] [(.ref br), (.int (0 : Int32))])) rfl rfl (hb hby d5_22)) ?_
  show Go _ _ _ _ _ _ _ (T4.setTop (mkF m 23 #[.val (.ref aa), .val (.int tp), .val (.long rp), .second, .unset, .unset, .unset, .unset, .unset, .unset, .unset] [(.int (3072 : Int32)), (.int (0 : Int32))]))
  refine Go.step (fun t k => XS.icmpYes X4.here hx rfl (pc0 := 23) (pc' := 54) rfl (hb hby d5_23) rfl (feq (by decide : ¬ (0 : Int32) = (3072 : Int32))).2 (by decide) (by decide) k) ?_
  show Go _ _ _ _ _ _ _ (T4.setTop (mkF m 54 #[.val (.ref aa), .val (.int tp), .val (.long rp), .second, .unset, .unset, .unset, .unset, .unset, .unset, .unset] []))
  refine Go.step (fun t k => XS.iloadN X4.here hx rfl (hb hby d5_54) rfl k) ?_
  show Go _ _ _ _ _ _ _ (T4.setTop (mkF m 55 #[.val (.ref aa), .val (.int tp), .val (.long rp), .second, .unset, .unset, .unset, .unset, .unset, .unset, .unset] [(.int tp)]))
  refine Go.step (fun t k => XS.iconst X4.here hx rfl (hb hby d5_55) k) ?_
  show Go _ _ _ _ _ _ _ (T4.setTop (mkF m 56 #[.val (.ref aa), .val (.int tp), .val (.long rp), .second, .unset, .unset, .unset, .unset, .unset, .unset, .unset] [(.int (4 : Int32)), (.int tp)]))
  refine Go.step (fun t k => XS.imul X4.here hx rfl (hb hby d5_56) rfl k) ?_
  show Go _ _ _ _ _ _ _ (T4.setTop (mkF m 57 #[.val (.ref aa), .val (.int tp), .val (.long rp), .second, .unset, .unset, .unset, .unset, .unset, .unset, .unset] [(.int (tp * (4 : Int32)))]))
  refine Go.step (fun t k => XS.istore X4.here hx rfl (hb hby d5_57) rfl (l' := #[.val (.ref aa), .val (.int tp), .val (.long rp), .second, .val (.int (tp * (4 : Int32))), .unset, .unset, .unset, .unset, .unset, .unset]) rfl k) ?_
  show Go _ _ _ _ _ _ _ (T4.setTop (mkF m 59 #[.val (.ref aa), .val (.int tp), .val (.long rp), .second, .val (.int (tp * (4 : Int32))), .unset, .unset, .unset, .unset, .unset, .unset] []))
  refine Go.step (fun t k => XS.aloadN X4.here hx rfl (hb hby d5_59) rfl rfl k) ?_
  show Go _ _ _ _ _ _ _ (T4.setTop (mkF m 60 #[.val (.ref aa), .val (.int tp), .val (.long rp), .second, .val (.int (tp * (4 : Int32))), .unset, .unset, .unset, .unset, .unset, .unset] [(.ref aa)]))
  obtain ⟨T6, X6, e6, st6⟩ := getF X4 hx hZ hown (host := "") (Or.inl (hw _ (List.mem_of_getElem? (i := 10) rfl))) Via.refl e4 F_lines_aa (g := (mkF m 60 #[.val (.ref aa), .val (.int tp), .val (.long rp), .second, .val (.int (tp * (4 : Int32))), .unset, .unset, .unset, .unset, .unset, .unset] [(.ref aa)])) rfl rfl (hb hby d5_60)
  refine Go.step st6 ?_
  show Go _ _ _ _ _ _ _ (T6.setTop (mkF m 63 #[.val (.ref aa), .val (.int tp), .val (.long rp), .second, .val (.int (tp * (4 : Int32))), .unset, .unset, .unset, .unset, .unset, .unset] [(.ref bl)]))
  refine Go.step (fun t k => XS.iload X6.here hx rfl (hb hby d5_63) rfl k) ?_
  show Go _ _ _ _ _ _ _ (T6.setTop (mkF m 65 #[.val (.ref aa), .val (.int tp), .val (.long rp), .second, .val (.int (tp * (4 : Int32))), .unset, .unset, .unset, .unset, .unset, .unset] [(.int (tp * (4 : Int32))), (.ref bl)]))
  refine Go.step (fun t k => XS.iconst X6.here hx rfl (hb hby d5_65) k) ?_
  show Go _ _ _ _ _ _ _ (T6.setTop (mkF m 66 #[.val (.ref aa), .val (.int tp), .val (.long rp), .second, .val (.int (tp * (4 : Int32))), .unset, .unset, .unset, .unset, .unset, .unset] [(.int (0 : Int32)), (.int (tp * (4 : Int32))), (.ref bl)]))
  refine Go.step (fun t k => XS.iadd X6.here hx rfl (hb hby d5_66) rfl k) ?_
  show Go _ _ _ _ _ _ _ (T6.setTop (mkF m 67 #[.val (.ref aa), .val (.int tp), .val (.long rp), .second, .val (.int (tp * (4 : Int32))), .unset, .unset, .unset, .unset, .unset, .unset] [(.int ((tp * (4 : Int32)) + (0 : Int32))), (.ref bl)]))
  refine Go.step (own_ld X6 hx hZ e6 A_bl (j := ((tp * (4 : Int32)) + (0 : Int32))) (4 * kt + 0) (own_ix htp hkt rfl (by decide)) (by omega) (v := (.long (gg (4 * kt + 0)))) rfl (Or.inr (Or.inl ⟨rfl, rfl⟩)) (f := (mkF m 67 #[.val (.ref aa), .val (.int tp), .val (.long rp), .second, .val (.int (tp * (4 : Int32))), .unset, .unset, .unset, .unset, .unset, .unset] [(.int ((tp * (4 : Int32)) + (0 : Int32))), (.ref bl)])) rfl rfl (hb hby d5_67)) ?_
  show Go _ _ _ _ _ _ _ (T6.setTop (mkF m 68 #[.val (.ref aa), .val (.int tp), .val (.long rp), .second, .val (.int (tp * (4 : Int32))), .unset, .unset, .unset, .unset, .unset, .unset] [(.long (gg (4 * kt + 0)))]))
  refine Go.step (fun t k => XS.lstore X6.here hx rfl (hb hby d5_68) rfl (l' := #[.val (.ref aa), .val (.int tp), .val (.long rp), .second, .val (.int (tp * (4 : Int32))), .val (.long (gg (4 * kt + 0))), .second, .unset, .unset, .unset, .unset]) rfl k) ?_
  show Go _ _ _ _ _ _ _ (T6.setTop (mkF m 70 #[.val (.ref aa), .val (.int tp), .val (.long rp), .second, .val (.int (tp * (4 : Int32))), .val (.long (gg (4 * kt + 0))), .second, .unset, .unset, .unset, .unset] []))
  refine Go.step (fun t k => XS.aloadN X6.here hx rfl (hb hby d5_70) rfl rfl k) ?_
  show Go _ _ _ _ _ _ _ (T6.setTop (mkF m 71 #[.val (.ref aa), .val (.int tp), .val (.long rp), .second, .val (.int (tp * (4 : Int32))), .val (.long (gg (4 * kt + 0))), .second, .unset, .unset, .unset, .unset] [(.ref aa)]))
  obtain ⟨T8, X8, e8, st8⟩ := getF X6 hx hZ hown (host := "") (Or.inl (hw _ (List.mem_of_getElem? (i := 38) rfl))) Via.refl e6 F_recordCount_aa (g := (mkF m 71 #[.val (.ref aa), .val (.int tp), .val (.long rp), .second, .val (.int (tp * (4 : Int32))), .val (.long (gg (4 * kt + 0))), .second, .unset, .unset, .unset, .unset] [(.ref aa)])) rfl rfl (hb hby d5_71)
  refine Go.step st8 ?_
  show Go _ _ _ _ _ _ _ (T8.setTop (mkF m 74 #[.val (.ref aa), .val (.int tp), .val (.long rp), .second, .val (.int (tp * (4 : Int32))), .val (.long (gg (4 * kt + 0))), .second, .unset, .unset, .unset, .unset] [(.int (0 : Int32))]))
  refine Go.step (fun t k => XS.iconst X8.here hx rfl (hb hby d5_74) k) ?_
  show Go _ _ _ _ _ _ _ (T8.setTop (mkF m 75 #[.val (.ref aa), .val (.int tp), .val (.long rp), .second, .val (.int (tp * (4 : Int32))), .val (.long (gg (4 * kt + 0))), .second, .unset, .unset, .unset, .unset] [(.int (3 : Int32)), (.int (0 : Int32))]))
  refine Go.step (fun t k => XS.imul X8.here hx rfl (hb hby d5_75) rfl k) ?_
  show Go _ _ _ _ _ _ _ (T8.setTop (mkF m 76 #[.val (.ref aa), .val (.int tp), .val (.long rp), .second, .val (.int (tp * (4 : Int32))), .val (.long (gg (4 * kt + 0))), .second, .unset, .unset, .unset, .unset] [(.int (0 : Int32))]))
  refine Go.step (fun t k => XS.istore X8.here hx rfl (hb hby d5_76) rfl (l' := #[.val (.ref aa), .val (.int tp), .val (.long rp), .second, .val (.int (tp * (4 : Int32))), .val (.long (gg (4 * kt + 0))), .second, .val (.int (0 : Int32)), .unset, .unset, .unset]) rfl k) ?_
  show Go _ _ _ _ _ _ _ (T8.setTop (mkF m 78 #[.val (.ref aa), .val (.int tp), .val (.long rp), .second, .val (.int (tp * (4 : Int32))), .val (.long (gg (4 * kt + 0))), .second, .val (.int (0 : Int32)), .unset, .unset, .unset] []))
  refine Go.step (fun t k => XS.aloadN X8.here hx rfl (hb hby d5_78) rfl rfl k) ?_
  show Go _ _ _ _ _ _ _ (T8.setTop (mkF m 79 #[.val (.ref aa), .val (.int tp), .val (.long rp), .second, .val (.int (tp * (4 : Int32))), .val (.long (gg (4 * kt + 0))), .second, .val (.int (0 : Int32)), .unset, .unset, .unset] [(.ref aa)]))
  obtain ⟨T9, X9, e9, st9⟩ := getF X8 hx hZ hown (host := "") (Or.inl (hw _ (List.mem_of_getElem? (i := 13) rfl))) Via.refl e8 F_records_aa (g := (mkF m 79 #[.val (.ref aa), .val (.int tp), .val (.long rp), .second, .val (.int (tp * (4 : Int32))), .val (.long (gg (4 * kt + 0))), .second, .val (.int (0 : Int32)), .unset, .unset, .unset] [(.ref aa)])) rfl rfl (hb hby d5_79)
  refine Go.step st9 ?_
  show Go _ _ _ _ _ _ _ (T9.setTop (mkF m 82 #[.val (.ref aa), .val (.int tp), .val (.long rp), .second, .val (.int (tp * (4 : Int32))), .val (.long (gg (4 * kt + 0))), .second, .val (.int (0 : Int32)), .unset, .unset, .unset] [(.ref br)]))
  refine Go.step (fun t k => XS.iload X9.here hx rfl (hb hby d5_82) rfl k) ?_
  show Go _ _ _ _ _ _ _ (T9.setTop (mkF m 84 #[.val (.ref aa), .val (.int tp), .val (.long rp), .second, .val (.int (tp * (4 : Int32))), .val (.long (gg (4 * kt + 0))), .second, .val (.int (0 : Int32)), .unset, .unset, .unset] [(.int (0 : Int32)), (.ref br)]))
  refine Go.step (fun t k => XS.lloadN X9.here hx rfl (hb hby d5_84) rfl k) ?_
  show Go _ _ _ _ _ _ _ (T9.setTop (mkF m 85 #[.val (.ref aa), .val (.int tp), .val (.long rp), .second, .val (.int (tp * (4 : Int32))), .val (.long (gg (4 * kt + 0))), .second, .val (.int (0 : Int32)), .unset, .unset, .unset] [(.long rp), (.int (0 : Int32)), (.ref br)]))
  refine Go.step (fun t k => XS.aloadN X9.here hx rfl (hb hby d5_85) rfl rfl k) ?_
  show Go _ _ _ _ _ _ _ (T9.setTop (mkF m 86 #[.val (.ref aa), .val (.int tp), .val (.long rp), .second, .val (.int (tp * (4 : Int32))), .val (.long (gg (4 * kt + 0))), .second, .val (.int (0 : Int32)), .unset, .unset, .unset] [(.ref aa), (.long rp), (.int (0 : Int32)), (.ref br)]))
  obtain ⟨T10, X10, e10, st10⟩ := getF X9 hx hZ hown (host := "") (Or.inl (hw _ (List.mem_of_getElem? (i := 40) rfl))) Via.refl e9 F_origin_aa (g := (mkF m 86 #[.val (.ref aa), .val (.int tp), .val (.long rp), .second, .val (.int (tp * (4 : Int32))), .val (.long (gg (4 * kt + 0))), .second, .val (.int (0 : Int32)), .unset, .unset, .unset] [(.ref aa), (.long rp), (.int (0 : Int32)), (.ref br)])) rfl rfl (hb hby d5_86)
  refine Go.step st10 ?_
  show Go _ _ _ _ _ _ _ (T10.setTop (mkF m 89 #[.val (.ref aa), .val (.int tp), .val (.long rp), .second, .val (.int (tp * (4 : Int32))), .val (.long (gg (4 * kt + 0))), .second, .val (.int (0 : Int32)), .unset, .unset, .unset] [(.long rp), (.long rp), (.int (0 : Int32)), (.ref br)]))
  refine Go.step (fun t k => XS.lsub X10.here hx rfl (hb hby d5_89) rfl k) ?_
  show Go _ _ _ _ _ _ _ (T10.setTop (mkF m 90 #[.val (.ref aa), .val (.int tp), .val (.long rp), .second, .val (.int (tp * (4 : Int32))), .val (.long (gg (4 * kt + 0))), .second, .val (.int (0 : Int32)), .unset, .unset, .unset] [(.long (rp - rp)), (.int (0 : Int32)), (.ref br)]))
  obtain ⟨_, _, ⟨T11, L11, k11, n11⟩, -, X11, ⟨Lc11, hQ11, l11, y11, z11⟩, st11⟩ := Jvm.LawKit.callS X10 hx (y := (⟨"java/lang/Math", "toIntExact", "(J)I"⟩ : MethodName)) hown (mvT hZ (hw _ (List.mem_of_getElem? (i := 42) rfl))) (mvT hZ (hw _ (List.mem_of_getElem? (i := 43) rfl))) (mvT hZ (hw _ (List.mem_of_getElem? (i := 44) rfl))) (mvT hZ (hw _ (List.mem_of_getElem? (i := 45) rfl))) (by decide) (backOf (W := 2) (rm6 l Z a0 hw [] (rp - rp) h2 n0 Z2 hex) hZ (hw _ (List.mem_of_getElem? (i := 45) rfl)) (hw _ (List.mem_of_getElem? (i := 44) rfl)) (by decide) (by decide)) (g := (mkF m 90 #[.val (.ref aa), .val (.int tp), .val (.long rp), .second, .val (.int (tp * (4 : Int32))), .val (.long (gg (4 * kt + 0))), .second, .val (.int (0 : Int32)), .unset, .unset, .unset] [(.long (rp - rp)), (.int (0 : Int32)), (.ref br)])) rfl (by rw [hml]; rfl) (argsL := [(.long (rp - rp))]) (rest := [(.int (0 : Int32)), (.ref br)]) (lenOf pd_5_0_0 rfl) rfl (by show 2 * 0 + _ ≤ _; exact Nat.le_of_eq rfl) (hb hby d5_90) (fun _ _ => ⟨rfl, e10, (by decide : 0 + 0 ≤ _), (by decide : 0 + 0 ≤ _)⟩)
  dsimp only [Pt.U, Pt.locs, Pt.cells, Pt.slots] at X11 l11 y11 z11 st11 hQ11
  subst l11 y11 z11
  obtain ⟨rfl, N11q, K11q⟩ := hQ11
  have N11 := Fr.app N2 N11q
  refine Go.step st11 ?_
  show Go _ _ _ _ _ _ _ (T11.setTop (mkF m 93 #[.val (.ref aa), .val (.int tp), .val (.long rp), .second, .val (.int (tp * (4 : Int32))), .val (.long (gg (4 * kt + 0))), .second, .val (.int (0 : Int32)), .unset, .unset, .unset] [(.int ((rp - rp).toInt32)), (.int (0 : Int32)), (.ref br)]))
  obtain ⟨T12, h12, X12, e12, W12, st12⟩ := own_stI X11 hx hZ K11q A_br 0 rfl (by decide) (f := (mkF m 93 #[.val (.ref aa), .val (.int tp), .val (.long rp), .second, .val (.int (tp * (4 : Int32))), .val (.long (gg (4 * kt + 0))), .second, .val (.int (0 : Int32)), .unset, .unset, .unset] [(.int ((rp - rp).toInt32)), (.int (0 : Int32)), (.ref br)])) rfl rfl (hb hby d5_93)
  replace F_lines_aa := F_lines_aa.other W12 (Or.inl (Ne.symm ne_br_aa))
  replace F_records_aa := F_records_aa.other W12 (Or.inl (Ne.symm ne_br_aa))
  replace F_runRecords_aa := F_runRecords_aa.other W12 (Or.inl (Ne.symm ne_br_aa))
  replace F_runFirsts_aa := F_runFirsts_aa.other W12 (Or.inl (Ne.symm ne_br_aa))
  replace F_topics_aa := F_topics_aa.other W12 (Or.inl (Ne.symm ne_br_aa))
  replace F_recordCount_aa := F_recordCount_aa.other W12 (Or.inl (Ne.symm ne_br_aa))
  replace F_runCount_aa := F_runCount_aa.other W12 (Or.inl (Ne.symm ne_br_aa))
  replace F_origin_aa := F_origin_aa.other W12 (Or.inl (Ne.symm ne_br_aa))
  replace E_aa := E_aa.wr W12
  replace A_bl := A_bl.other W12 ne_bl_br
  replace A_bq := A_bq.other W12 (Ne.symm ne_br_bq)
  replace A_bf := A_bf.other W12 (Ne.symm ne_br_bf)
  have Z12 := Nat.le_trans Z2 (Keep.of_wr W12).1
  have N12 := Fr.snoc X12 N11 g_br
  have K12 := K2.wr W12 (Or.inl (List.mem_of_getElem? (i := 2) rfl))
  replace A_br := A_br.setI W12
  refine Go.step st12 ?_
  show Go _ _ _ _ _ _ _ (T12.setTop (mkF m 94 #[.val (.ref aa), .val (.int tp), .val (.long rp), .second, .val (.int (tp * (4 : Int32))), .val (.long (gg (4 * kt + 0))), .second, .val (.int (0 : Int32)), .unset, .unset, .unset] []))
  refine Go.step (fun t k => XS.aloadN X12.here hx rfl (hb hby d5_94) rfl rfl k) ?_
  show Go _ _ _ _ _ _ _ (T12.setTop (mkF m 95 #[.val (.ref aa), .val (.int tp), .val (.long rp), .second, .val (.int (tp * (4 : Int32))), .val (.long (gg (4 * kt + 0))), .second, .val (.int (0 : Int32)), .unset, .unset, .unset] [(.ref aa)]))
  obtain ⟨T13, X13, e13, st13⟩ := getF X12 hx hZ hown (host := "") (Or.inl (hw _ (List.mem_of_getElem? (i := 10) rfl))) Via.refl e12 F_lines_aa (g := (mkF m 95 #[.val (.ref aa), .val (.int tp), .val (.long rp), .second, .val (.int (tp * (4 : Int32))), .val (.long (gg (4 * kt + 0))), .second, .val (.int (0 : Int32)), .unset, .unset, .unset] [(.ref aa)])) rfl rfl (hb hby d5_95)
  refine Go.step st13 ?_
  show Go _ _ _ _ _ _ _ (T13.setTop (mkF m 98 #[.val (.ref aa), .val (.int tp), .val (.long rp), .second, .val (.int (tp * (4 : Int32))), .val (.long (gg (4 * kt + 0))), .second, .val (.int (0 : Int32)), .unset, .unset, .unset] [(.ref bl)]))
  refine Go.step (fun t k => XS.iload X13.here hx rfl (hb hby d5_98) rfl k) ?_
  show Go _ _ _ _ _ _ _ (T13.setTop (mkF m 100 #[.val (.ref aa), .val (.int tp), .val (.long rp), .second, .val (.int (tp * (4 : Int32))), .val (.long (gg (4 * kt + 0))), .second, .val (.int (0 : Int32)), .unset, .unset, .unset] [(.int (tp * (4 : Int32))), (.ref bl)]))
  refine Go.step (fun t k => XS.iconst X13.here hx rfl (hb hby d5_100) k) ?_
  show Go _ _ _ _ _ _ _ (T13.setTop (mkF m 101 #[.val (.ref aa), .val (.int tp), .val (.long rp), .second, .val (.int (tp * (4 : Int32))), .val (.long (gg (4 * kt + 0))), .second, .val (.int (0 : Int32)), .unset, .unset, .unset] [(.int (3 : Int32)), (.int (tp * (4 : Int32))), (.ref bl)]))
  refine Go.step (fun t k => XS.iadd X13.here hx rfl (hb hby d5_101) rfl k) ?_
  show Go _ _ _ _ _ _ _ (T13.setTop (mkF m 102 #[.val (.ref aa), .val (.int tp), .val (.long rp), .second, .val (.int (tp * (4 : Int32))), .val (.long (gg (4 * kt + 0))), .second, .val (.int (0 : Int32)), .unset, .unset, .unset] [(.int ((tp * (4 : Int32)) + (3 : Int32))), (.ref bl)]))
  refine Go.step (own_ld X13 hx hZ e13 A_bl (j := ((tp * (4 : Int32)) + (3 : Int32))) (4 * kt + 3) (own_ix htp hkt rfl (by decide)) (by omega) (v := (.long (gg (4 * kt + 3)))) rfl (Or.inr (Or.inl ⟨rfl, rfl⟩)) (f := (mkF m 102 #[.val (.ref aa), .val (.int tp), .val (.long rp), .second, .val (.int (tp * (4 : Int32))), .val (.long (gg (4 * kt + 0))), .second, .val (.int (0 : Int32)), .unset, .unset, .unset] [(.int ((tp * (4 : Int32)) + (3 : Int32))), (.ref bl)])) rfl rfl (hb hby d5_102)) ?_
  show Go _ _ _ _ _ _ _ (T13.setTop (mkF m 103 #[.val (.ref aa), .val (.int tp), .val (.long rp), .second, .val (.int (tp * (4 : Int32))), .val (.long (gg (4 * kt + 0))), .second, .val (.int (0 : Int32)), .unset, .unset, .unset] [(.long (gg (4 * kt + 3)))]))
  refine Go.step (fun t k => XS.lstore X13.here hx rfl (hb hby d5_103) rfl (l' := #[.val (.ref aa), .val (.int tp), .val (.long rp), .second, .val (.int (tp * (4 : Int32))), .val (.long (gg (4 * kt + 0))), .second, .val (.int (0 : Int32)), .val (.long (gg (4 * kt + 3))), .second, .unset]) rfl k) ?_
  show Go _ _ _ _ _ _ _ (T13.setTop (mkF m 105 #[.val (.ref aa), .val (.int tp), .val (.long rp), .second, .val (.int (tp * (4 : Int32))), .val (.long (gg (4 * kt + 0))), .second, .val (.int (0 : Int32)), .val (.long (gg (4 * kt + 3))), .second, .unset] []))
  refine Go.step (fun t k => XS.lload X13.here hx rfl (hb hby d5_105) rfl k) ?_
  show Go _ _ _ _ _ _ _ (T13.setTop (mkF m 107 #[.val (.ref aa), .val (.int tp), .val (.long rp), .second, .val (.int (tp * (4 : Int32))), .val (.long (gg (4 * kt + 0))), .second, .val (.int (0 : Int32)), .val (.long (gg (4 * kt + 3))), .second, .unset] [(.long (gg (4 * kt + 3)))]))
  refine Go.step (fun t k => XS.l2i X13.here hx rfl (hb hby d5_107) rfl k) ?_
  show Go _ _ _ _ _ _ _ (T13.setTop (mkF m 108 #[.val (.ref aa), .val (.int tp), .val (.long rp), .second, .val (.int (tp * (4 : Int32))), .val (.long (gg (4 * kt + 0))), .second, .val (.int (0 : Int32)), .val (.long (gg (4 * kt + 3))), .second, .unset] [(.int ((gg (4 * kt + 3)).toInt32))]))
  refine Go.step (fun t k => XS.istore X13.here hx rfl (hb hby d5_108) rfl (l' := #[.val (.ref aa), .val (.int tp), .val (.long rp), .second, .val (.int (tp * (4 : Int32))), .val (.long (gg (4 * kt + 0))), .second, .val (.int (0 : Int32)), .val (.long (gg (4 * kt + 3))), .second, .val (.int ((gg (4 * kt + 3)).toInt32))]) rfl k) ?_
  show Go _ _ _ _ _ _ _ (T13.setTop (mkF m 110 #[.val (.ref aa), .val (.int tp), .val (.long rp), .second, .val (.int (tp * (4 : Int32))), .val (.long (gg (4 * kt + 0))), .second, .val (.int (0 : Int32)), .val (.long (gg (4 * kt + 3))), .second, .val (.int ((gg (4 * kt + 3)).toInt32))] []))
  refine Go.step (fun t k => XS.iload X13.here hx rfl (hb hby d5_110) rfl k) ?_
  show Go _ _ _ _ _ _ _ (T13.setTop (mkF m 112 #[.val (.ref aa), .val (.int tp), .val (.long rp), .second, .val (.int (tp * (4 : Int32))), .val (.long (gg (4 * kt + 0))), .second, .val (.int (0 : Int32)), .val (.long (gg (4 * kt + 3))), .second, .val (.int ((gg (4 * kt + 3)).toInt32))] [(.int ((gg (4 * kt + 3)).toInt32))]))
  refine Go.step (fun t k => XS.ifYes X13.here hx rfl (pc0 := 112) (pc' := 143) rfl (hb hby d5_112) rfl ((if0 _ _).trans (tlt (hla : ((gg (4 * kt + 3)).toInt32) < (0 : Int32))).1) (by decide) (by decide) k) ?_
  show Go _ _ _ _ _ _ _ (T13.setTop (mkF m 143 #[.val (.ref aa), .val (.int tp), .val (.long rp), .second, .val (.int (tp * (4 : Int32))), .val (.long (gg (4 * kt + 0))), .second, .val (.int (0 : Int32)), .val (.long (gg (4 * kt + 3))), .second, .val (.int ((gg (4 * kt + 3)).toInt32))] []))
  refine Go.step (fun t k => XS.aloadN X13.here hx rfl (hb hby d5_143) rfl rfl k) ?_
  show Go _ _ _ _ _ _ _ (T13.setTop (mkF m 144 #[.val (.ref aa), .val (.int tp), .val (.long rp), .second, .val (.int (tp * (4 : Int32))), .val (.long (gg (4 * kt + 0))), .second, .val (.int (0 : Int32)), .val (.long (gg (4 * kt + 3))), .second, .val (.int ((gg (4 * kt + 3)).toInt32))] [(.ref aa)]))
  obtain ⟨T15, X15, e15, st15⟩ := getF X13 hx hZ hown (host := "") (Or.inl (hw _ (List.mem_of_getElem? (i := 13) rfl))) Via.refl e13 F_records_aa (g := (mkF m 144 #[.val (.ref aa), .val (.int tp), .val (.long rp), .second, .val (.int (tp * (4 : Int32))), .val (.long (gg (4 * kt + 0))), .second, .val (.int (0 : Int32)), .val (.long (gg (4 * kt + 3))), .second, .val (.int ((gg (4 * kt + 3)).toInt32))] [(.ref aa)])) rfl rfl (hb hby d5_144)
  refine Go.step st15 ?_
  show Go _ _ _ _ _ _ _ (T15.setTop (mkF m 147 #[.val (.ref aa), .val (.int tp), .val (.long rp), .second, .val (.int (tp * (4 : Int32))), .val (.long (gg (4 * kt + 0))), .second, .val (.int (0 : Int32)), .val (.long (gg (4 * kt + 3))), .second, .val (.int ((gg (4 * kt + 3)).toInt32))] [(.ref br)]))
  refine Go.step (fun t k => XS.iload X15.here hx rfl (hb hby d5_147) rfl k) ?_
  show Go _ _ _ _ _ _ _ (T15.setTop (mkF m 149 #[.val (.ref aa), .val (.int tp), .val (.long rp), .second, .val (.int (tp * (4 : Int32))), .val (.long (gg (4 * kt + 0))), .second, .val (.int (0 : Int32)), .val (.long (gg (4 * kt + 3))), .second, .val (.int ((gg (4 * kt + 3)).toInt32))] [(.int (0 : Int32)), (.ref br)]))
  refine Go.step (fun t k => XS.iconst X15.here hx rfl (hb hby d5_149) k) ?_
  show Go _ _ _ _ _ _ _ (T15.setTop (mkF m 150 #[.val (.ref aa), .val (.int tp), .val (.long rp), .second, .val (.int (tp * (4 : Int32))), .val (.long (gg (4 * kt + 0))), .second, .val (.int (0 : Int32)), .val (.long (gg (4 * kt + 3))), .second, .val (.int ((gg (4 * kt + 3)).toInt32))] [(.int (1 : Int32)), (.int (0 : Int32)), (.ref br)]))
  refine Go.step (fun t k => XS.iadd X15.here hx rfl (hb hby d5_150) rfl k) ?_
  show Go _ _ _ _ _ _ _ (T15.setTop (mkF m 151 #[.val (.ref aa), .val (.int tp), .val (.long rp), .second, .val (.int (tp * (4 : Int32))), .val (.long (gg (4 * kt + 0))), .second, .val (.int (0 : Int32)), .val (.long (gg (4 * kt + 3))), .second, .val (.int ((gg (4 * kt + 3)).toInt32))] [(.int (1 : Int32)), (.ref br)]))
  refine Go.step (fun t k => XS.iloadN X15.here hx rfl (hb hby d5_151) rfl k) ?_
  show Go _ _ _ _ _ _ _ (T15.setTop (mkF m 152 #[.val (.ref aa), .val (.int tp), .val (.long rp), .second, .val (.int (tp * (4 : Int32))), .val (.long (gg (4 * kt + 0))), .second, .val (.int (0 : Int32)), .val (.long (gg (4 * kt + 3))), .second, .val (.int ((gg (4 * kt + 3)).toInt32))] [(.int tp), (.int (1 : Int32)), (.ref br)]))
  refine Go.step (fun t k => X15.ldcInt hx hown (mvT hZ (hw _ (List.mem_of_getElem? (i := 46) rfl))) (g := (mkF m 152 #[.val (.ref aa), .val (.int tp), .val (.long rp), .second, .val (.int (tp * (4 : Int32))), .val (.long (gg (4 * kt + 0))), .second, .val (.int (0 : Int32)), .val (.long (gg (4 * kt + 3))), .second, .val (.int ((gg (4 * kt + 3)).toInt32))] [(.int tp), (.int (1 : Int32)), (.ref br)])) rfl (hb hby d5_152) _ k) ?_
  show Go _ _ _ _ _ _ _ (T15.setTop (mkF m 154 #[.val (.ref aa), .val (.int tp), .val (.long rp), .second, .val (.int (tp * (4 : Int32))), .val (.long (gg (4 * kt + 0))), .second, .val (.int (0 : Int32)), .val (.long (gg (4 * kt + 3))), .second, .val (.int ((gg (4 * kt + 3)).toInt32))] [(.int (-2147483648 : Int32)), (.int tp), (.int (1 : Int32)), (.ref br)]))
  refine Go.step (fun t k => XS.ior X15.here hx rfl (hb hby d5_154) rfl k) ?_
  show Go _ _ _ _ _ _ _ (T15.setTop (mkF m 155 #[.val (.ref aa), .val (.int tp), .val (.long rp), .second, .val (.int (tp * (4 : Int32))), .val (.long (gg (4 * kt + 0))), .second, .val (.int (0 : Int32)), .val (.long (gg (4 * kt + 3))), .second, .val (.int ((gg (4 * kt + 3)).toInt32))] [(.int (tp ||| (-2147483648 : Int32))), (.int (1 : Int32)), (.ref br)]))
  obtain ⟨T16, h16, X16, e16, W16, st16⟩ := own_stI X15 hx hZ e15 A_br 1 rfl (by decide) (f := (mkF m 155 #[.val (.ref aa), .val (.int tp), .val (.long rp), .second, .val (.int (tp * (4 : Int32))), .val (.long (gg (4 * kt + 0))), .second, .val (.int (0 : Int32)), .val (.long (gg (4 * kt + 3))), .second, .val (.int ((gg (4 * kt + 3)).toInt32))] [(.int (tp ||| (-2147483648 : Int32))), (.int (1 : Int32)), (.ref br)])) rfl rfl (hb hby d5_155)
  replace F_lines_aa := F_lines_aa.other W16 (Or.inl (Ne.symm ne_br_aa))
  replace F_records_aa := F_records_aa.other W16 (Or.inl (Ne.symm ne_br_aa))
  replace F_runRecords_aa := F_runRecords_aa.other W16 (Or.inl (Ne.symm ne_br_aa))
  replace F_runFirsts_aa := F_runFirsts_aa.other W16 (Or.inl (Ne.symm ne_br_aa))
  replace F_topics_aa := F_topics_aa.other W16 (Or.inl (Ne.symm ne_br_aa))
  replace F_recordCount_aa := F_recordCount_aa.other W16 (Or.inl (Ne.symm ne_br_aa))
  replace F_runCount_aa := F_runCount_aa.other W16 (Or.inl (Ne.symm ne_br_aa))
  replace F_origin_aa := F_origin_aa.other W16 (Or.inl (Ne.symm ne_br_aa))
  replace E_aa := E_aa.wr W16
  replace A_bl := A_bl.other W16 ne_bl_br
  replace A_bq := A_bq.other W16 (Ne.symm ne_br_bq)
  replace A_bf := A_bf.other W16 (Ne.symm ne_br_bf)
  have Z16 := Nat.le_trans Z12 (Keep.of_wr W16).1
  have N16 := Fr.snoc X16 N12 g_br
  have K16 := K12.wr W16 (Or.inl (List.mem_of_getElem? (i := 2) rfl))
  replace A_br := A_br.setI W16
  refine Go.step st16 ?_
  show Go _ _ _ _ _ _ _ (T16.setTop (mkF m 156 #[.val (.ref aa), .val (.int tp), .val (.long rp), .second, .val (.int (tp * (4 : Int32))), .val (.long (gg (4 * kt + 0))), .second, .val (.int (0 : Int32)), .val (.long (gg (4 * kt + 3))), .second, .val (.int ((gg (4 * kt + 3)).toInt32))] []))
  refine Go.step (fun t k => XS.aloadN X16.here hx rfl (hb hby d5_156) rfl rfl k) ?_
  show Go _ _ _ _ _ _ _ (T16.setTop (mkF m 157 #[.val (.ref aa), .val (.int tp), .val (.long rp), .second, .val (.int (tp * (4 : Int32))), .val (.long (gg (4 * kt + 0))), .second, .val (.int (0 : Int32)), .val (.long (gg (4 * kt + 3))), .second, .val (.int ((gg (4 * kt + 3)).toInt32))] [(.ref aa)]))
  refine Go.step (fun t k => XS.aloadN X16.here hx rfl (hb hby d5_157) rfl rfl k) ?_
  show Go _ _ _ _ _ _ _ (T16.setTop (mkF m 158 #[.val (.ref aa), .val (.int tp), .val (.long rp), .second, .val (.int (tp * (4 : Int32))), .val (.long (gg (4 * kt + 0))), .second, .val (.int (0 : Int32)), .val (.long (gg (4 * kt + 3))), .second, .val (.int ((gg (4 * kt + 3)).toInt32))] [(.ref aa), (.ref aa)]))
  obtain ⟨T17, X17, e17, st17⟩ := getF X16 hx hZ hown (host := "") (Or.inl (hw _ (List.mem_of_getElem? (i := 38) rfl))) Via.refl e16 F_recordCount_aa (g := (mkF m 158 #[.val (.ref aa), .val (.int tp), .val (.long rp), .second, .val (.int (tp * (4 : Int32))), .val (.long (gg (4 * kt + 0))), .second, .val (.int (0 : Int32)), .val (.long (gg (4 * kt + 3))), .second, .val (.int ((gg (4 * kt + 3)).toInt32))] [(.ref aa), (.ref aa)])) rfl rfl (hb hby d5_158)
  refine Go.step st17 ?_
  show Go _ _ _ _ _ _ _ (T17.setTop (mkF m 161 #[.val (.ref aa), .val (.int tp), .val (.long rp), .second, .val (.int (tp * (4 : Int32))), .val (.long (gg (4 * kt + 0))), .second, .val (.int (0 : Int32)), .val (.long (gg (4 * kt + 3))), .second, .val (.int ((gg (4 * kt + 3)).toInt32))] [(.int (0 : Int32)), (.ref aa)]))
  refine Go.step (fun t k => XS.lload X17.here hx rfl (hb hby d5_161) rfl k) ?_
  show Go _ _ _ _ _ _ _ (T17.setTop (mkF m 163 #[.val (.ref aa), .val (.int tp), .val (.long rp), .second, .val (.int (tp * (4 : Int32))), .val (.long (gg (4 * kt + 0))), .second, .val (.int (0 : Int32)), .val (.long (gg (4 * kt + 3))), .second, .val (.int ((gg (4 * kt + 3)).toInt32))] [(.long (gg (4 * kt + 0))), (.int (0 : Int32)), (.ref aa)]))
  obtain ⟨cq18, q18, q18'⟩ := E_aa.cell
  obtain ⟨_, _, ⟨T18, L18, k18, n18⟩, -, X18, ⟨Lc18, hQ18, l18, y18, z18⟩, st18⟩ := X17.privateBack hx (y := (⟨"com/example/ferrylog/ferrylog/store/LiveIndex", "beginRun", "(IJ)V"⟩ : MethodName)) hown (mvT hZ (hw _ (List.mem_of_getElem? (i := 47) rfl))) (mvT hZ (hw _ (List.mem_of_getElem? (i := 48) rfl))) (own_selP hZ (hw _ (List.mem_of_getElem? (i := 1) rfl)) (hw _ (List.mem_of_getElem? (i := 48) rfl)) (hw _ (List.mem_of_getElem? (i := 49) rfl)) (by decide)) (Cond.privateMethod_at (mvP hZ (hw _ (List.mem_of_getElem? (i := 49) rfl)) (args := #[]))) (mvT hZ (hw _ (List.mem_of_getElem? (i := 50) rfl))) (by decide) (backOf (W := 0) (rm7 l Z a0 hw [] aa (0 : Int32) (gg (4 * kt + 0)) bl br bq bf tv (0 : Int32) rn rp kr gq gf h16 n0 Z16 F_lines_aa F_records_aa F_runRecords_aa F_runFirsts_aa F_topics_aa F_recordCount_aa F_runCount_aa F_origin_aa E_aa g_aa g_bq g_bf ne_bq_bf A_bq A_bf hrn hkr) hZ (hw _ (List.mem_of_getElem? (i := 50) rfl)) (hw _ (List.mem_of_getElem? (i := 2) rfl)) (by decide) (by decide)) (g := (mkF m 163 #[.val (.ref aa), .val (.int tp), .val (.long rp), .second, .val (.int (tp * (4 : Int32))), .val (.long (gg (4 * kt + 0))), .second, .val (.int (0 : Int32)), .val (.long (gg (4 * kt + 3))), .second, .val (.int ((gg (4 * kt + 3)).toInt32))] [(.long (gg (4 * kt + 0))), (.int (0 : Int32)), (.ref aa)])) rfl (by rw [hml]; rfl) (Steps.refl _) (a := aa) (by rw [e17]; exact q18) q18' (argsL := [(.int (0 : Int32)), (.long (gg (4 * kt + 0)))]) (rest := []) (lenOf pd_5_1_0 rfl) rfl (by show 2 * 0 + _ ≤ _; exact Nat.le_of_eq rfl) (hb hby d5_163) (fun _ _ => ⟨rfl, e17, (by decide : 0 + 0 ≤ _), (by decide : 0 + 0 ≤ _)⟩)
  dsimp only [Pt.U, Pt.locs, Pt.cells, Pt.slots] at X18 l18 y18 z18 st18 hQ18
  subst l18 y18 z18
  obtain ⟨rfl, N18q, K18q, o18_F_lines_aa, o18_F_records_aa, o18_F_runRecords_aa, o18_F_runFirsts_aa, o18_F_topics_aa, o18_F_recordCount_aa, o18_F_runCount_aa, o18_F_origin_aa, o18_A_bq, o18_A_bf⟩ := hQ18
  have N18 := Fr.app N16 N18q
  replace E_aa := E_aa.keep K18q
  replace A_bl := A_bl.keep K18q (ninS ne_bl_aa (ninS ne_bl_bq (ninS ne_bl_bf nin0)))
  replace A_br := A_br.keep K18q (ninS ne_br_aa (ninS ne_br_bq (ninS ne_br_bf nin0)))
  have Z18 := Nat.le_trans Z16 K18q.1
  have K18' := K16.trans K18q (allS (Or.inl (List.mem_of_getElem? (i := 0) rfl)) (allS (Or.inl (List.mem_of_getElem? (i := 3) rfl)) (allS (Or.inl (List.mem_of_getElem? (i := 4) rfl)) all0)))
  have F_lines_aa := o18_F_lines_aa
  have F_records_aa := o18_F_records_aa
  have F_runRecords_aa := o18_F_runRecords_aa
  have F_runFirsts_aa := o18_F_runFirsts_aa
  have F_topics_aa := o18_F_topics_aa
  have F_recordCount_aa := o18_F_recordCount_aa
  have F_runCount_aa := o18_F_runCount_aa
  have F_origin_aa := o18_F_origin_aa
  have A_bq := o18_A_bq
  have A_bf := o18_A_bf
  refine Go.step (fun t k => st18.trans k) ?_
  show Go _ _ _ _ _ _ _ (T18.setTop (mkF m 166 #[.val (.ref aa), .val (.int tp), .val (.long rp), .second, .val (.int (tp * (4 : Int32))), .val (.long (gg (4 * kt + 0))), .second, .val (.int (0 : Int32)), .val (.long (gg (4 * kt + 3))), .second, .val (.int ((gg (4 * kt + 3)).toInt32))] []))
  refine Go.step (fun t k => XS.aloadN X18.here hx rfl (hb hby d5_166) rfl rfl k) ?_
  show Go _ _ _ _ _ _ _ (T18.setTop (mkF m 167 #[.val (.ref aa), .val (.int tp), .val (.long rp), .second, .val (.int (tp * (4 : Int32))), .val (.long (gg (4 * kt + 0))), .second, .val (.int (0 : Int32)), .val (.long (gg (4 * kt + 3))), .second, .val (.int ((gg (4 * kt + 3)).toInt32))] [(.ref aa)]))
  obtain ⟨T19, X19, e19, st19⟩ := getF X18 hx hZ hown (host := "") (Or.inl (hw _ (List.mem_of_getElem? (i := 13) rfl))) Via.refl rfl F_records_aa (g := (mkF m 167 #[.val (.ref aa), .val (.int tp), .val (.long rp), .second, .val (.int (tp * (4 : Int32))), .val (.long (gg (4 * kt + 0))), .second, .val (.int (0 : Int32)), .val (.long (gg (4 * kt + 3))), .second, .val (.int ((gg (4 * kt + 3)).toInt32))] [(.ref aa)])) rfl rfl (hb hby d5_167)
  refine Go.step st19 ?_
  show Go _ _ _ _ _ _ _ (T19.setTop (mkF m 170 #[.val (.ref aa), .val (.int tp), .val (.long rp), .second, .val (.int (tp * (4 : Int32))), .val (.long (gg (4 * kt + 0))), .second, .val (.int (0 : Int32)), .val (.long (gg (4 * kt + 3))), .second, .val (.int ((gg (4 * kt + 3)).toInt32))] [(.ref br)]))
  refine Go.step (fun t k => XS.iload X19.here hx rfl (hb hby d5_170) rfl k) ?_
  show Go _ _ _ _ _ _ _ (T19.setTop (mkF m 172 #[.val (.ref aa), .val (.int tp), .val (.long rp), .second, .val (.int (tp * (4 : Int32))), .val (.long (gg (4 * kt + 0))), .second, .val (.int (0 : Int32)), .val (.long (gg (4 * kt + 3))), .second, .val (.int ((gg (4 * kt + 3)).toInt32))] [(.int (0 : Int32)), (.ref br)]))
  refine Go.step (fun t k => XS.iconst X19.here hx rfl (hb hby d5_172) k) ?_
  show Go _ _ _ _ _ _ _ (T19.setTop (mkF m 173 #[.val (.ref aa), .val (.int tp), .val (.long rp), .second, .val (.int (tp * (4 : Int32))), .val (.long (gg (4 * kt + 0))), .second, .val (.int (0 : Int32)), .val (.long (gg (4 * kt + 3))), .second, .val (.int ((gg (4 * kt + 3)).toInt32))] [(.int (2 : Int32)), (.int (0 : Int32)), (.ref br)]))
  refine Go.step (fun t k => XS.iadd X19.here hx rfl (hb hby d5_173) rfl k) ?_
  show Go _ _ _ _ _ _ _ (T19.setTop (mkF m 174 #[.val (.ref aa), .val (.int tp), .val (.long rp), .second, .val (.int (tp * (4 : Int32))), .val (.long (gg (4 * kt + 0))), .second, .val (.int (0 : Int32)), .val (.long (gg (4 * kt + 3))), .second, .val (.int ((gg (4 * kt + 3)).toInt32))] [(.int (2 : Int32)), (.ref br)]))
  refine Go.step (fun t k => XS.iload X19.here hx rfl (hb hby d5_174) rfl k) ?_
  show Go _ _ _ _ _ _ _ (T19.setTop (mkF m 176 #[.val (.ref aa), .val (.int tp), .val (.long rp), .second, .val (.int (tp * (4 : Int32))), .val (.long (gg (4 * kt + 0))), .second, .val (.int (0 : Int32)), .val (.long (gg (4 * kt + 3))), .second, .val (.int ((gg (4 * kt + 3)).toInt32))] [(.int ((gg (4 * kt + 3)).toInt32)), (.int (2 : Int32)), (.ref br)]))
  obtain ⟨T20, h20, X20, e20, W20, st20⟩ := own_stI X19 hx hZ e19 A_br 2 rfl (by decide) (f := (mkF m 176 #[.val (.ref aa), .val (.int tp), .val (.long rp), .second, .val (.int (tp * (4 : Int32))), .val (.long (gg (4 * kt + 0))), .second, .val (.int (0 : Int32)), .val (.long (gg (4 * kt + 3))), .second, .val (.int ((gg (4 * kt + 3)).toInt32))] [(.int ((gg (4 * kt + 3)).toInt32)), (.int (2 : Int32)), (.ref br)])) rfl rfl (hb hby d5_176)
  replace E_aa := E_aa.wr W20
  replace A_bl := A_bl.other W20 ne_bl_br
  replace F_lines_aa := F_lines_aa.other W20 (Or.inl (Ne.symm ne_br_aa))
  replace F_records_aa := F_records_aa.other W20 (Or.inl (Ne.symm ne_br_aa))
  replace F_runRecords_aa := F_runRecords_aa.other W20 (Or.inl (Ne.symm ne_br_aa))
  replace F_runFirsts_aa := F_runFirsts_aa.other W20 (Or.inl (Ne.symm ne_br_aa))
  replace F_topics_aa := F_topics_aa.other W20 (Or.inl (Ne.symm ne_br_aa))
  replace F_recordCount_aa := F_recordCount_aa.other W20 (Or.inl (Ne.symm ne_br_aa))
  replace F_runCount_aa := F_runCount_aa.other W20 (Or.inl (Ne.symm ne_br_aa))
  replace F_origin_aa := F_origin_aa.other W20 (Or.inl (Ne.symm ne_br_aa))
  replace A_bq := A_bq.other W20 (Ne.symm ne_br_bq)
  replace A_bf := A_bf.other W20 (Ne.symm ne_br_bf)
  have Z20 := Nat.le_trans Z18 (Keep.of_wr W20).1
  have N20 := Fr.snoc X20 N18 g_br
  have K20 := K18'.wr W20 (Or.inl (List.mem_of_getElem? (i := 2) rfl))
  replace A_br := A_br.setI W20
  refine Go.step st20 ?_
  show Go _ _ _ _ _ _ _ (T20.setTop (mkF m 177 #[.val (.ref aa), .val (.int tp), .val (.long rp), .second, .val (.int (tp * (4 : Int32))), .val (.long (gg (4 * kt + 0))), .second, .val (.int (0 : Int32)), .val (.long (gg (4 * kt + 3))), .second, .val (.int ((gg (4 * kt + 3)).toInt32))] []))
  refine Go.step (fun t k => XS.aloadN X20.here hx rfl (hb hby d5_177) rfl rfl k) ?_
  show Go _ _ _ _ _ _ _ (T20.setTop (mkF m 178 #[.val (.ref aa), .val (.int tp), .val (.long rp), .second, .val (.int (tp * (4 : Int32))), .val (.long (gg (4 * kt + 0))), .second, .val (.int (0 : Int32)), .val (.long (gg (4 * kt + 3))), .second, .val (.int ((gg (4 * kt + 3)).toInt32))] [(.ref aa)]))
  obtain ⟨T21, X21, e21, st21⟩ := getF X20 hx hZ hown (host := "") (Or.inl (hw _ (List.mem_of_getElem? (i := 10) rfl))) Via.refl e20 F_lines_aa (g := (mkF m 178 #[.val (.ref aa), .val (.int tp), .val (.long rp), .second, .val (.int (tp * (4 : Int32))), .val (.long (gg (4 * kt + 0))), .second, .val (.int (0 : Int32)), .val (.long (gg (4 * kt + 3))), .second, .val (.int ((gg (4 * kt + 3)).toInt32))] [(.ref aa)])) rfl rfl (hb hby d5_178)
  refine Go.step st21 ?_
  show Go _ _ _ _ _ _ _ (T21.setTop (mkF m 181 #[.val (.ref aa), .val (.int tp), .val (.long rp), .second, .val (.int (tp * (4 : Int32))), .val (.long (gg (4 * kt + 0))), .second, .val (.int (0 : Int32)), .val (.long (gg (4 * kt + 3))), .second, .val (.int ((gg (4 * kt + 3)).toInt32))] [(.ref bl)]))
  refine Go.step (fun t k => XS.iload X21.here hx rfl (hb hby d5_181) rfl k) ?_
  show Go _ _ _ _ _ _ _ (T21.setTop (mkF m 183 #[.val (.ref aa), .val (.int tp), .val (.long rp), .second, .val (.int (tp * (4 : Int32))), .val (.long (gg (4 * kt + 0))), .second, .val (.int (0 : Int32)), .val (.long (gg (4 * kt + 3))), .second, .val (.int ((gg (4 * kt + 3)).toInt32))] [(.int (tp * (4 : Int32))), (.ref bl)]))
  refine Go.step (fun t k => XS.iconst X21.here hx rfl (hb hby d5_183) k) ?_
  show Go _ _ _ _ _ _ _ (T21.setTop (mkF m 184 #[.val (.ref aa), .val (.int tp), .val (.long rp), .second, .val (.int (tp * (4 : Int32))), .val (.long (gg (4 * kt + 0))), .second, .val (.int (0 : Int32)), .val (.long (gg (4 * kt + 3))), .second, .val (.int ((gg (4 * kt + 3)).toInt32))] [(.int (3 : Int32)), (.int (tp * (4 : Int32))), (.ref bl)]))
  refine Go.step (fun t k => XS.iadd X21.here hx rfl (hb hby d5_184) rfl k) ?_
  show Go _ _ _ _ _ _ _ (T21.setTop (mkF m 185 #[.val (.ref aa), .val (.int tp), .val (.long rp), .second, .val (.int (tp * (4 : Int32))), .val (.long (gg (4 * kt + 0))), .second, .val (.int (0 : Int32)), .val (.long (gg (4 * kt + 3))), .second, .val (.int ((gg (4 * kt + 3)).toInt32))] [(.int ((tp * (4 : Int32)) + (3 : Int32))), (.ref bl)]))
  refine Go.step (fun t k => XS.lload X21.here hx rfl (hb hby d5_185) rfl k) ?_
  show Go _ _ _ _ _ _ _ (T21.setTop (mkF m 187 #[.val (.ref aa), .val (.int tp), .val (.long rp), .second, .val (.int (tp * (4 : Int32))), .val (.long (gg (4 * kt + 0))), .second, .val (.int (0 : Int32)), .val (.long (gg (4 * kt + 3))), .second, .val (.int ((gg (4 * kt + 3)).toInt32))] [(.long (gg (4 * kt + 3))), (.int ((tp * (4 : Int32)) + (3 : Int32))), (.ref bl)]))
  refine Go.step (fun t k => X21.ldc2Long hx hown (mvT hZ (hw _ (List.mem_of_getElem? (i := 53) rfl))) (g := (mkF m 187 #[.val (.ref aa), .val (.int tp), .val (.long rp), .second, .val (.int (tp * (4 : Int32))), .val (.long (gg (4 * kt + 0))), .second, .val (.int (0 : Int32)), .val (.long (gg (4 * kt + 3))), .second, .val (.int ((gg (4 * kt + 3)).toInt32))] [(.long (gg (4 * kt + 3))), (.int ((tp * (4 : Int32)) + (3 : Int32))), (.ref bl)])) rfl (hb hby d5_187) _ k) ?_
  show Go _ _ _ _ _ _ _ (T21.setTop (mkF m 190 #[.val (.ref aa), .val (.int tp), .val (.long rp), .second, .val (.int (tp * (4 : Int32))), .val (.long (gg (4 * kt + 0))), .second, .val (.int (0 : Int32)), .val (.long (gg (4 * kt + 3))), .second, .val (.int ((gg (4 * kt + 3)).toInt32))] [(.long (-4294967296 : Int64)), (.long (gg (4 * kt + 3))), (.int ((tp * (4 : Int32)) + (3 : Int32))), (.ref bl)]))
  refine Go.step (fun t k => XS.land X21.here hx rfl (hb hby d5_190) rfl k) ?_
  show Go _ _ _ _ _ _ _ (T21.setTop (mkF m 191 #[.val (.ref aa), .val (.int tp), .val (.long rp), .second, .val (.int (tp * (4 : Int32))), .val (.long (gg (4 * kt + 0))), .second, .val (.int (0 : Int32)), .val (.long (gg (4 * kt + 3))), .second, .val (.int ((gg (4 * kt + 3)).toInt32))] [(.long ((gg (4 * kt + 3)) &&& (-4294967296 : Int64))), (.int ((tp * (4 : Int32)) + (3 : Int32))), (.ref bl)]))
  refine Go.step (fun t k => XS.aloadN X21.here hx rfl (hb hby d5_191) rfl rfl k) ?_
  show Go _ _ _ _ _ _ _ (T21.setTop (mkF m 192 #[.val (.ref aa), .val (.int tp), .val (.long rp), .second, .val (.int (tp * (4 : Int32))), .val (.long (gg (4 * kt + 0))), .second, .val (.int (0 : Int32)), .val (.long (gg (4 * kt + 3))), .second, .val (.int ((gg (4 * kt + 3)).toInt32))] [(.ref aa), (.long ((gg (4 * kt + 3)) &&& (-4294967296 : Int64))), (.int ((tp * (4 : Int32)) + (3 : Int32))), (.ref bl)]))
  refine Go.step (fun t k => XS.dup X21.here hx rfl (hb hby d5_192) rfl rfl k) ?_
  show Go _ _ _ _ _ _ _ (T21.setTop (mkF m 193 #[.val (.ref aa), .val (.int tp), .val (.long rp), .second, .val (.int (tp * (4 : Int32))), .val (.long (gg (4 * kt + 0))), .second, .val (.int (0 : Int32)), .val (.long (gg (4 * kt + 3))), .second, .val (.int ((gg (4 * kt + 3)).toInt32))] [(.ref aa), (.ref aa), (.long ((gg (4 * kt + 3)) &&& (-4294967296 : Int64))), (.int ((tp * (4 : Int32)) + (3 : Int32))), (.ref bl)]))
  obtain ⟨T22, X22, e22, st22⟩ := getF X21 hx hZ hown (host := "") (Or.inl (hw _ (List.mem_of_getElem? (i := 38) rfl))) Via.refl e21 F_recordCount_aa (g := (mkF m 193 #[.val (.ref aa), .val (.int tp), .val (.long rp), .second, .val (.int (tp * (4 : Int32))), .val (.long (gg (4 * kt + 0))), .second, .val (.int (0 : Int32)), .val (.long (gg (4 * kt + 3))), .second, .val (.int ((gg (4 * kt + 3)).toInt32))] [(.ref aa), (.ref aa), (.long ((gg (4 * kt + 3)) &&& (-4294967296 : Int64))), (.int ((tp * (4 : Int32)) + (3 : Int32))), (.ref bl)])) rfl rfl (hb hby d5_193)
  refine Go.step st22 ?_
  show Go _ _ _ _ _ _ _ (T22.setTop (mkF m 196 #[.val (.ref aa), .val (.int tp), .val (.long rp), .second, .val (.int (tp * (4 : Int32))), .val (.long (gg (4 * kt + 0))), .second, .val (.int (0 : Int32)), .val (.long (gg (4 * kt + 3))), .second, .val (.int ((gg (4 * kt + 3)).toInt32))] [(.int (0 : Int32)), (.ref aa), (.long ((gg (4 * kt + 3)) &&& (-4294967296 : Int64))), (.int ((tp * (4 : Int32)) + (3 : Int32))), (.ref bl)]))
  refine Go.step (fun t k => XS.dupX1 X22.here hx rfl (hb hby d5_196) rfl rfl rfl k) ?_
  show Go _ _ _ _ _ _ _ (T22.setTop (mkF m 197 #[.val (.ref aa), .val (.int tp), .val (.long rp), .second, .val (.int (tp * (4 : Int32))), .val (.long (gg (4 * kt + 0))), .second, .val (.int (0 : Int32)), .val (.long (gg (4 * kt + 3))), .second, .val (.int ((gg (4 * kt + 3)).toInt32))] [(.int (0 : Int32)), (.ref aa), (.int (0 : Int32)), (.long ((gg (4 * kt + 3)) &&& (-4294967296 : Int64))), (.int ((tp * (4 : Int32)) + (3 : Int32))), (.ref bl)]))
  refine Go.step (fun t k => XS.iconst X22.here hx rfl (hb hby d5_197) k) ?_
  show Go _ _ _ _ _ _ _ (T22.setTop (mkF m 198 #[.val (.ref aa), .val (.int tp), .val (.long rp), .second, .val (.int (tp * (4 : Int32))), .val (.long (gg (4 * kt + 0))), .second, .val (.int (0 : Int32)), .val (.long (gg (4 * kt + 3))), .second, .val (.int ((gg (4 * kt + 3)).toInt32))] [(.int (1 : Int32)), (.int (0 : Int32)), (.ref aa), (.int (0 : Int32)), (.long ((gg (4 * kt + 3)) &&& (-4294967296 : Int64))), (.int ((tp * (4 : Int32)) + (3 : Int32))), (.ref bl)]))
  refine Go.step (fun t k => XS.iadd X22.here hx rfl (hb hby d5_198) rfl k) ?_
  show Go _ _ _ _ _ _ _ (T22.setTop (mkF m 199 #[.val (.ref aa), .val (.int tp), .val (.long rp), .second, .val (.int (tp * (4 : Int32))), .val (.long (gg (4 * kt + 0))), .second, .val (.int (0 : Int32)), .val (.long (gg (4 * kt + 3))), .second, .val (.int ((gg (4 * kt + 3)).toInt32))] [(.int (1 : Int32)), (.ref aa), (.int (0 : Int32)), (.long ((gg (4 * kt + 3)) &&& (-4294967296 : Int64))), (.int ((tp * (4 : Int32)) + (3 : Int32))), (.ref bl)]))
  obtain ⟨T23, h23, X23, e23, W23, st23⟩ := putF X22 hx hZ hown (host := "") (Or.inl (hw _ (List.mem_of_getElem? (i := 38) rfl))) Via.refl e22 F_recordCount_aa E_aa (Or.inl (hw _ (List.mem_of_getElem? (i := 39) rfl))) (hw _ (List.mem_of_getElem? (i := 1) rfl)) (ty := .int) (by decide) rfl rfl (g := (mkF m 199 #[.val (.ref aa), .val (.int tp), .val (.long rp), .second, .val (.int (tp * (4 : Int32))), .val (.long (gg (4 * kt + 0))), .second, .val (.int (0 : Int32)), .val (.long (gg (4 * kt + 3))), .second, .val (.int ((gg (4 * kt + 3)).toInt32))] [(.int (1 : Int32)), (.ref aa), (.int (0 : Int32)), (.long ((gg (4 * kt + 3)) &&& (-4294967296 : Int64))), (.int ((tp * (4 : Int32)) + (3 : Int32))), (.ref bl)])) rfl rfl (hb hby d5_199)
  replace E_aa := E_aa.wr W23
  replace A_bl := A_bl.other W23 ne_bl_aa
  replace A_br := A_br.other W23 ne_br_aa
  replace F_lines_aa := F_lines_aa.other W23 (Or.inr (slot_ne (Or.inl (hw _ (List.mem_of_getElem? (i := 11) rfl))) (Or.inl (hw _ (List.mem_of_getElem? (i := 39) rfl))) (by decide) (t := (.array .long)) (t' := .int) (by decide) (by decide)))
  replace F_records_aa := F_records_aa.other W23 (Or.inr (slot_ne (Or.inl (hw _ (List.mem_of_getElem? (i := 14) rfl))) (Or.inl (hw _ (List.mem_of_getElem? (i := 39) rfl))) (by decide) (t := (.array .int)) (t' := .int) (by decide) (by decide)))
  replace F_runRecords_aa := F_runRecords_aa.other W23 (Or.inr (slot_ne (Or.inl (hw _ (List.mem_of_getElem? (i := 16) rfl))) (Or.inl (hw _ (List.mem_of_getElem? (i := 39) rfl))) (by decide) (t := (.array .int)) (t' := .int) (by decide) (by decide)))
  replace F_runFirsts_aa := F_runFirsts_aa.other W23 (Or.inr (slot_ne (Or.inl (hw _ (List.mem_of_getElem? (i := 18) rfl))) (Or.inl (hw _ (List.mem_of_getElem? (i := 39) rfl))) (by decide) (t := (.array .long)) (t' := .int) (by decide) (by decide)))
  replace F_topics_aa := F_topics_aa.other W23 (Or.inr (slot_ne (Or.inl (hw _ (List.mem_of_getElem? (i := 25) rfl))) (Or.inl (hw _ (List.mem_of_getElem? (i := 39) rfl))) (by decide) (t := .int) (t' := .int) (by decide) (by decide)))
  replace F_runCount_aa := F_runCount_aa.other W23 (Or.inr (slot_ne (Or.inl (hw _ (List.mem_of_getElem? (i := 52) rfl))) (Or.inl (hw _ (List.mem_of_getElem? (i := 39) rfl))) (by decide) (t := .int) (t' := .int) (by decide) (by decide)))
  replace F_origin_aa := F_origin_aa.other W23 (Or.inr (slot_ne (Or.inl (hw _ (List.mem_of_getElem? (i := 41) rfl))) (Or.inl (hw _ (List.mem_of_getElem? (i := 39) rfl))) (by decide) (t := .long) (t' := .int) (by decide) (by decide)))
  replace A_bq := A_bq.other W23 ne_bq_aa
  replace A_bf := A_bf.other W23 ne_bf_aa
  have Z23 := Nat.le_trans Z20 (Keep.of_wr W23).1
  have N23 := Fr.snoc X23 N20 g_aa
  have K23 := K20.wr W23 (Or.inl (List.mem_of_getElem? (i := 0) rfl))
  replace F_recordCount_aa := F_recordCount_aa.same W23
  refine Go.step st23 ?_
  show Go _ _ _ _ _ _ _ (T23.setTop (mkF m 202 #[.val (.ref aa), .val (.int tp), .val (.long rp), .second, .val (.int (tp * (4 : Int32))), .val (.long (gg (4 * kt + 0))), .second, .val (.int (0 : Int32)), .val (.long (gg (4 * kt + 3))), .second, .val (.int ((gg (4 * kt + 3)).toInt32))] [(.int (0 : Int32)), (.long ((gg (4 * kt + 3)) &&& (-4294967296 : Int64))), (.int ((tp * (4 : Int32)) + (3 : Int32))), (.ref bl)]))
  refine Go.step (fun t k => XS.i2l X23.here hx rfl (hb hby d5_202) rfl k) ?_
  show Go _ _ _ _ _ _ _ (T23.setTop (mkF m 203 #[.val (.ref aa), .val (.int tp), .val (.long rp), .second, .val (.int (tp * (4 : Int32))), .val (.long (gg (4 * kt + 0))), .second, .val (.int (0 : Int32)), .val (.long (gg (4 * kt + 3))), .second, .val (.int ((gg (4 * kt + 3)).toInt32))] [(.long ((0 : Int32).toInt64)), (.long ((gg (4 * kt + 3)) &&& (-4294967296 : Int64))), (.int ((tp * (4 : Int32)) + (3 : Int32))), (.ref bl)]))
  refine Go.step (fun t k => XS.lor X23.here hx rfl (hb hby d5_203) rfl k) ?_
  show Go _ _ _ _ _ _ _ (T23.setTop (mkF m 204 #[.val (.ref aa), .val (.int tp), .val (.long rp), .second, .val (.int (tp * (4 : Int32))), .val (.long (gg (4 * kt + 0))), .second, .val (.int (0 : Int32)), .val (.long (gg (4 * kt + 3))), .second, .val (.int ((gg (4 * kt + 3)).toInt32))] [(.long (((gg (4 * kt + 3)) &&& (-4294967296 : Int64)) ||| ((0 : Int32).toInt64))), (.int ((tp * (4 : Int32)) + (3 : Int32))), (.ref bl)]))
  obtain ⟨T24, h24, X24, e24, W24, st24⟩ := own_stJ X23 hx hZ e23 A_bl (4 * kt + 3) (own_ix htp hkt rfl (by decide)) (by omega) (f := (mkF m 204 #[.val (.ref aa), .val (.int tp), .val (.long rp), .second, .val (.int (tp * (4 : Int32))), .val (.long (gg (4 * kt + 0))), .second, .val (.int (0 : Int32)), .val (.long (gg (4 * kt + 3))), .second, .val (.int ((gg (4 * kt + 3)).toInt32))] [(.long (((gg (4 * kt + 3)) &&& (-4294967296 : Int64)) ||| ((0 : Int32).toInt64))), (.int ((tp * (4 : Int32)) + (3 : Int32))), (.ref bl)])) rfl rfl (hb hby d5_204)
  replace E_aa := E_aa.wr W24
  replace A_br := A_br.other W24 (Ne.symm ne_bl_br)
  replace F_lines_aa := F_lines_aa.other W24 (Or.inl (Ne.symm ne_bl_aa))
  replace F_records_aa := F_records_aa.other W24 (Or.inl (Ne.symm ne_bl_aa))
  replace F_runRecords_aa := F_runRecords_aa.other W24 (Or.inl (Ne.symm ne_bl_aa))
  replace F_runFirsts_aa := F_runFirsts_aa.other W24 (Or.inl (Ne.symm ne_bl_aa))
  replace F_topics_aa := F_topics_aa.other W24 (Or.inl (Ne.symm ne_bl_aa))
  replace F_recordCount_aa := F_recordCount_aa.other W24 (Or.inl (Ne.symm ne_bl_aa))
  replace F_runCount_aa := F_runCount_aa.other W24 (Or.inl (Ne.symm ne_bl_aa))
  replace F_origin_aa := F_origin_aa.other W24 (Or.inl (Ne.symm ne_bl_aa))
  replace A_bq := A_bq.other W24 (Ne.symm ne_bl_bq)
  replace A_bf := A_bf.other W24 (Ne.symm ne_bl_bf)
  have Z24 := Nat.le_trans Z23 (Keep.of_wr W24).1
  have N24 := Fr.snoc X24 N23 g_bl
  have K24 := K23.wr W24 (Or.inl (List.mem_of_getElem? (i := 1) rfl))
  replace A_bl := A_bl.setJ W24
  refine Go.step st24 ?_
  show Go _ _ _ _ _ _ _ (T24.setTop (mkF m 205 #[.val (.ref aa), .val (.int tp), .val (.long rp), .second, .val (.int (tp * (4 : Int32))), .val (.long (gg (4 * kt + 0))), .second, .val (.int (0 : Int32)), .val (.long (gg (4 * kt + 3))), .second, .val (.int ((gg (4 * kt + 3)).toInt32))] []))
  refine Go.step (fun t k => XS.aloadN X24.here hx rfl (hb hby d5_205) rfl rfl k) ?_
  show Go _ _ _ _ _ _ _ (T24.setTop (mkF m 206 #[.val (.ref aa), .val (.int tp), .val (.long rp), .second, .val (.int (tp * (4 : Int32))), .val (.long (gg (4 * kt + 0))), .second, .val (.int (0 : Int32)), .val (.long (gg (4 * kt + 3))), .second, .val (.int ((gg (4 * kt + 3)).toInt32))] [(.ref aa)]))
  obtain ⟨T25, X25, e25, st25⟩ := getF X24 hx hZ hown (host := "") (Or.inl (hw _ (List.mem_of_getElem? (i := 10) rfl))) Via.refl e24 F_lines_aa (g := (mkF m 206 #[.val (.ref aa), .val (.int tp), .val (.long rp), .second, .val (.int (tp * (4 : Int32))), .val (.long (gg (4 * kt + 0))), .second, .val (.int (0 : Int32)), .val (.long (gg (4 * kt + 3))), .second, .val (.int ((gg (4 * kt + 3)).toInt32))] [(.ref aa)])) rfl rfl (hb hby d5_206)
  refine Go.step st25 ?_
  show Go _ _ _ _ _ _ _ (T25.setTop (mkF m 209 #[.val (.ref aa), .val (.int tp), .val (.long rp), .second, .val (.int (tp * (4 : Int32))), .val (.long (gg (4 * kt + 0))), .second, .val (.int (0 : Int32)), .val (.long (gg (4 * kt + 3))), .second, .val (.int ((gg (4 * kt + 3)).toInt32))] [(.ref bl)]))
  refine Go.step (fun t k => XS.iload X25.here hx rfl (hb hby d5_209) rfl k) ?_
  show Go _ _ _ _ _ _ _ (T25.setTop (mkF m 211 #[.val (.ref aa), .val (.int tp), .val (.long rp), .second, .val (.int (tp * (4 : Int32))), .val (.long (gg (4 * kt + 0))), .second, .val (.int (0 : Int32)), .val (.long (gg (4 * kt + 3))), .second, .val (.int ((gg (4 * kt + 3)).toInt32))] [(.int (tp * (4 : Int32))), (.ref bl)]))
  refine Go.step (fun t k => XS.iconst X25.here hx rfl (hb hby d5_211) k) ?_
  show Go _ _ _ _ _ _ _ (T25.setTop (mkF m 212 #[.val (.ref aa), .val (.int tp), .val (.long rp), .second, .val (.int (tp * (4 : Int32))), .val (.long (gg (4 * kt + 0))), .second, .val (.int (0 : Int32)), .val (.long (gg (4 * kt + 3))), .second, .val (.int ((gg (4 * kt + 3)).toInt32))] [(.int (0 : Int32)), (.int (tp * (4 : Int32))), (.ref bl)]))
  refine Go.step (fun t k => XS.iadd X25.here hx rfl (hb hby d5_212) rfl k) ?_
  show Go _ _ _ _ _ _ _ (T25.setTop (mkF m 213 #[.val (.ref aa), .val (.int tp), .val (.long rp), .second, .val (.int (tp * (4 : Int32))), .val (.long (gg (4 * kt + 0))), .second, .val (.int (0 : Int32)), .val (.long (gg (4 * kt + 3))), .second, .val (.int ((gg (4 * kt + 3)).toInt32))] [(.int ((tp * (4 : Int32)) + (0 : Int32))), (.ref bl)]))
  refine Go.step (fun t k => XS.lload X25.here hx rfl (hb hby d5_213) rfl k) ?_
  show Go _ _ _ _ _ _ _ (T25.setTop (mkF m 215 #[.val (.ref aa), .val (.int tp), .val (.long rp), .second, .val (.int (tp * (4 : Int32))), .val (.long (gg (4 * kt + 0))), .second, .val (.int (0 : Int32)), .val (.long (gg (4 * kt + 3))), .second, .val (.int ((gg (4 * kt + 3)).toInt32))] [(.long (gg (4 * kt + 0))), (.int ((tp * (4 : Int32)) + (0 : Int32))), (.ref bl)]))
  refine Go.step (fun t k => XS.lconst X25.here hx rfl (hb hby d5_215) k) ?_
  show Go _ _ _ _ _ _ _ (T25.setTop (mkF m 216 #[.val (.ref aa), .val (.int tp), .val (.long rp), .second, .val (.int (tp * (4 : Int32))), .val (.long (gg (4 * kt + 0))), .second, .val (.int (0 : Int32)), .val (.long (gg (4 * kt + 3))), .second, .val (.int ((gg (4 * kt + 3)).toInt32))] [(.long (1 : Int64)), (.long (gg (4 * kt + 0))), (.int ((tp * (4 : Int32)) + (0 : Int32))), (.ref bl)]))
  refine Go.step (fun t k => XS.ladd X25.here hx rfl (hb hby d5_216) rfl k) ?_
  show Go _ _ _ _ _ _ _ (T25.setTop (mkF m 217 #[.val (.ref aa), .val (.int tp), .val (.long rp), .second, .val (.int (tp * (4 : Int32))), .val (.long (gg (4 * kt + 0))), .second, .val (.int (0 : Int32)), .val (.long (gg (4 * kt + 3))), .second, .val (.int ((gg (4 * kt + 3)).toInt32))] [(.long ((gg (4 * kt + 0)) + (1 : Int64))), (.int ((tp * (4 : Int32)) + (0 : Int32))), (.ref bl)]))
  obtain ⟨T26, h26, X26, e26, W26, st26⟩ := own_stJ X25 hx hZ e25 A_bl (4 * kt + 0) (own_ix htp hkt rfl (by decide)) (by omega) (f := (mkF m 217 #[.val (.ref aa), .val (.int tp), .val (.long rp), .second, .val (.int (tp * (4 : Int32))), .val (.long (gg (4 * kt + 0))), .second, .val (.int (0 : Int32)), .val (.long (gg (4 * kt + 3))), .second, .val (.int ((gg (4 * kt + 3)).toInt32))] [(.long ((gg (4 * kt + 0)) + (1 : Int64))), (.int ((tp * (4 : Int32)) + (0 : Int32))), (.ref bl)])) rfl rfl (hb hby d5_217)
  replace E_aa := E_aa.wr W26
  replace A_br := A_br.other W26 (Ne.symm ne_bl_br)
  replace F_lines_aa := F_lines_aa.other W26 (Or.inl (Ne.symm ne_bl_aa))
  replace F_records_aa := F_records_aa.other W26 (Or.inl (Ne.symm ne_bl_aa))
  replace F_runRecords_aa := F_runRecords_aa.other W26 (Or.inl (Ne.symm ne_bl_aa))
  replace F_runFirsts_aa := F_runFirsts_aa.other W26 (Or.inl (Ne.symm ne_bl_aa))
  replace F_topics_aa := F_topics_aa.other W26 (Or.inl (Ne.symm ne_bl_aa))
  replace F_recordCount_aa := F_recordCount_aa.other W26 (Or.inl (Ne.symm ne_bl_aa))
  replace F_runCount_aa := F_runCount_aa.other W26 (Or.inl (Ne.symm ne_bl_aa))
  replace F_origin_aa := F_origin_aa.other W26 (Or.inl (Ne.symm ne_bl_aa))
  replace A_bq := A_bq.other W26 (Ne.symm ne_bl_bq)
  replace A_bf := A_bf.other W26 (Ne.symm ne_bl_bf)
  have Z26 := Nat.le_trans Z24 (Keep.of_wr W26).1
  have N26 := Fr.snoc X26 N24 g_bl
  have K26 := K24.wr W26 (Or.inl (List.mem_of_getElem? (i := 1) rfl))
  replace A_bl := A_bl.setJ W26
  refine Go.step st26 ?_
  show Go _ _ _ _ _ _ _ (T26.setTop (mkF m 218 #[.val (.ref aa), .val (.int tp), .val (.long rp), .second, .val (.int (tp * (4 : Int32))), .val (.long (gg (4 * kt + 0))), .second, .val (.int (0 : Int32)), .val (.long (gg (4 * kt + 3))), .second, .val (.int ((gg (4 * kt + 3)).toInt32))] []))
  refine Go.step (fun t k => XS.aloadN X26.here hx rfl (hb hby d5_218) rfl rfl k) ?_
  show Go _ _ _ _ _ _ _ (T26.setTop (mkF m 219 #[.val (.ref aa), .val (.int tp), .val (.long rp), .second, .val (.int (tp * (4 : Int32))), .val (.long (gg (4 * kt + 0))), .second, .val (.int (0 : Int32)), .val (.long (gg (4 * kt + 3))), .second, .val (.int ((gg (4 * kt + 3)).toInt32))] [(.ref aa)]))
  obtain ⟨T27, X27, e27, st27⟩ := getF X26 hx hZ hown (host := "") (Or.inl (hw _ (List.mem_of_getElem? (i := 10) rfl))) Via.refl e26 F_lines_aa (g := (mkF m 219 #[.val (.ref aa), .val (.int tp), .val (.long rp), .second, .val (.int (tp * (4 : Int32))), .val (.long (gg (4 * kt + 0))), .second, .val (.int (0 : Int32)), .val (.long (gg (4 * kt + 3))), .second, .val (.int ((gg (4 * kt + 3)).toInt32))] [(.ref aa)])) rfl rfl (hb hby d5_219)
  refine Go.step st27 ?_
  show Go _ _ _ _ _ _ _ (T27.setTop (mkF m 222 #[.val (.ref aa), .val (.int tp), .val (.long rp), .second, .val (.int (tp * (4 : Int32))), .val (.long (gg (4 * kt + 0))), .second, .val (.int (0 : Int32)), .val (.long (gg (4 * kt + 3))), .second, .val (.int ((gg (4 * kt + 3)).toInt32))] [(.ref bl)]))
  refine Go.step (fun t k => XS.iload X27.here hx rfl (hb hby d5_222) rfl k) ?_
  show Go _ _ _ _ _ _ _ (T27.setTop (mkF m 224 #[.val (.ref aa), .val (.int tp), .val (.long rp), .second, .val (.int (tp * (4 : Int32))), .val (.long (gg (4 * kt + 0))), .second, .val (.int (0 : Int32)), .val (.long (gg (4 * kt + 3))), .second, .val (.int ((gg (4 * kt + 3)).toInt32))] [(.int (tp * (4 : Int32))), (.ref bl)]))
  refine Go.step (fun t k => XS.iconst X27.here hx rfl (hb hby d5_224) k) ?_
  show Go _ _ _ _ _ _ _ (T27.setTop (mkF m 225 #[.val (.ref aa), .val (.int tp), .val (.long rp), .second, .val (.int (tp * (4 : Int32))), .val (.long (gg (4 * kt + 0))), .second, .val (.int (0 : Int32)), .val (.long (gg (4 * kt + 3))), .second, .val (.int ((gg (4 * kt + 3)).toInt32))] [(.int (2 : Int32)), (.int (tp * (4 : Int32))), (.ref bl)]))
  refine Go.step (fun t k => XS.iadd X27.here hx rfl (hb hby d5_225) rfl k) ?_
  show Go _ _ _ _ _ _ _ (T27.setTop (mkF m 226 #[.val (.ref aa), .val (.int tp), .val (.long rp), .second, .val (.int (tp * (4 : Int32))), .val (.long (gg (4 * kt + 0))), .second, .val (.int (0 : Int32)), .val (.long (gg (4 * kt + 3))), .second, .val (.int ((gg (4 * kt + 3)).toInt32))] [(.int ((tp * (4 : Int32)) + (2 : Int32))), (.ref bl)]))
  refine Go.step (fun t k => XS.lload X27.here hx rfl (hb hby d5_226) rfl k) ?_
  show Go _ _ _ _ _ _ _ (T27.setTop (mkF m 228 #[.val (.ref aa), .val (.int tp), .val (.long rp), .second, .val (.int (tp * (4 : Int32))), .val (.long (gg (4 * kt + 0))), .second, .val (.int (0 : Int32)), .val (.long (gg (4 * kt + 3))), .second, .val (.int ((gg (4 * kt + 3)).toInt32))] [(.long (gg (4 * kt + 0))), (.int ((tp * (4 : Int32)) + (2 : Int32))), (.ref bl)]))
  refine Go.step (fun t k => XS.lconst X27.here hx rfl (hb hby d5_228) k) ?_
  show Go _ _ _ _ _ _ _ (T27.setTop (mkF m 229 #[.val (.ref aa), .val (.int tp), .val (.long rp), .second, .val (.int (tp * (4 : Int32))), .val (.long (gg (4 * kt + 0))), .second, .val (.int (0 : Int32)), .val (.long (gg (4 * kt + 3))), .second, .val (.int ((gg (4 * kt + 3)).toInt32))] [(.long (1 : Int64)), (.long (gg (4 * kt + 0))), (.int ((tp * (4 : Int32)) + (2 : Int32))), (.ref bl)]))
  refine Go.step (fun t k => XS.ladd X27.here hx rfl (hb hby d5_229) rfl k) ?_
  show Go _ _ _ _ _ _ _ (T27.setTop (mkF m 230 #[.val (.ref aa), .val (.int tp), .val (.long rp), .second, .val (.int (tp * (4 : Int32))), .val (.long (gg (4 * kt + 0))), .second, .val (.int (0 : Int32)), .val (.long (gg (4 * kt + 3))), .second, .val (.int ((gg (4 * kt + 3)).toInt32))] [(.long ((gg (4 * kt + 0)) + (1 : Int64))), (.int ((tp * (4 : Int32)) + (2 : Int32))), (.ref bl)]))
  obtain ⟨T28, h28, X28, e28, W28, st28⟩ := own_stJ X27 hx hZ e27 A_bl (4 * kt + 2) (own_ix htp hkt rfl (by decide)) (by omega) (f := (mkF m 230 #[.val (.ref aa), .val (.int tp), .val (.long rp), .second, .val (.int (tp * (4 : Int32))), .val (.long (gg (4 * kt + 0))), .second, .val (.int (0 : Int32)), .val (.long (gg (4 * kt + 3))), .second, .val (.int ((gg (4 * kt + 3)).toInt32))] [(.long ((gg (4 * kt + 0)) + (1 : Int64))), (.int ((tp * (4 : Int32)) + (2 : Int32))), (.ref bl)])) rfl rfl (hb hby d5_230)
  replace E_aa := E_aa.wr W28
  replace A_br := A_br.other W28 (Ne.symm ne_bl_br)
  replace F_lines_aa := F_lines_aa.other W28 (Or.inl (Ne.symm ne_bl_aa))
  replace F_records_aa := F_records_aa.other W28 (Or.inl (Ne.symm ne_bl_aa))
  replace F_runRecords_aa := F_runRecords_aa.other W28 (Or.inl (Ne.symm ne_bl_aa))
  replace F_runFirsts_aa := F_runFirsts_aa.other W28 (Or.inl (Ne.symm ne_bl_aa))
  replace F_topics_aa := F_topics_aa.other W28 (Or.inl (Ne.symm ne_bl_aa))
  replace F_recordCount_aa := F_recordCount_aa.other W28 (Or.inl (Ne.symm ne_bl_aa))
  replace F_runCount_aa := F_runCount_aa.other W28 (Or.inl (Ne.symm ne_bl_aa))
  replace F_origin_aa := F_origin_aa.other W28 (Or.inl (Ne.symm ne_bl_aa))
  replace A_bq := A_bq.other W28 (Ne.symm ne_bl_bq)
  replace A_bf := A_bf.other W28 (Ne.symm ne_bl_bf)
  have Z28 := Nat.le_trans Z26 (Keep.of_wr W28).1
  have N28 := Fr.snoc X28 N26 g_bl
  have K28 := K26.wr W28 (Or.inl (List.mem_of_getElem? (i := 1) rfl))
  replace A_bl := A_bl.setJ W28
  refine Go.step st28 ?_
  show Go _ _ _ _ _ _ _ (T28.setTop (mkF m 231 #[.val (.ref aa), .val (.int tp), .val (.long rp), .second, .val (.int (tp * (4 : Int32))), .val (.long (gg (4 * kt + 0))), .second, .val (.int (0 : Int32)), .val (.long (gg (4 * kt + 3))), .second, .val (.int ((gg (4 * kt + 3)).toInt32))] []))
  refine Go.retV X28 Bd.notSynchronized hx Bd.returns (hb hby d5_231) (by decide) (by decide) ?_
  rw [e28]
  exact ⟨rfl, N28, K28, F_lines_aa, F_records_aa, F_runRecords_aa, F_runFirsts_aa, F_topics_aa, F_recordCount_aa, F_runCount_aa, F_origin_aa, A_bl, A_br, A_bq, A_bf⟩
theorem pn_5_1 : plainName "com/example/ferrylog/ferrylog/store/LiveIndex" = true := by first | (simp [plainName, overriddenIn]; done) | decide +kernel
theorem pd_5_0_1 : parseMethodDescriptor "(J)I" = some ⟨[.long], some .int⟩ := by decide +kernel
theorem pd_5_1_1 : parseMethodDescriptor "(IJ)V" = some ⟨[.int, .long], none⟩ := by decide +kernel
theorem ef_5_1 (m : MethodId) (x0 : Addr) (x1 : Int32) (x2 : Int64) : entryFrame m #[(.ref x0), (.int x1), (.long x2)] 11 = mkF m 0 #[.val (.ref x0), .val (.int x1), .val (.long x2), .second, .unset, .unset, .unset, .unset, .unset, .unset, .unset] [] := by first | (simp [entryFrame, mkF, argsToLocals, Value.category]; done) | rfl
def Q5_1 (Z : State) (aa : Addr) (tp : Int32) (rp : Int64) (bl : Addr) (br : Addr) (bq : Addr) (bf : Addr) (tv : Int32) (rn : Int32) (og : Int64) (kt : Nat) (kr : Nat) (gg : Nat → Int64) (gr : Nat → Int32) (gq : Nat → Int32) (gf : Nat → Int64) (h0 : Heap) (n0 : Nat) (v : Option Value) (h : Heap) (L : List Loc) : Prop := v = none ∧ Fr n0 L ∧ Keep h0 h [aa, bl, br, bq, bf] ∧ Fld Z h aa "com/example/ferrylog/ferrylog/store/LiveIndex" "lines" "[J" (.ref bl) ∧ Fld Z h aa "com/example/ferrylog/ferrylog/store/LiveIndex" "records" "[I" (.ref br) ∧ Fld Z h aa "com/example/ferrylog/ferrylog/store/LiveIndex" "runRecords" "[I" (.ref bq) ∧ Fld Z h aa "com/example/ferrylog/ferrylog/store/LiveIndex" "runFirsts" "[J" (.ref bf) ∧ Fld Z h aa "com/example/ferrylog/ferrylog/store/LiveIndex" "topics" "I" (.int tv) ∧ Fld Z h aa "com/example/ferrylog/ferrylog/store/LiveIndex" "recordCount" "I" (.int (2 : Int32)) ∧ Fld Z h aa "com/example/ferrylog/ferrylog/store/LiveIndex" "runCount" "I" (.int (rn + (1 : Int32))) ∧ Fld Z h aa "com/example/ferrylog/ferrylog/store/LiveIndex" "origin" "J" (.long og) ∧ AryJ Z h bl 64 (up (up (up gg (4 * kt + 3) (((gg (4 * kt + 3)) &&& (-4294967296 : Int64)) ||| ((1 : Int32).toInt64))) (4 * kt + 0) ((gg (4 * kt + 0)) + (1 : Int64))) (4 * kt + 2) ((gg (4 * kt + 0)) + (1 : Int64))) ∧ AryI Z h br .int 3072 (up (up (up gr 3 ((rp - og).toInt32)) 4 (tp ||| (-2147483648 : Int32))) 5 ((gg (4 * kt + 3)).toInt32)) ∧ AryI Z h bq .int 64 (up gq kr (1 : Int32)) ∧ AryJ Z h bf 64 (up gf kr (gg (4 * kt + 0)))
set_option maxRecDepth 65536 in
set_option maxHeartbeats 40000000 in
theorem rm5_1 (l : Launch) (Z : State) (a0 : Array Value) (hw : ∀ d ∈ tables_1, d.before a0 Z = true) (ws : List Jvm.Cond) (aa : Addr) (tp : Int32) (rp : Int64) (bl : Addr) (br : Addr) (bq : Addr) (bf : Addr) (tv : Int32) (rn : Int32) (og : Int64) (kt : Nat) (kr : Nat) (gg : Nat → Int64) (gr : Nat → Int32) (gq : Nat → Int32) (gf : Nat → Int64) (h0 : Heap) (n0 : Nat) (Z0 : n0 ≤ h0.size) (F_lines_aa : Fld Z h0 aa "com/example/ferrylog/ferrylog/store/LiveIndex" "lines" "[J" (.ref bl)) (F_records_aa : Fld Z h0 aa "com/example/ferrylog/ferrylog/store/LiveIndex" "records" "[I" (.ref br)) (F_runRecords_aa : Fld Z h0 aa "com/example/ferrylog/ferrylog/store/LiveIndex" "runRecords" "[I" (.ref bq)) (F_runFirsts_aa : Fld Z h0 aa "com/example/ferrylog/ferrylog/store/LiveIndex" "runFirsts" "[J" (.ref bf)) (F_topics_aa : Fld Z h0 aa "com/example/ferrylog/ferrylog/store/LiveIndex" "topics" "I" (.int tv)) (F_recordCount_aa : Fld Z h0 aa "com/example/ferrylog/ferrylog/store/LiveIndex" "recordCount" "I" (.int (1 : Int32))) (F_runCount_aa : Fld Z h0 aa "com/example/ferrylog/ferrylog/store/LiveIndex" "runCount" "I" (.int rn)) (F_origin_aa : Fld Z h0 aa "com/example/ferrylog/ferrylog/store/LiveIndex" "origin" "J" (.long og)) (E_aa : Exa Z h0 aa "com/example/ferrylog/ferrylog/store/LiveIndex") (g_aa : n0 ≤ aa) (g_bl : n0 ≤ bl) (g_br : n0 ≤ br) (g_bq : n0 ≤ bq) (g_bf : n0 ≤ bf) (ne_bl_br : bl ≠ br) (ne_bl_bq : bl ≠ bq) (ne_bl_bf : bl ≠ bf) (ne_br_bq : br ≠ bq) (ne_br_bf : br ≠ bf) (ne_bq_bf : bq ≠ bf) (A_bl : AryJ Z h0 bl 64 gg) (A_br : AryI Z h0 br .int 3072 gr) (A_bq : AryI Z h0 bq .int 64 gq) (A_bf : AryJ Z h0 bf 64 gf) (htp : (tp.toInt = (kt : Int))) (hkt : (kt < 16)) (hrn : (rn.toInt = (kr : Int))) (hkr : (kr < 64)) (hla : (((gg (4 * kt + 3)).toInt32) < (0 : Int32))) (hex : ((((rp - og).toInt32).toInt64) = (rp - og))) :
    MetFree l (⟨"com/example/ferrylog/ferrylog/store/LiveIndex", "addRecord", "(IJ)V"⟩ : MethodName) (head1 (Jvm.Cond.code (⟨"com/example/ferrylog/ferrylog/store/LiveIndex", "addRecord", "(IJ)V"⟩ : MethodName) prog_211_method_9_code 11 none :: ws) ({ frames := 1, cells := 0, slots := 0, locals := 15 } : Room)) (fun a U => a = #[(.ref aa), (.int tp), (.long rp)] ∧ Z.Warmed39 U.vm ∧ U.heap = h0) (fun _ _ _ _ _ => True) (fun _ U o U' => ∃ v L, o = .returned v ∧ Q5_1 Z aa tp rp bl br bq bf tv rn og kt kr gg gr gq gf h0 n0 v U'.heap L ∧ FrameEnd U o U' L ({ frames := 1, cells := 0, slots := 0, locals := 15 } : Room).cells ({ frames := 1, cells := 0, slots := 0, locals := 15 } : Room).slots) := by
  refine MetFree.of_bodySF (plainFor_of_name pn_5_1) hisR ?_
  intro p e s m args below meth c s₁ Bd hml0 hP hK
  obtain ⟨rfl, hZ, hh⟩ := hP
  have hx := Bd.exec
  have hby := Bd.bytes
  have hml : c.maxLocals = 11 := hml0
  have hown : s.vm.findClass "com/example/ferrylog/ferrylog/store/LiveIndex" = some m.cls := findClass_of_methodNamed Bd.named
  have hnm := (name_of_methodNamed Bd.named Bd.method).1
  have X0 : Stand p l e ({ frames := 1, cells := 0, slots := 0, locals := 15 } : Room) s m #[(.ref aa), (.int tp), (.long rp)] below meth c s₁ [] 0 0 := Stand.of_body Bd
  have e0 : s₁.heap = h0 := by rw [← hh, Bd.state]; rfl
  have N0 := Fr.nil n0
  have K0 := Keep.refl h0 ([aa, bl, br, bq, bf] : List Addr)
  show Go p e below s (Q5_1 Z aa tp rp bl br bq bf tv rn og kt kr gg gr gq gf h0 n0) ({ frames := 1, cells := 0, slots := 0, locals := 15 } : Room).cells ({ frames := 1, cells := 0, slots := 0, locals := 15 } : Room).slots (s₁.setTop (entryFrame m #[(.ref aa), (.int tp), (.long rp)] 11))
  rw [ef_5_1]
  show Go _ _ _ _ _ _ _ (s₁.setTop (mkF m 0 #[.val (.ref aa), .val (.int tp), .val (.long rp), .second, .unset, .unset, .unset, .unset, .unset, .unset, .unset] []))
  refine Go.step (fun t k => XS.aloadN X0.here hx rfl (hb hby d5_0) rfl rfl k) ?_
  show Go _ _ _ _ _ _ _ (s₁.setTop (mkF m 1 #[.val (.ref aa), .val (.int tp), .val (.long rp), .second, .unset, .unset, .unset, .unset, .unset, .unset, .unset] [(.ref aa)]))
  obtain ⟨T1, X1, e1, st1⟩ := getF X0 hx hZ hown (host := "") (Or.inl (hw _ (List.mem_of_getElem? (i := 38) rfl))) Via.refl e0 F_recordCount_aa (g := (mkF m 1 #[.val (.ref aa), .val (.int tp), .val (.long rp), .second, .unset, .unset, .unset, .unset, .unset, .unset, .unset] [(.ref aa)])) rfl rfl (hb hby d5_1)
  refine Go.step st1 ?_
  show Go _ _ _ _ _ _ _ (T1.setTop (mkF m 4 #[.val (.ref aa), .val (.int tp), .val (.long rp), .second, .unset, .unset, .unset, .unset, .unset, .unset, .unset] [(.int (1 : Int32))]))
  refine Go.step (fun t k => XS.ifYes X1.here hx rfl (pc0 := 4) (pc' := 12) rfl (hb hby d5_4) rfl ((if0 _ _).trans (feq (by decide : ¬ (1 : Int32) = (0 : Int32))).2) (by decide) (by decide) k) ?_
  show Go _ _ _ _ _ _ _ (T1.setTop (mkF m 12 #[.val (.ref aa), .val (.int tp), .val (.long rp), .second, .unset, .unset, .unset, .unset, .unset, .unset, .unset] []))
  refine Go.step (fun t k => XS.aloadN X1.here hx rfl (hb hby d5_12) rfl rfl k) ?_
  show Go _ _ _ _ _ _ _ (T1.setTop (mkF m 13 #[.val (.ref aa), .val (.int tp), .val (.long rp), .second, .unset, .unset, .unset, .unset, .unset, .unset, .unset] [(.ref aa)]))
  obtain ⟨T2, X2, e2, st2⟩ := getF X1 hx hZ hown (host := "") (Or.inl (hw _ (List.mem_of_getElem? (i := 38) rfl))) Via.refl e1 F_recordCount_aa (g := (mkF m 13 #[.val (.ref aa), .val (.int tp), .val (.long rp), .second, .unset, .unset, .unset, .unset, .unset, .unset, .unset] [(.ref aa)])) rfl rfl (hb hby d5_13)
  refine Go.step st2 ?_
  show Go _ _ _ _ _ _ _ (T2.setTop (mkF m 16 #[.val (.ref aa), .val (.int tp), .val (.long rp), .second, .unset, .unset, .unset, .unset, .unset, .unset, .unset] [(.int (1 : Int32))]))
  refine Go.step (fun t k => XS.iconst X2.here hx rfl (hb hby d5_16) k) ?_
  show Go _ _ _ _ _ _ _ (T2.setTop (mkF m 17 #[.val (.ref aa), .val (.int tp), .val (.long rp), .second, .unset, .unset, .unset, .unset, .unset, .unset, .unset] [(.int (3 : Int32)), (.int (1 : Int32))]))
  refine Go.step (fun t k => XS.imul X2.here hx rfl (hb hby d5_17) rfl k) ?_
  show Go _ _ _ _ _ _ _ (T2.setTop (mkF m 18 #[.val (.ref aa), .val (.int tp), .val (.long rp), .second, .unset, .unset, .unset, .unset, .unset, .unset, .unset] [(.int (3 : Int32))]))
  refine Go.step (fun t k => XS.aloadN X2.here hx rfl (hb hby d5_18) rfl rfl k) ?_
  show Go _ _ _ _ _ _ _ (T2.setTop (mkF m 19 #[.val (.ref aa), .val (.int tp), .val (.long rp), .second, .unset, .unset, .unset, .unset, .unset, .unset, .unset] [(.ref aa), (.int (3 : Int32))]))
  obtain ⟨T3, X3, e3, st3⟩ := getF X2 hx hZ hown (host := "") (Or.inl (hw _ (List.mem_of_getElem? (i := 13) rfl))) Via.refl e2 F_records_aa (g := (mkF m 19 #[.val (.ref aa), .val (.int tp), .val (.long rp), .second, .unset, .unset, .unset, .unset, .unset, .unset, .unset] [(.ref aa), (.int (3 : Int32))])) rfl rfl (hb hby d5_19)
  refine Go.step st3 ?_
  show Go _ _ _ _ _ _ _ (T3.setTop (mkF m 22 #[.val (.ref aa), .val (.int tp), .val (.long rp), .second, .unset, .unset, .unset, .unset, .unset, .unset, .unset] [(.ref br), (.int (3 : Int32))]))
  refine Go.step (own_len X3 hx hZ e3 A_br (z := (3072 : Int32)) rfl (f := (mkF m 22 #[.val (.ref aa), .val (.int tp), .val (.long rp), .second, .unset, .unset, .unset, .unset, .unset, .unset, .unset] [(.ref br), (.int (3 : Int32))])) rfl rfl (hb hby d5_22)) ?_
  show Go _ _ _ _ _ _ _ (T3.setTop (mkF m 23 #[.val (.ref aa), .val (.int tp), .val (.long rp), .second, .unset, .unset, .unset, .unset, .unset, .unset, .unset] [(.int (3072 : Int32)), (.int (3 : Int32))]))
  refine Go.step (fun t k => XS.icmpYes X3.here hx rfl (pc0 := 23) (pc' := 54) rfl (hb hby d5_23) rfl (feq (by decide : ¬ (3 : Int32) = (3072 : Int32))).2 (by decide) (by decide) k) ?_
  show Go _ _ _ _ _ _ _ (T3.setTop (mkF m 54 #[.val (.ref aa), .val (.int tp), .val (.long rp), .second, .unset, .unset, .unset, .unset, .unset, .unset, .unset] []))
  refine Go.step (fun t k => XS.iloadN X3.here hx rfl (hb hby d5_54) rfl k) ?_
  show Go _ _ _ _ _ _ _ (T3.setTop (mkF m 55 #[.val (.ref aa), .val (.int tp), .val (.long rp), .second, .unset, .unset, .unset, .unset, .unset, .unset, .unset] [(.int tp)]))
  refine Go.step (fun t k => XS.iconst X3.here hx rfl (hb hby d5_55) k) ?_
  show Go _ _ _ _ _ _ _ (T3.setTop (mkF m 56 #[.val (.ref aa), .val (.int tp), .val (.long rp), .second, .unset, .unset, .unset, .unset, .unset, .unset, .unset] [(.int (4 : Int32)), (.int tp)]))
  refine Go.step (fun t k => XS.imul X3.here hx rfl (hb hby d5_56) rfl k) ?_
  show Go _ _ _ _ _ _ _ (T3.setTop (mkF m 57 #[.val (.ref aa), .val (.int tp), .val (.long rp), .second, .unset, .unset, .unset, .unset, .unset, .unset, .unset] [(.int (tp * (4 : Int32)))]))
  refine Go.step (fun t k => XS.istore X3.here hx rfl (hb hby d5_57) rfl (l' := #[.val (.ref aa), .val (.int tp), .val (.long rp), .second, .val (.int (tp * (4 : Int32))), .unset, .unset, .unset, .unset, .unset, .unset]) rfl k) ?_
  show Go _ _ _ _ _ _ _ (T3.setTop (mkF m 59 #[.val (.ref aa), .val (.int tp), .val (.long rp), .second, .val (.int (tp * (4 : Int32))), .unset, .unset, .unset, .unset, .unset, .unset] []))
  refine Go.step (fun t k => XS.aloadN X3.here hx rfl (hb hby d5_59) rfl rfl k) ?_
  show Go _ _ _ _ _ _ _ (T3.setTop (mkF m 60 #[.val (.ref aa), .val (.int tp), .val (.long rp), .second, .val (.int (tp * (4 : Int32))), .unset, .unset, .unset, .unset, .unset, .unset] [(.ref aa)]))
  obtain ⟨T5, X5, e5, st5⟩ := getF X3 hx hZ hown (host := "") (Or.inl (hw _ (List.mem_of_getElem? (i := 10) rfl))) Via.refl e3 F_lines_aa (g := (mkF m 60 #[.val (.ref aa), .val (.int tp), .val (.long rp), .second, .val (.int (tp * (4 : Int32))), .unset, .unset, .unset, .unset, .unset, .unset] [(.ref aa)])) rfl rfl (hb hby d5_60)
  refine Go.step st5 ?_
  show Go _ _ _ _ _ _ _ (T5.setTop (mkF m 63 #[.val (.ref aa), .val (.int tp), .val (.long rp), .second, .val (.int (tp * (4 : Int32))), .unset, .unset, .unset, .unset, .unset, .unset] [(.ref bl)]))
  refine Go.step (fun t k => XS.iload X5.here hx rfl (hb hby d5_63) rfl k) ?_
  show Go _ _ _ _ _ _ _ (T5.setTop (mkF m 65 #[.val (.ref aa), .val (.int tp), .val (.long rp), .second, .val (.int (tp * (4 : Int32))), .unset, .unset, .unset, .unset, .unset, .unset] [(.int (tp * (4 : Int32))), (.ref bl)]))
  refine Go.step (fun t k => XS.iconst X5.here hx rfl (hb hby d5_65) k) ?_
  show Go _ _ _ _ _ _ _ (T5.setTop (mkF m 66 #[.val (.ref aa), .val (.int tp), .val (.long rp), .second, .val (.int (tp * (4 : Int32))), .unset, .unset, .unset, .unset, .unset, .unset] [(.int (0 : Int32)), (.int (tp * (4 : Int32))), (.ref bl)]))
  refine Go.step (fun t k => XS.iadd X5.here hx rfl (hb hby d5_66) rfl k) ?_
  show Go _ _ _ _ _ _ _ (T5.setTop (mkF m 67 #[.val (.ref aa), .val (.int tp), .val (.long rp), .second, .val (.int (tp * (4 : Int32))), .unset, .unset, .unset, .unset, .unset, .unset] [(.int ((tp * (4 : Int32)) + (0 : Int32))), (.ref bl)]))
  refine Go.step (own_ld X5 hx hZ e5 A_bl (j := ((tp * (4 : Int32)) + (0 : Int32))) (4 * kt + 0) (own_ix htp hkt rfl (by decide)) (by omega) (v := (.long (gg (4 * kt + 0)))) rfl (Or.inr (Or.inl ⟨rfl, rfl⟩)) (f := (mkF m 67 #[.val (.ref aa), .val (.int tp), .val (.long rp), .second, .val (.int (tp * (4 : Int32))), .unset, .unset, .unset, .unset, .unset, .unset] [(.int ((tp * (4 : Int32)) + (0 : Int32))), (.ref bl)])) rfl rfl (hb hby d5_67)) ?_
  show Go _ _ _ _ _ _ _ (T5.setTop (mkF m 68 #[.val (.ref aa), .val (.int tp), .val (.long rp), .second, .val (.int (tp * (4 : Int32))), .unset, .unset, .unset, .unset, .unset, .unset] [(.long (gg (4 * kt + 0)))]))
  refine Go.step (fun t k => XS.lstore X5.here hx rfl (hb hby d5_68) rfl (l' := #[.val (.ref aa), .val (.int tp), .val (.long rp), .second, .val (.int (tp * (4 : Int32))), .val (.long (gg (4 * kt + 0))), .second, .unset, .unset, .unset, .unset]) rfl k) ?_
  show Go _ _ _ _ _ _ _ (T5.setTop (mkF m 70 #[.val (.ref aa), .val (.int tp), .val (.long rp), .second, .val (.int (tp * (4 : Int32))), .val (.long (gg (4 * kt + 0))), .second, .unset, .unset, .unset, .unset] []))
  refine Go.step (fun t k => XS.aloadN X5.here hx rfl (hb hby d5_70) rfl rfl k) ?_
  show Go _ _ _ _ _ _ _ (T5.setTop (mkF m 71 #[.val (.ref aa), .val (.int tp), .val (.long rp), .second, .val (.int (tp * (4 : Int32))), .val (.long (gg (4 * kt + 0))), .second, .unset, .unset, .unset, .unset] [(.ref aa)]))
  obtain ⟨T7, X7, e7, st7⟩ := getF X5 hx hZ hown (host := "") (Or.inl (hw _ (List.mem_of_getElem? (i := 38) rfl))) Via.refl e5 F_recordCount_aa (g := (mkF m 71 #[.val (.ref aa), .val (.int tp), .val (.long rp), .second, .val (.int (tp * (4 : Int32))), .val (.long (gg (4 * kt + 0))), .second, .unset, .unset, .unset, .unset] [(.ref aa)])) rfl rfl (hb hby d5_71)
  refine Go.step st7 ?_
  show Go _ _ _ _ _ _ _ (T7.setTop (mkF m 74 #[.val (.ref aa), .val (.int tp), .val (.long rp), .second, .val (.int (tp * (4 : Int32))), .val (.long (gg (4 * kt + 0))), .second, .unset, .unset, .unset, .unset] [(.int (1 : Int32))]))
  refine Go.step (fun t k => XS.iconst X7.here hx rfl (hb hby d5_74) k) ?_
  show Go _ _ _ _ _ _ _ (T7.setTop (mkF m 75 #[.val (.ref aa), .val (.int tp), .val (.long rp), .second, .val (.int (tp * (4 : Int32))), .val (.long (gg (4 * kt + 0))), .second, .unset, .unset, .unset, .unset] [(.int (3 : Int32)), (.int (1 : Int32))]))
  refine Go.step (fun t k => XS.imul X7.here hx rfl (hb hby d5_75) rfl k) ?_
  show Go _ _ _ _ _ _ _ (T7.setTop (mkF m 76 #[.val (.ref aa), .val (.int tp), .val (.long rp), .second, .val (.int (tp * (4 : Int32))), .val (.long (gg (4 * kt + 0))), .second, .unset, .unset, .unset, .unset] [(.int (3 : Int32))]))
  refine Go.step (fun t k => XS.istore X7.here hx rfl (hb hby d5_76) rfl (l' := #[.val (.ref aa), .val (.int tp), .val (.long rp), .second, .val (.int (tp * (4 : Int32))), .val (.long (gg (4 * kt + 0))), .second, .val (.int (3 : Int32)), .unset, .unset, .unset]) rfl k) ?_
  show Go _ _ _ _ _ _ _ (T7.setTop (mkF m 78 #[.val (.ref aa), .val (.int tp), .val (.long rp), .second, .val (.int (tp * (4 : Int32))), .val (.long (gg (4 * kt + 0))), .second, .val (.int (3 : Int32)), .unset, .unset, .unset] []))
  refine Go.step (fun t k => XS.aloadN X7.here hx rfl (hb hby d5_78) rfl rfl k) ?_
  show Go _ _ _ _ _ _ _ (T7.setTop (mkF m 79 #[.val (.ref aa), .val (.int tp), .val (.long rp), .second, .val (.int (tp * (4 : Int32))), .val (.long (gg (4 * kt + 0))), .second, .val (.int (3 : Int32)), .unset, .unset, .unset] [(.ref aa)]))
  obtain ⟨T8, X8, e8, st8⟩ := getF X7 hx hZ hown (host := "") (Or.inl (hw _ (List.mem_of_getElem? (i := 13) rfl))) Via.refl e7 F_records_aa (g := (mkF m 79 #[.val (.ref aa), .val (.int tp), .val (.long rp), .second, .val (.int (tp * (4 : Int32))), .val (.long (gg (4 * kt + 0))), .second, .val (.int (3 : Int32)), .unset, .unset, .unset] [(.ref aa)])) rfl rfl (hb hby d5_79)
  refine Go.step st8 ?_
  show Go _ _ _ _ _ _ _ (T8.setTop (mkF m 82 #[.val (.ref aa), .val (.int tp), .val (.long rp), .second, .val (.int (tp * (4 : Int32))), .val (.long (gg (4 * kt + 0))), .second, .val (.int (3 : Int32)), .unset, .unset, .unset] [(.ref br)]))
  refine Go.step (fun t k => XS.iload X8.here hx rfl (hb hby d5_82) rfl k) ?_
  show Go _ _ _ _ _ _ _ (T8.setTop (mkF m 84 #[.val (.ref aa), .val (.int tp), .val (.long rp), .second, .val (.int (tp * (4 : Int32))), .val (.long (gg (4 * kt + 0))), .second, .val (.int (3 : Int32)), .unset, .unset, .unset] [(.int (3 : Int32)), (.ref br)]))
  refine Go.step (fun t k => XS.lloadN X8.here hx rfl (hb hby d5_84) rfl k) ?_
  show Go _ _ _ _ _ _ _ (T8.setTop (mkF m 85 #[.val (.ref aa), .val (.int tp), .val (.long rp), .second, .val (.int (tp * (4 : Int32))), .val (.long (gg (4 * kt + 0))), .second, .val (.int (3 : Int32)), .unset, .unset, .unset] [(.long rp), (.int (3 : Int32)), (.ref br)]))
  refine Go.step (fun t k => XS.aloadN X8.here hx rfl (hb hby d5_85) rfl rfl k) ?_
  show Go _ _ _ _ _ _ _ (T8.setTop (mkF m 86 #[.val (.ref aa), .val (.int tp), .val (.long rp), .second, .val (.int (tp * (4 : Int32))), .val (.long (gg (4 * kt + 0))), .second, .val (.int (3 : Int32)), .unset, .unset, .unset] [(.ref aa), (.long rp), (.int (3 : Int32)), (.ref br)]))
  obtain ⟨T9, X9, e9, st9⟩ := getF X8 hx hZ hown (host := "") (Or.inl (hw _ (List.mem_of_getElem? (i := 40) rfl))) Via.refl e8 F_origin_aa (g := (mkF m 86 #[.val (.ref aa), .val (.int tp), .val (.long rp), .second, .val (.int (tp * (4 : Int32))), .val (.long (gg (4 * kt + 0))), .second, .val (.int (3 : Int32)), .unset, .unset, .unset] [(.ref aa), (.long rp), (.int (3 : Int32)), (.ref br)])) rfl rfl (hb hby d5_86)
  refine Go.step st9 ?_
  show Go _ _ _ _ _ _ _ (T9.setTop (mkF m 89 #[.val (.ref aa), .val (.int tp), .val (.long rp), .second, .val (.int (tp * (4 : Int32))), .val (.long (gg (4 * kt + 0))), .second, .val (.int (3 : Int32)), .unset, .unset, .unset] [(.long og), (.long rp), (.int (3 : Int32)), (.ref br)]))
  refine Go.step (fun t k => XS.lsub X9.here hx rfl (hb hby d5_89) rfl k) ?_
  show Go _ _ _ _ _ _ _ (T9.setTop (mkF m 90 #[.val (.ref aa), .val (.int tp), .val (.long rp), .second, .val (.int (tp * (4 : Int32))), .val (.long (gg (4 * kt + 0))), .second, .val (.int (3 : Int32)), .unset, .unset, .unset] [(.long (rp - og)), (.int (3 : Int32)), (.ref br)]))
  obtain ⟨_, _, ⟨T10, L10, k10, n10⟩, -, X10, ⟨Lc10, hQ10, l10, y10, z10⟩, st10⟩ := Jvm.LawKit.callS X9 hx (y := (⟨"java/lang/Math", "toIntExact", "(J)I"⟩ : MethodName)) hown (mvT hZ (hw _ (List.mem_of_getElem? (i := 42) rfl))) (mvT hZ (hw _ (List.mem_of_getElem? (i := 43) rfl))) (mvT hZ (hw _ (List.mem_of_getElem? (i := 44) rfl))) (mvT hZ (hw _ (List.mem_of_getElem? (i := 45) rfl))) (by decide) (backOf (W := 2) (rm6 l Z a0 hw [] (rp - og) h0 n0 Z0 hex) hZ (hw _ (List.mem_of_getElem? (i := 45) rfl)) (hw _ (List.mem_of_getElem? (i := 44) rfl)) (by decide) (by decide)) (g := (mkF m 90 #[.val (.ref aa), .val (.int tp), .val (.long rp), .second, .val (.int (tp * (4 : Int32))), .val (.long (gg (4 * kt + 0))), .second, .val (.int (3 : Int32)), .unset, .unset, .unset] [(.long (rp - og)), (.int (3 : Int32)), (.ref br)])) rfl (by rw [hml]; rfl) (argsL := [(.long (rp - og))]) (rest := [(.int (3 : Int32)), (.ref br)]) (lenOf pd_5_0_1 rfl) rfl (by show 2 * 0 + _ ≤ _; exact Nat.le_of_eq rfl) (hb hby d5_90) (fun _ _ => ⟨rfl, e9, (by decide : 0 + 0 ≤ _), (by decide : 0 + 0 ≤ _)⟩)
  dsimp only [Pt.U, Pt.locs, Pt.cells, Pt.slots] at X10 l10 y10 z10 st10 hQ10
  subst l10 y10 z10
  obtain ⟨rfl, N10q, K10q⟩ := hQ10
  have N10 := Fr.app N0 N10q
  refine Go.step st10 ?_
  show Go _ _ _ _ _ _ _ (T10.setTop (mkF m 93 #[.val (.ref aa), .val (.int tp), .val (.long rp), .second, .val (.int (tp * (4 : Int32))), .val (.long (gg (4 * kt + 0))), .second, .val (.int (3 : Int32)), .unset, .unset, .unset] [(.int ((rp - og).toInt32)), (.int (3 : Int32)), (.ref br)]))
  obtain ⟨T11, h11, X11, e11, W11, st11⟩ := own_stI X10 hx hZ K10q A_br 3 rfl (by decide) (f := (mkF m 93 #[.val (.ref aa), .val (.int tp), .val (.long rp), .second, .val (.int (tp * (4 : Int32))), .val (.long (gg (4 * kt + 0))), .second, .val (.int (3 : Int32)), .unset, .unset, .unset] [(.int ((rp - og).toInt32)), (.int (3 : Int32)), (.ref br)])) rfl rfl (hb hby d5_93)
  have ne_aa_br : aa ≠ br := (own_neA E_aa (hw _ (List.mem_of_getElem? (i := 1) rfl)) A_br)
  replace F_lines_aa := F_lines_aa.other W11 (Or.inl ne_aa_br)
  replace F_records_aa := F_records_aa.other W11 (Or.inl ne_aa_br)
  replace F_runRecords_aa := F_runRecords_aa.other W11 (Or.inl ne_aa_br)
  replace F_runFirsts_aa := F_runFirsts_aa.other W11 (Or.inl ne_aa_br)
  replace F_topics_aa := F_topics_aa.other W11 (Or.inl ne_aa_br)
  replace F_recordCount_aa := F_recordCount_aa.other W11 (Or.inl ne_aa_br)
  replace F_runCount_aa := F_runCount_aa.other W11 (Or.inl ne_aa_br)
  replace F_origin_aa := F_origin_aa.other W11 (Or.inl ne_aa_br)
  replace E_aa := E_aa.wr W11
  replace A_bl := A_bl.other W11 ne_bl_br
  replace A_bq := A_bq.other W11 (Ne.symm ne_br_bq)
  replace A_bf := A_bf.other W11 (Ne.symm ne_br_bf)
  have Z11 := Nat.le_trans Z0 (Keep.of_wr W11).1
  have N11 := Fr.snoc X11 N10 g_br
  have K11 := K0.wr W11 (Or.inl (List.mem_of_getElem? (i := 2) rfl))
  replace A_br := A_br.setI W11
  refine Go.step st11 ?_
  show Go _ _ _ _ _ _ _ (T11.setTop (mkF m 94 #[.val (.ref aa), .val (.int tp), .val (.long rp), .second, .val (.int (tp * (4 : Int32))), .val (.long (gg (4 * kt + 0))), .second, .val (.int (3 : Int32)), .unset, .unset, .unset] []))
  refine Go.step (fun t k => XS.aloadN X11.here hx rfl (hb hby d5_94) rfl rfl k) ?_
  show Go _ _ _ _ _ _ _ (T11.setTop (mkF m 95 #[.val (.ref aa), .val (.int tp), .val (.long rp), .second, .val (.int (tp * (4 : Int32))), .val (.long (gg (4 * kt + 0))), .second, .val (.int (3 : Int32)), .unset, .unset, .unset] [(.ref aa)]))
  obtain ⟨T12, X12, e12, st12⟩ := getF X11 hx hZ hown (host := "") (Or.inl (hw _ (List.mem_of_getElem? (i := 10) rfl))) Via.refl e11 F_lines_aa (g := (mkF m 95 #[.val (.ref aa), .val (.int tp), .val (.long rp), .second, .val (.int (tp * (4 : Int32))), .val (.long (gg (4 * kt + 0))), .second, .val (.int (3 : Int32)), .unset, .unset, .unset] [(.ref aa)])) rfl rfl (hb hby d5_95)
  refine Go.step st12 ?_
  show Go _ _ _ _ _ _ _ (T12.setTop (mkF m 98 #[.val (.ref aa), .val (.int tp), .val (.long rp), .second, .val (.int (tp * (4 : Int32))), .val (.long (gg (4 * kt + 0))), .second, .val (.int (3 : Int32)), .unset, .unset, .unset] [(.ref bl)]))
  refine Go.step (fun t k => XS.iload X12.here hx rfl (hb hby d5_98) rfl k) ?_
  show Go _ _ _ _ _ _ _ (T12.setTop (mkF m 100 #[.val (.ref aa), .val (.int tp), .val (.long rp), .second, .val (.int (tp * (4 : Int32))), .val (.long (gg (4 * kt + 0))), .second, .val (.int (3 : Int32)), .unset, .unset, .unset] [(.int (tp * (4 : Int32))), (.ref bl)]))
  refine Go.step (fun t k => XS.iconst X12.here hx rfl (hb hby d5_100) k) ?_
  show Go _ _ _ _ _ _ _ (T12.setTop (mkF m 101 #[.val (.ref aa), .val (.int tp), .val (.long rp), .second, .val (.int (tp * (4 : Int32))), .val (.long (gg (4 * kt + 0))), .second, .val (.int (3 : Int32)), .unset, .unset, .unset] [(.int (3 : Int32)), (.int (tp * (4 : Int32))), (.ref bl)]))
  refine Go.step (fun t k => XS.iadd X12.here hx rfl (hb hby d5_101) rfl k) ?_
  show Go _ _ _ _ _ _ _ (T12.setTop (mkF m 102 #[.val (.ref aa), .val (.int tp), .val (.long rp), .second, .val (.int (tp * (4 : Int32))), .val (.long (gg (4 * kt + 0))), .second, .val (.int (3 : Int32)), .unset, .unset, .unset] [(.int ((tp * (4 : Int32)) + (3 : Int32))), (.ref bl)]))
  refine Go.step (own_ld X12 hx hZ e12 A_bl (j := ((tp * (4 : Int32)) + (3 : Int32))) (4 * kt + 3) (own_ix htp hkt rfl (by decide)) (by omega) (v := (.long (gg (4 * kt + 3)))) rfl (Or.inr (Or.inl ⟨rfl, rfl⟩)) (f := (mkF m 102 #[.val (.ref aa), .val (.int tp), .val (.long rp), .second, .val (.int (tp * (4 : Int32))), .val (.long (gg (4 * kt + 0))), .second, .val (.int (3 : Int32)), .unset, .unset, .unset] [(.int ((tp * (4 : Int32)) + (3 : Int32))), (.ref bl)])) rfl rfl (hb hby d5_102)) ?_
  show Go _ _ _ _ _ _ _ (T12.setTop (mkF m 103 #[.val (.ref aa), .val (.int tp), .val (.long rp), .second, .val (.int (tp * (4 : Int32))), .val (.long (gg (4 * kt + 0))), .second, .val (.int (3 : Int32)), .unset, .unset, .unset] [(.long (gg (4 * kt + 3)))]))
  refine Go.step (fun t k => XS.lstore X12.here hx rfl (hb hby d5_103) rfl (l' := #[.val (.ref aa), .val (.int tp), .val (.long rp), .second, .val (.int (tp * (4 : Int32))), .val (.long (gg (4 * kt + 0))), .second, .val (.int (3 : Int32)), .val (.long (gg (4 * kt + 3))), .second, .unset]) rfl k) ?_
  show Go _ _ _ _ _ _ _ (T12.setTop (mkF m 105 #[.val (.ref aa), .val (.int tp), .val (.long rp), .second, .val (.int (tp * (4 : Int32))), .val (.long (gg (4 * kt + 0))), .second, .val (.int (3 : Int32)), .val (.long (gg (4 * kt + 3))), .second, .unset] []))
  refine Go.step (fun t k => XS.lload X12.here hx rfl (hb hby d5_105) rfl k) ?_
  show Go _ _ _ _ _ _ _ (T12.setTop (mkF m 107 #[.val (.ref aa), .val (.int tp), .val (.long rp), .second, .val (.int (tp * (4 : Int32))), .val (.long (gg (4 * kt + 0))), .second, .val (.int (3 : Int32)), .val (.long (gg (4 * kt + 3))), .second, .unset] [(.long (gg (4 * kt + 3)))]))
  refine Go.step (fun t k => XS.l2i X12.here hx rfl (hb hby d5_107) rfl k) ?_
  show Go _ _ _ _ _ _ _ (T12.setTop (mkF m 108 #[.val (.ref aa), .val (.int tp), .val (.long rp), .second, .val (.int (tp * (4 : Int32))), .val (.long (gg (4 * kt + 0))), .second, .val (.int (3 : Int32)), .val (.long (gg (4 * kt + 3))), .second, .unset] [(.int ((gg (4 * kt + 3)).toInt32))]))
  refine Go.step (fun t k => XS.istore X12.here hx rfl (hb hby d5_108) rfl (l' := #[.val (.ref aa), .val (.int tp), .val (.long rp), .second, .val (.int (tp * (4 : Int32))), .val (.long (gg (4 * kt + 0))), .second, .val (.int (3 : Int32)), .val (.long (gg (4 * kt + 3))), .second, .val (.int ((gg (4 * kt + 3)).toInt32))]) rfl k) ?_
  show Go _ _ _ _ _ _ _ (T12.setTop (mkF m 110 #[.val (.ref aa), .val (.int tp), .val (.long rp), .second, .val (.int (tp * (4 : Int32))), .val (.long (gg (4 * kt + 0))), .second, .val (.int (3 : Int32)), .val (.long (gg (4 * kt + 3))), .second, .val (.int ((gg (4 * kt + 3)).toInt32))] []))
  refine Go.step (fun t k => XS.iload X12.here hx rfl (hb hby d5_110) rfl k) ?_
  show Go _ _ _ _ _ _ _ (T12.setTop (mkF m 112 #[.val (.ref aa), .val (.int tp), .val (.long rp), .second, .val (.int (tp * (4 : Int32))), .val (.long (gg (4 * kt + 0))), .second, .val (.int (3 : Int32)), .val (.long (gg (4 * kt + 3))), .second, .val (.int ((gg (4 * kt + 3)).toInt32))] [(.int ((gg (4 * kt + 3)).toInt32))]))
  refine Go.step (fun t k => XS.ifYes X12.here hx rfl (pc0 := 112) (pc' := 143) rfl (hb hby d5_112) rfl ((if0 _ _).trans (tlt (hla : ((gg (4 * kt + 3)).toInt32) < (0 : Int32))).1) (by decide) (by decide) k) ?_
  show Go _ _ _ _ _ _ _ (T12.setTop (mkF m 143 #[.val (.ref aa), .val (.int tp), .val (.long rp), .second, .val (.int (tp * (4 : Int32))), .val (.long (gg (4 * kt + 0))), .second, .val (.int (3 : Int32)), .val (.long (gg (4 * kt + 3))), .second, .val (.int ((gg (4 * kt + 3)).toInt32))] []))
  refine Go.step (fun t k => XS.aloadN X12.here hx rfl (hb hby d5_143) rfl rfl k) ?_
  show Go _ _ _ _ _ _ _ (T12.setTop (mkF m 144 #[.val (.ref aa), .val (.int tp), .val (.long rp), .second, .val (.int (tp * (4 : Int32))), .val (.long (gg (4 * kt + 0))), .second, .val (.int (3 : Int32)), .val (.long (gg (4 * kt + 3))), .second, .val (.int ((gg (4 * kt + 3)).toInt32))] [(.ref aa)]))
  obtain ⟨T14, X14, e14, st14⟩ := getF X12 hx hZ hown (host := "") (Or.inl (hw _ (List.mem_of_getElem? (i := 13) rfl))) Via.refl e12 F_records_aa (g := (mkF m 144 #[.val (.ref aa), .val (.int tp), .val (.long rp), .second, .val (.int (tp * (4 : Int32))), .val (.long (gg (4 * kt + 0))), .second, .val (.int (3 : Int32)), .val (.long (gg (4 * kt + 3))), .second, .val (.int ((gg (4 * kt + 3)).toInt32))] [(.ref aa)])) rfl rfl (hb hby d5_144)
  refine Go.step st14 ?_
  show Go _ _ _ _ _ _ _ (T14.setTop (mkF m 147 #[.val (.ref aa), .val (.int tp), .val (.long rp), .second, .val (.int (tp * (4 : Int32))), .val (.long (gg (4 * kt + 0))), .second, .val (.int (3 : Int32)), .val (.long (gg (4 * kt + 3))), .second, .val (.int ((gg (4 * kt + 3)).toInt32))] [(.ref br)]))
  refine Go.step (fun t k => XS.iload X14.here hx rfl (hb hby d5_147) rfl k) ?_
  show Go _ _ _ _ _ _ _ (T14.setTop (mkF m 149 #[.val (.ref aa), .val (.int tp), .val (.long rp), .second, .val (.int (tp * (4 : Int32))), .val (.long (gg (4 * kt + 0))), .second, .val (.int (3 : Int32)), .val (.long (gg (4 * kt + 3))), .second, .val (.int ((gg (4 * kt + 3)).toInt32))] [(.int (3 : Int32)), (.ref br)]))
  refine Go.step (fun t k => XS.iconst X14.here hx rfl (hb hby d5_149) k) ?_
  show Go _ _ _ _ _ _ _ (T14.setTop (mkF m 150 #[.val (.ref aa), .val (.int tp), .val (.long rp), .second, .val (.int (tp * (4 : Int32))), .val (.long (gg (4 * kt + 0))), .second, .val (.int (3 : Int32)), .val (.long (gg (4 * kt + 3))), .second, .val (.int ((gg (4 * kt + 3)).toInt32))] [(.int (1 : Int32)), (.int (3 : Int32)), (.ref br)]))
  refine Go.step (fun t k => XS.iadd X14.here hx rfl (hb hby d5_150) rfl k) ?_
  show Go _ _ _ _ _ _ _ (T14.setTop (mkF m 151 #[.val (.ref aa), .val (.int tp), .val (.long rp), .second, .val (.int (tp * (4 : Int32))), .val (.long (gg (4 * kt + 0))), .second, .val (.int (3 : Int32)), .val (.long (gg (4 * kt + 3))), .second, .val (.int ((gg (4 * kt + 3)).toInt32))] [(.int (4 : Int32)), (.ref br)]))
  refine Go.step (fun t k => XS.iloadN X14.here hx rfl (hb hby d5_151) rfl k) ?_
  show Go _ _ _ _ _ _ _ (T14.setTop (mkF m 152 #[.val (.ref aa), .val (.int tp), .val (.long rp), .second, .val (.int (tp * (4 : Int32))), .val (.long (gg (4 * kt + 0))), .second, .val (.int (3 : Int32)), .val (.long (gg (4 * kt + 3))), .second, .val (.int ((gg (4 * kt + 3)).toInt32))] [(.int tp), (.int (4 : Int32)), (.ref br)]))
  refine Go.step (fun t k => X14.ldcInt hx hown (mvT hZ (hw _ (List.mem_of_getElem? (i := 46) rfl))) (g := (mkF m 152 #[.val (.ref aa), .val (.int tp), .val (.long rp), .second, .val (.int (tp * (4 : Int32))), .val (.long (gg (4 * kt + 0))), .second, .val (.int (3 : Int32)), .val (.long (gg (4 * kt + 3))), .second, .val (.int ((gg (4 * kt + 3)).toInt32))] [(.int tp), (.int (4 : Int32)), (.ref br)])) rfl (hb hby d5_152) _ k) ?_
  show Go _ _ _ _ _ _ _ (T14.setTop (mkF m 154 #[.val (.ref aa), .val (.int tp), .val (.long rp), .second, .val (.int (tp * (4 : Int32))), .val (.long (gg (4 * kt + 0))), .second, .val (.int (3 : Int32)), .val (.long (gg (4 * kt + 3))), .second, .val (.int ((gg (4 * kt + 3)).toInt32))] [(.int (-2147483648 : Int32)), (.int tp), (.int (4 : Int32)), (.ref br)]))
  refine Go.step (fun t k => XS.ior X14.here hx rfl (hb hby d5_154) rfl k) ?_
  show Go _ _ _ _ _ _ _ (T14.setTop (mkF m 155 #[.val (.ref aa), .val (.int tp), .val (.long rp), .second, .val (.int (tp * (4 : Int32))), .val (.long (gg (4 * kt + 0))), .second, .val (.int (3 : Int32)), .val (.long (gg (4 * kt + 3))), .second, .val (.int ((gg (4 * kt + 3)).toInt32))] [(.int (tp ||| (-2147483648 : Int32))), (.int (4 : Int32)), (.ref br)]))
  obtain ⟨T15, h15, X15, e15, W15, st15⟩ := own_stI X14 hx hZ e14 A_br 4 rfl (by decide) (f := (mkF m 155 #[.val (.ref aa), .val (.int tp), .val (.long rp), .second, .val (.int (tp * (4 : Int32))), .val (.long (gg (4 * kt + 0))), .second, .val (.int (3 : Int32)), .val (.long (gg (4 * kt + 3))), .second, .val (.int ((gg (4 * kt + 3)).toInt32))] [(.int (tp ||| (-2147483648 : Int32))), (.int (4 : Int32)), (.ref br)])) rfl rfl (hb hby d5_155)
  replace F_lines_aa := F_lines_aa.other W15 (Or.inl ne_aa_br)
  replace F_records_aa := F_records_aa.other W15 (Or.inl ne_aa_br)
  replace F_runRecords_aa := F_runRecords_aa.other W15 (Or.inl ne_aa_br)
  replace F_runFirsts_aa := F_runFirsts_aa.other W15 (Or.inl ne_aa_br)
  replace F_topics_aa := F_topics_aa.other W15 (Or.inl ne_aa_br)
  replace F_recordCount_aa := F_recordCount_aa.other W15 (Or.inl ne_aa_br)
  replace F_runCount_aa := F_runCount_aa.other W15 (Or.inl ne_aa_br)
  replace F_origin_aa := F_origin_aa.other W15 (Or.inl ne_aa_br)
  replace E_aa := E_aa.wr W15
  replace A_bl := A_bl.other W15 ne_bl_br
  replace A_bq := A_bq.other W15 (Ne.symm ne_br_bq)
  replace A_bf := A_bf.other W15 (Ne.symm ne_br_bf)
  have Z15 := Nat.le_trans Z11 (Keep.of_wr W15).1
  have N15 := Fr.snoc X15 N11 g_br
  have K15 := K11.wr W15 (Or.inl (List.mem_of_getElem? (i := 2) rfl))
  replace A_br := A_br.setI W15
  refine Go.step st15 ?_
  show Go _ _ _ _ _ _ _ (T15.setTop (mkF m 156 #[.val (.ref aa), .val (.int tp), .val (.long rp), .second, .val (.int (tp * (4 : Int32))), .val (.long (gg (4 * kt + 0))), .second, .val (.int (3 : Int32)), .val (.long (gg (4 * kt + 3))), .second, .val (.int ((gg (4 * kt + 3)).toInt32))] []))
  refine Go.step (fun t k => XS.aloadN X15.here hx rfl (hb hby d5_156) rfl rfl k) ?_
  show Go _ _ _ _ _ _ _ (T15.setTop (mkF m 157 #[.val (.ref aa), .val (.int tp), .val (.long rp), .second, .val (.int (tp * (4 : Int32))), .val (.long (gg (4 * kt + 0))), .second, .val (.int (3 : Int32)), .val (.long (gg (4 * kt + 3))), .second, .val (.int ((gg (4 * kt + 3)).toInt32))] [(.ref aa)]))
  refine Go.step (fun t k => XS.aloadN X15.here hx rfl (hb hby d5_157) rfl rfl k) ?_
  show Go _ _ _ _ _ _ _ (T15.setTop (mkF m 158 #[.val (.ref aa), .val (.int tp), .val (.long rp), .second, .val (.int (tp * (4 : Int32))), .val (.long (gg (4 * kt + 0))), .second, .val (.int (3 : Int32)), .val (.long (gg (4 * kt + 3))), .second, .val (.int ((gg (4 * kt + 3)).toInt32))] [(.ref aa), (.ref aa)]))
  obtain ⟨T16, X16, e16, st16⟩ := getF X15 hx hZ hown (host := "") (Or.inl (hw _ (List.mem_of_getElem? (i := 38) rfl))) Via.refl e15 F_recordCount_aa (g := (mkF m 158 #[.val (.ref aa), .val (.int tp), .val (.long rp), .second, .val (.int (tp * (4 : Int32))), .val (.long (gg (4 * kt + 0))), .second, .val (.int (3 : Int32)), .val (.long (gg (4 * kt + 3))), .second, .val (.int ((gg (4 * kt + 3)).toInt32))] [(.ref aa), (.ref aa)])) rfl rfl (hb hby d5_158)
  refine Go.step st16 ?_
  show Go _ _ _ _ _ _ _ (T16.setTop (mkF m 161 #[.val (.ref aa), .val (.int tp), .val (.long rp), .second, .val (.int (tp * (4 : Int32))), .val (.long (gg (4 * kt + 0))), .second, .val (.int (3 : Int32)), .val (.long (gg (4 * kt + 3))), .second, .val (.int ((gg (4 * kt + 3)).toInt32))] [(.int (1 : Int32)), (.ref aa)]))
  refine Go.step (fun t k => XS.lload X16.here hx rfl (hb hby d5_161) rfl k) ?_
  show Go _ _ _ _ _ _ _ (T16.setTop (mkF m 163 #[.val (.ref aa), .val (.int tp), .val (.long rp), .second, .val (.int (tp * (4 : Int32))), .val (.long (gg (4 * kt + 0))), .second, .val (.int (3 : Int32)), .val (.long (gg (4 * kt + 3))), .second, .val (.int ((gg (4 * kt + 3)).toInt32))] [(.long (gg (4 * kt + 0))), (.int (1 : Int32)), (.ref aa)]))
  obtain ⟨cq17, q17, q17'⟩ := E_aa.cell
  obtain ⟨_, _, ⟨T17, L17, k17, n17⟩, -, X17, ⟨Lc17, hQ17, l17, y17, z17⟩, st17⟩ := X16.privateBack hx (y := (⟨"com/example/ferrylog/ferrylog/store/LiveIndex", "beginRun", "(IJ)V"⟩ : MethodName)) hown (mvT hZ (hw _ (List.mem_of_getElem? (i := 47) rfl))) (mvT hZ (hw _ (List.mem_of_getElem? (i := 48) rfl))) (own_selP hZ (hw _ (List.mem_of_getElem? (i := 1) rfl)) (hw _ (List.mem_of_getElem? (i := 48) rfl)) (hw _ (List.mem_of_getElem? (i := 49) rfl)) (by decide)) (Cond.privateMethod_at (mvP hZ (hw _ (List.mem_of_getElem? (i := 49) rfl)) (args := #[]))) (mvT hZ (hw _ (List.mem_of_getElem? (i := 50) rfl))) (by decide) (backOf (W := 0) (rm7 l Z a0 hw [] aa (1 : Int32) (gg (4 * kt + 0)) bl br bq bf tv (1 : Int32) rn og kr gq gf h15 n0 Z15 F_lines_aa F_records_aa F_runRecords_aa F_runFirsts_aa F_topics_aa F_recordCount_aa F_runCount_aa F_origin_aa E_aa g_aa g_bq g_bf ne_bq_bf A_bq A_bf hrn hkr) hZ (hw _ (List.mem_of_getElem? (i := 50) rfl)) (hw _ (List.mem_of_getElem? (i := 2) rfl)) (by decide) (by decide)) (g := (mkF m 163 #[.val (.ref aa), .val (.int tp), .val (.long rp), .second, .val (.int (tp * (4 : Int32))), .val (.long (gg (4 * kt + 0))), .second, .val (.int (3 : Int32)), .val (.long (gg (4 * kt + 3))), .second, .val (.int ((gg (4 * kt + 3)).toInt32))] [(.long (gg (4 * kt + 0))), (.int (1 : Int32)), (.ref aa)])) rfl (by rw [hml]; rfl) (Steps.refl _) (a := aa) (by rw [e16]; exact q17) q17' (argsL := [(.int (1 : Int32)), (.long (gg (4 * kt + 0)))]) (rest := []) (lenOf pd_5_1_1 rfl) rfl (by show 2 * 0 + _ ≤ _; exact Nat.le_of_eq rfl) (hb hby d5_163) (fun _ _ => ⟨rfl, e16, (by decide : 0 + 0 ≤ _), (by decide : 0 + 0 ≤ _)⟩)
  dsimp only [Pt.U, Pt.locs, Pt.cells, Pt.slots] at X17 l17 y17 z17 st17 hQ17
  subst l17 y17 z17
  obtain ⟨rfl, N17q, K17q, o17_F_lines_aa, o17_F_records_aa, o17_F_runRecords_aa, o17_F_runFirsts_aa, o17_F_topics_aa, o17_F_recordCount_aa, o17_F_runCount_aa, o17_F_origin_aa, o17_A_bq, o17_A_bf⟩ := hQ17
  have N17 := Fr.app N15 N17q
  have ne_bl_aa : bl ≠ aa := (Ne.symm (own_neA E_aa (hw _ (List.mem_of_getElem? (i := 1) rfl)) A_bl))
  replace E_aa := E_aa.keep K17q
  replace A_bl := A_bl.keep K17q (ninS ne_bl_aa (ninS ne_bl_bq (ninS ne_bl_bf nin0)))
  replace A_br := A_br.keep K17q (ninS (Ne.symm ne_aa_br) (ninS ne_br_bq (ninS ne_br_bf nin0)))
  have Z17 := Nat.le_trans Z15 K17q.1
  have K17' := K15.trans K17q (allS (Or.inl (List.mem_of_getElem? (i := 0) rfl)) (allS (Or.inl (List.mem_of_getElem? (i := 3) rfl)) (allS (Or.inl (List.mem_of_getElem? (i := 4) rfl)) all0)))
  have F_lines_aa := o17_F_lines_aa
  have F_records_aa := o17_F_records_aa
  have F_runRecords_aa := o17_F_runRecords_aa
  have F_runFirsts_aa := o17_F_runFirsts_aa
  have F_topics_aa := o17_F_topics_aa
  have F_recordCount_aa := o17_F_recordCount_aa
  have F_runCount_aa := o17_F_runCount_aa
  have F_origin_aa := o17_F_origin_aa
  have A_bq := o17_A_bq
  have A_bf := o17_A_bf
  refine Go.step (fun t k => st17.trans k) ?_
  show Go _ _ _ _ _ _ _ (T17.setTop (mkF m 166 #[.val (.ref aa), .val (.int tp), .val (.long rp), .second, .val (.int (tp * (4 : Int32))), .val (.long (gg (4 * kt + 0))), .second, .val (.int (3 : Int32)), .val (.long (gg (4 * kt + 3))), .second, .val (.int ((gg (4 * kt + 3)).toInt32))] []))
  refine Go.step (fun t k => XS.aloadN X17.here hx rfl (hb hby d5_166) rfl rfl k) ?_
  show Go _ _ _ _ _ _ _ (T17.setTop (mkF m 167 #[.val (.ref aa), .val (.int tp), .val (.long rp), .second, .val (.int (tp * (4 : Int32))), .val (.long (gg (4 * kt + 0))), .second, .val (.int (3 : Int32)), .val (.long (gg (4 * kt + 3))), .second, .val (.int ((gg (4 * kt + 3)).toInt32))] [(.ref aa)]))
  obtain ⟨T18, X18, e18, st18⟩ := getF X17 hx hZ hown (host := "") (Or.inl (hw _ (List.mem_of_getElem? (i := 13) rfl))) Via.refl rfl F_records_aa (g := (mkF m 167 #[.val (.ref aa), .val (.int tp), .val (.long rp), .second, .val (.int (tp * (4 : Int32))), .val (.long (gg (4 * kt + 0))), .second, .val (.int (3 : Int32)), .val (.long (gg (4 * kt + 3))), .second, .val (.int ((gg (4 * kt + 3)).toInt32))] [(.ref aa)])) rfl rfl (hb hby d5_167)
  refine Go.step st18 ?_
  show Go _ _ _ _ _ _ _ (T18.setTop (mkF m 170 #[.val (.ref aa), .val (.int tp), .val (.long rp), .second, .val (.int (tp * (4 : Int32))), .val (.long (gg (4 * kt + 0))), .second, .val (.int (3 : Int32)), .val (.long (gg (4 * kt + 3))), .second, .val (.int ((gg (4 * kt + 3)).toInt32))] [(.ref br)]))
  refine Go.step (fun t k => XS.iload X18.here hx rfl (hb hby d5_170) rfl k) ?_
  show Go _ _ _ _ _ _ _ (T18.setTop (mkF m 172 #[.val (.ref aa), .val (.int tp), .val (.long rp), .second, .val (.int (tp * (4 : Int32))), .val (.long (gg (4 * kt + 0))), .second, .val (.int (3 : Int32)), .val (.long (gg (4 * kt + 3))), .second, .val (.int ((gg (4 * kt + 3)).toInt32))] [(.int (3 : Int32)), (.ref br)]))
  refine Go.step (fun t k => XS.iconst X18.here hx rfl (hb hby d5_172) k) ?_
  show Go _ _ _ _ _ _ _ (T18.setTop (mkF m 173 #[.val (.ref aa), .val (.int tp), .val (.long rp), .second, .val (.int (tp * (4 : Int32))), .val (.long (gg (4 * kt + 0))), .second, .val (.int (3 : Int32)), .val (.long (gg (4 * kt + 3))), .second, .val (.int ((gg (4 * kt + 3)).toInt32))] [(.int (2 : Int32)), (.int (3 : Int32)), (.ref br)]))
  refine Go.step (fun t k => XS.iadd X18.here hx rfl (hb hby d5_173) rfl k) ?_
  show Go _ _ _ _ _ _ _ (T18.setTop (mkF m 174 #[.val (.ref aa), .val (.int tp), .val (.long rp), .second, .val (.int (tp * (4 : Int32))), .val (.long (gg (4 * kt + 0))), .second, .val (.int (3 : Int32)), .val (.long (gg (4 * kt + 3))), .second, .val (.int ((gg (4 * kt + 3)).toInt32))] [(.int (5 : Int32)), (.ref br)]))
  refine Go.step (fun t k => XS.iload X18.here hx rfl (hb hby d5_174) rfl k) ?_
  show Go _ _ _ _ _ _ _ (T18.setTop (mkF m 176 #[.val (.ref aa), .val (.int tp), .val (.long rp), .second, .val (.int (tp * (4 : Int32))), .val (.long (gg (4 * kt + 0))), .second, .val (.int (3 : Int32)), .val (.long (gg (4 * kt + 3))), .second, .val (.int ((gg (4 * kt + 3)).toInt32))] [(.int ((gg (4 * kt + 3)).toInt32)), (.int (5 : Int32)), (.ref br)]))
  obtain ⟨T19, h19, X19, e19, W19, st19⟩ := own_stI X18 hx hZ e18 A_br 5 rfl (by decide) (f := (mkF m 176 #[.val (.ref aa), .val (.int tp), .val (.long rp), .second, .val (.int (tp * (4 : Int32))), .val (.long (gg (4 * kt + 0))), .second, .val (.int (3 : Int32)), .val (.long (gg (4 * kt + 3))), .second, .val (.int ((gg (4 * kt + 3)).toInt32))] [(.int ((gg (4 * kt + 3)).toInt32)), (.int (5 : Int32)), (.ref br)])) rfl rfl (hb hby d5_176)
  replace E_aa := E_aa.wr W19
  replace A_bl := A_bl.other W19 ne_bl_br
  replace F_lines_aa := F_lines_aa.other W19 (Or.inl ne_aa_br)
  replace F_records_aa := F_records_aa.other W19 (Or.inl ne_aa_br)
  replace F_runRecords_aa := F_runRecords_aa.other W19 (Or.inl ne_aa_br)
  replace F_runFirsts_aa := F_runFirsts_aa.other W19 (Or.inl ne_aa_br)
  replace F_topics_aa := F_topics_aa.other W19 (Or.inl ne_aa_br)
  replace F_recordCount_aa := F_recordCount_aa.other W19 (Or.inl ne_aa_br)
  replace F_runCount_aa := F_runCount_aa.other W19 (Or.inl ne_aa_br)
  replace F_origin_aa := F_origin_aa.other W19 (Or.inl ne_aa_br)
  replace A_bq := A_bq.other W19 (Ne.symm ne_br_bq)
  replace A_bf := A_bf.other W19 (Ne.symm ne_br_bf)
  have Z19 := Nat.le_trans Z17 (Keep.of_wr W19).1
  have N19 := Fr.snoc X19 N17 g_br
  have K19 := K17'.wr W19 (Or.inl (List.mem_of_getElem? (i := 2) rfl))
  replace A_br := A_br.setI W19
  refine Go.step st19 ?_
  show Go _ _ _ _ _ _ _ (T19.setTop (mkF m 177 #[.val (.ref aa), .val (.int tp), .val (.long rp), .second, .val (.int (tp * (4 : Int32))), .val (.long (gg (4 * kt + 0))), .second, .val (.int (3 : Int32)), .val (.long (gg (4 * kt + 3))), .second, .val (.int ((gg (4 * kt + 3)).toInt32))] []))
  refine Go.step (fun t k => XS.aloadN X19.here hx rfl (hb hby d5_177) rfl rfl k) ?_
  show Go _ _ _ _ _ _ _ (T19.setTop (mkF m 178 #[.val (.ref aa), .val (.int tp), .val (.long rp), .second, .val (.int (tp * (4 : Int32))), .val (.long (gg (4 * kt + 0))), .second, .val (.int (3 : Int32)), .val (.long (gg (4 * kt + 3))), .second, .val (.int ((gg (4 * kt + 3)).toInt32))] [(.ref aa)]))
  obtain ⟨T20, X20, e20, st20⟩ := getF X19 hx hZ hown (host := "") (Or.inl (hw _ (List.mem_of_getElem? (i := 10) rfl))) Via.refl e19 F_lines_aa (g := (mkF m 178 #[.val (.ref aa), .val (.int tp), .val (.long rp), .second, .val (.int (tp * (4 : Int32))), .val (.long (gg (4 * kt + 0))), .second, .val (.int (3 : Int32)), .val (.long (gg (4 * kt + 3))), .second, .val (.int ((gg (4 * kt + 3)).toInt32))] [(.ref aa)])) rfl rfl (hb hby d5_178)
  refine Go.step st20 ?_
  show Go _ _ _ _ _ _ _ (T20.setTop (mkF m 181 #[.val (.ref aa), .val (.int tp), .val (.long rp), .second, .val (.int (tp * (4 : Int32))), .val (.long (gg (4 * kt + 0))), .second, .val (.int (3 : Int32)), .val (.long (gg (4 * kt + 3))), .second, .val (.int ((gg (4 * kt + 3)).toInt32))] [(.ref bl)]))
  refine Go.step (fun t k => XS.iload X20.here hx rfl (hb hby d5_181) rfl k) ?_
  show Go _ _ _ _ _ _ _ (T20.setTop (mkF m 183 #[.val (.ref aa), .val (.int tp), .val (.long rp), .second, .val (.int (tp * (4 : Int32))), .val (.long (gg (4 * kt + 0))), .second, .val (.int (3 : Int32)), .val (.long (gg (4 * kt + 3))), .second, .val (.int ((gg (4 * kt + 3)).toInt32))] [(.int (tp * (4 : Int32))), (.ref bl)]))
  refine Go.step (fun t k => XS.iconst X20.here hx rfl (hb hby d5_183) k) ?_
  show Go _ _ _ _ _ _ _ (T20.setTop (mkF m 184 #[.val (.ref aa), .val (.int tp), .val (.long rp), .second, .val (.int (tp * (4 : Int32))), .val (.long (gg (4 * kt + 0))), .second, .val (.int (3 : Int32)), .val (.long (gg (4 * kt + 3))), .second, .val (.int ((gg (4 * kt + 3)).toInt32))] [(.int (3 : Int32)), (.int (tp * (4 : Int32))), (.ref bl)]))
  refine Go.step (fun t k => XS.iadd X20.here hx rfl (hb hby d5_184) rfl k) ?_
  show Go _ _ _ _ _ _ _ (T20.setTop (mkF m 185 #[.val (.ref aa), .val (.int tp), .val (.long rp), .second, .val (.int (tp * (4 : Int32))), .val (.long (gg (4 * kt + 0))), .second, .val (.int (3 : Int32)), .val (.long (gg (4 * kt + 3))), .second, .val (.int ((gg (4 * kt + 3)).toInt32))] [(.int ((tp * (4 : Int32)) + (3 : Int32))), (.ref bl)]))
  refine Go.step (fun t k => XS.lload X20.here hx rfl (hb hby d5_185) rfl k) ?_
  show Go _ _ _ _ _ _ _ (T20.setTop (mkF m 187 #[.val (.ref aa), .val (.int tp), .val (.long rp), .second, .val (.int (tp * (4 : Int32))), .val (.long (gg (4 * kt + 0))), .second, .val (.int (3 : Int32)), .val (.long (gg (4 * kt + 3))), .second, .val (.int ((gg (4 * kt + 3)).toInt32))] [(.long (gg (4 * kt + 3))), (.int ((tp * (4 : Int32)) + (3 : Int32))), (.ref bl)]))
  refine Go.step (fun t k => X20.ldc2Long hx hown (mvT hZ (hw _ (List.mem_of_getElem? (i := 53) rfl))) (g := (mkF m 187 #[.val (.ref aa), .val (.int tp), .val (.long rp), .second, .val (.int (tp * (4 : Int32))), .val (.long (gg (4 * kt + 0))), .second, .val (.int (3 : Int32)), .val (.long (gg (4 * kt + 3))), .second, .val (.int ((gg (4 * kt + 3)).toInt32))] [(.long (gg (4 * kt + 3))), (.int ((tp * (4 : Int32)) + (3 : Int32))), (.ref bl)])) rfl (hb hby d5_187) _ k) ?_
  show Go _ _ _ _ _ _ _ (T20.setTop (mkF m 190 #[.val (.ref aa), .val (.int tp), .val (.long rp), .second, .val (.int (tp * (4 : Int32))), .val (.long (gg (4 * kt + 0))), .second, .val (.int (3 : Int32)), .val (.long (gg (4 * kt + 3))), .second, .val (.int ((gg (4 * kt + 3)).toInt32))] [(.long (-4294967296 : Int64)), (.long (gg (4 * kt + 3))), (.int ((tp * (4 : Int32)) + (3 : Int32))), (.ref bl)]))
  refine Go.step (fun t k => XS.land X20.here hx rfl (hb hby d5_190) rfl k) ?_
  show Go _ _ _ _ _ _ _ (T20.setTop (mkF m 191 #[.val (.ref aa), .val (.int tp), .val (.long rp), .second, .val (.int (tp * (4 : Int32))), .val (.long (gg (4 * kt + 0))), .second, .val (.int (3 : Int32)), .val (.long (gg (4 * kt + 3))), .second, .val (.int ((gg (4 * kt + 3)).toInt32))] [(.long ((gg (4 * kt + 3)) &&& (-4294967296 : Int64))), (.int ((tp * (4 : Int32)) + (3 : Int32))), (.ref bl)]))
  refine Go.step (fun t k => XS.aloadN X20.here hx rfl (hb hby d5_191) rfl rfl k) ?_
  show Go _ _ _ _ _ _ _ (T20.setTop (mkF m 192 #[.val (.ref aa), .val (.int tp), .val (.long rp), .second, .val (.int (tp * (4 : Int32))), .val (.long (gg (4 * kt + 0))), .second, .val (.int (3 : Int32)), .val (.long (gg (4 * kt + 3))), .second, .val (.int ((gg (4 * kt + 3)).toInt32))] [(.ref aa), (.long ((gg (4 * kt + 3)) &&& (-4294967296 : Int64))), (.int ((tp * (4 : Int32)) + (3 : Int32))), (.ref bl)]))
  refine Go.step (fun t k => XS.dup X20.here hx rfl (hb hby d5_192) rfl rfl k) ?_
  show Go _ _ _ _ _ _ _ (T20.setTop (mkF m 193 #[.val (.ref aa), .val (.int tp), .val (.long rp), .second, .val (.int (tp * (4 : Int32))), .val (.long (gg (4 * kt + 0))), .second, .val (.int (3 : Int32)), .val (.long (gg (4 * kt + 3))), .second, .val (.int ((gg (4 * kt + 3)).toInt32))] [(.ref aa), (.ref aa), (.long ((gg (4 * kt + 3)) &&& (-4294967296 : Int64))), (.int ((tp * (4 : Int32)) + (3 : Int32))), (.ref bl)]))
  obtain ⟨T21, X21, e21, st21⟩ := getF X20 hx hZ hown (host := "") (Or.inl (hw _ (List.mem_of_getElem? (i := 38) rfl))) Via.refl e20 F_recordCount_aa (g := (mkF m 193 #[.val (.ref aa), .val (.int tp), .val (.long rp), .second, .val (.int (tp * (4 : Int32))), .val (.long (gg (4 * kt + 0))), .second, .val (.int (3 : Int32)), .val (.long (gg (4 * kt + 3))), .second, .val (.int ((gg (4 * kt + 3)).toInt32))] [(.ref aa), (.ref aa), (.long ((gg (4 * kt + 3)) &&& (-4294967296 : Int64))), (.int ((tp * (4 : Int32)) + (3 : Int32))), (.ref bl)])) rfl rfl (hb hby d5_193)
  refine Go.step st21 ?_
  show Go _ _ _ _ _ _ _ (T21.setTop (mkF m 196 #[.val (.ref aa), .val (.int tp), .val (.long rp), .second, .val (.int (tp * (4 : Int32))), .val (.long (gg (4 * kt + 0))), .second, .val (.int (3 : Int32)), .val (.long (gg (4 * kt + 3))), .second, .val (.int ((gg (4 * kt + 3)).toInt32))] [(.int (1 : Int32)), (.ref aa), (.long ((gg (4 * kt + 3)) &&& (-4294967296 : Int64))), (.int ((tp * (4 : Int32)) + (3 : Int32))), (.ref bl)]))
  refine Go.step (fun t k => XS.dupX1 X21.here hx rfl (hb hby d5_196) rfl rfl rfl k) ?_
  show Go _ _ _ _ _ _ _ (T21.setTop (mkF m 197 #[.val (.ref aa), .val (.int tp), .val (.long rp), .second, .val (.int (tp * (4 : Int32))), .val (.long (gg (4 * kt + 0))), .second, .val (.int (3 : Int32)), .val (.long (gg (4 * kt + 3))), .second, .val (.int ((gg (4 * kt + 3)).toInt32))] [(.int (1 : Int32)), (.ref aa), (.int (1 : Int32)), (.long ((gg (4 * kt + 3)) &&& (-4294967296 : Int64))), (.int ((tp * (4 : Int32)) + (3 : Int32))), (.ref bl)]))
  refine Go.step (fun t k => XS.iconst X21.here hx rfl (hb hby d5_197) k) ?_
  show Go _ _ _ _ _ _ _ (T21.setTop (mkF m 198 #[.val (.ref aa), .val (.int tp), .val (.long rp), .second, .val (.int (tp * (4 : Int32))), .val (.long (gg (4 * kt + 0))), .second, .val (.int (3 : Int32)), .val (.long (gg (4 * kt + 3))), .second, .val (.int ((gg (4 * kt + 3)).toInt32))] [(.int (1 : Int32)), (.int (1 : Int32)), (.ref aa), (.int (1 : Int32)), (.long ((gg (4 * kt + 3)) &&& (-4294967296 : Int64))), (.int ((tp * (4 : Int32)) + (3 : Int32))), (.ref bl)]))
  refine Go.step (fun t k => XS.iadd X21.here hx rfl (hb hby d5_198) rfl k) ?_
  show Go _ _ _ _ _ _ _ (T21.setTop (mkF m 199 #[.val (.ref aa), .val (.int tp), .val (.long rp), .second, .val (.int (tp * (4 : Int32))), .val (.long (gg (4 * kt + 0))), .second, .val (.int (3 : Int32)), .val (.long (gg (4 * kt + 3))), .second, .val (.int ((gg (4 * kt + 3)).toInt32))] [(.int (2 : Int32)), (.ref aa), (.int (1 : Int32)), (.long ((gg (4 * kt + 3)) &&& (-4294967296 : Int64))), (.int ((tp * (4 : Int32)) + (3 : Int32))), (.ref bl)]))
  obtain ⟨T22, h22, X22, e22, W22, st22⟩ := putF X21 hx hZ hown (host := "") (Or.inl (hw _ (List.mem_of_getElem? (i := 38) rfl))) Via.refl e21 F_recordCount_aa E_aa (Or.inl (hw _ (List.mem_of_getElem? (i := 39) rfl))) (hw _ (List.mem_of_getElem? (i := 1) rfl)) (ty := .int) (by decide) rfl rfl (g := (mkF m 199 #[.val (.ref aa), .val (.int tp), .val (.long rp), .second, .val (.int (tp * (4 : Int32))), .val (.long (gg (4 * kt + 0))), .second, .val (.int (3 : Int32)), .val (.long (gg (4 * kt + 3))), .second, .val (.int ((gg (4 * kt + 3)).toInt32))] [(.int (2 : Int32)), (.ref aa), (.int (1 : Int32)), (.long ((gg (4 * kt + 3)) &&& (-4294967296 : Int64))), (.int ((tp * (4 : Int32)) + (3 : Int32))), (.ref bl)])) rfl rfl (hb hby d5_199)
  have ne_bq_aa : bq ≠ aa := (Ne.symm (own_neA E_aa (hw _ (List.mem_of_getElem? (i := 1) rfl)) A_bq))
  have ne_bf_aa : bf ≠ aa := (Ne.symm (own_neA E_aa (hw _ (List.mem_of_getElem? (i := 1) rfl)) A_bf))
  replace E_aa := E_aa.wr W22
  replace A_bl := A_bl.other W22 ne_bl_aa
  replace A_br := A_br.other W22 (Ne.symm ne_aa_br)
  replace F_lines_aa := F_lines_aa.other W22 (Or.inr (slot_ne (Or.inl (hw _ (List.mem_of_getElem? (i := 11) rfl))) (Or.inl (hw _ (List.mem_of_getElem? (i := 39) rfl))) (by decide) (t := (.array .long)) (t' := .int) (by decide) (by decide)))
  replace F_records_aa := F_records_aa.other W22 (Or.inr (slot_ne (Or.inl (hw _ (List.mem_of_getElem? (i := 14) rfl))) (Or.inl (hw _ (List.mem_of_getElem? (i := 39) rfl))) (by decide) (t := (.array .int)) (t' := .int) (by decide) (by decide)))
  replace F_runRecords_aa := F_runRecords_aa.other W22 (Or.inr (slot_ne (Or.inl (hw _ (List.mem_of_getElem? (i := 16) rfl))) (Or.inl (hw _ (List.mem_of_getElem? (i := 39) rfl))) (by decide) (t := (.array .int)) (t' := .int) (by decide) (by decide)))
  replace F_runFirsts_aa := F_runFirsts_aa.other W22 (Or.inr (slot_ne (Or.inl (hw _ (List.mem_of_getElem? (i := 18) rfl))) (Or.inl (hw _ (List.mem_of_getElem? (i := 39) rfl))) (by decide) (t := (.array .long)) (t' := .int) (by decide) (by decide)))
  replace F_topics_aa := F_topics_aa.other W22 (Or.inr (slot_ne (Or.inl (hw _ (List.mem_of_getElem? (i := 25) rfl))) (Or.inl (hw _ (List.mem_of_getElem? (i := 39) rfl))) (by decide) (t := .int) (t' := .int) (by decide) (by decide)))
  replace F_runCount_aa := F_runCount_aa.other W22 (Or.inr (slot_ne (Or.inl (hw _ (List.mem_of_getElem? (i := 52) rfl))) (Or.inl (hw _ (List.mem_of_getElem? (i := 39) rfl))) (by decide) (t := .int) (t' := .int) (by decide) (by decide)))
  replace F_origin_aa := F_origin_aa.other W22 (Or.inr (slot_ne (Or.inl (hw _ (List.mem_of_getElem? (i := 41) rfl))) (Or.inl (hw _ (List.mem_of_getElem? (i := 39) rfl))) (by decide) (t := .long) (t' := .int) (by decide) (by decide)))
  replace A_bq := A_bq.other W22 ne_bq_aa
  replace A_bf := A_bf.other W22 ne_bf_aa
  have Z22 := Nat.le_trans Z19 (Keep.of_wr W22).1
  have N22 := Fr.snoc X22 N19 g_aa
  have K22 := K19.wr W22 (Or.inl (List.mem_of_getElem? (i := 0) rfl))
  replace F_recordCount_aa := F_recordCount_aa.same W22
  refine Go.step st22 ?_
  show Go _ _ _ _ _ _ _ (T22.setTop (mkF m 202 #[.val (.ref aa), .val (.int tp), .val (.long rp), .second, .val (.int (tp * (4 : Int32))), .val (.long (gg (4 * kt + 0))), .second, .val (.int (3 : Int32)), .val (.long (gg (4 * kt + 3))), .second, .val (.int ((gg (4 * kt + 3)).toInt32))] [(.int (1 : Int32)), (.long ((gg (4 * kt + 3)) &&& (-4294967296 : Int64))), (.int ((tp * (4 : Int32)) + (3 : Int32))), (.ref bl)]))
  refine Go.step (fun t k => XS.i2l X22.here hx rfl (hb hby d5_202) rfl k) ?_
  show Go _ _ _ _ _ _ _ (T22.setTop (mkF m 203 #[.val (.ref aa), .val (.int tp), .val (.long rp), .second, .val (.int (tp * (4 : Int32))), .val (.long (gg (4 * kt + 0))), .second, .val (.int (3 : Int32)), .val (.long (gg (4 * kt + 3))), .second, .val (.int ((gg (4 * kt + 3)).toInt32))] [(.long ((1 : Int32).toInt64)), (.long ((gg (4 * kt + 3)) &&& (-4294967296 : Int64))), (.int ((tp * (4 : Int32)) + (3 : Int32))), (.ref bl)]))
  refine Go.step (fun t k => XS.lor X22.here hx rfl (hb hby d5_203) rfl k) ?_
  show Go _ _ _ _ _ _ _ (T22.setTop (mkF m 204 #[.val (.ref aa), .val (.int tp), .val (.long rp), .second, .val (.int (tp * (4 : Int32))), .val (.long (gg (4 * kt + 0))), .second, .val (.int (3 : Int32)), .val (.long (gg (4 * kt + 3))), .second, .val (.int ((gg (4 * kt + 3)).toInt32))] [(.long (((gg (4 * kt + 3)) &&& (-4294967296 : Int64)) ||| ((1 : Int32).toInt64))), (.int ((tp * (4 : Int32)) + (3 : Int32))), (.ref bl)]))
  obtain ⟨T23, h23, X23, e23, W23, st23⟩ := own_stJ X22 hx hZ e22 A_bl (4 * kt + 3) (own_ix htp hkt rfl (by decide)) (by omega) (f := (mkF m 204 #[.val (.ref aa), .val (.int tp), .val (.long rp), .second, .val (.int (tp * (4 : Int32))), .val (.long (gg (4 * kt + 0))), .second, .val (.int (3 : Int32)), .val (.long (gg (4 * kt + 3))), .second, .val (.int ((gg (4 * kt + 3)).toInt32))] [(.long (((gg (4 * kt + 3)) &&& (-4294967296 : Int64)) ||| ((1 : Int32).toInt64))), (.int ((tp * (4 : Int32)) + (3 : Int32))), (.ref bl)])) rfl rfl (hb hby d5_204)
  replace E_aa := E_aa.wr W23
  replace A_br := A_br.other W23 (Ne.symm ne_bl_br)
  replace F_lines_aa := F_lines_aa.other W23 (Or.inl (Ne.symm ne_bl_aa))
  replace F_records_aa := F_records_aa.other W23 (Or.inl (Ne.symm ne_bl_aa))
  replace F_runRecords_aa := F_runRecords_aa.other W23 (Or.inl (Ne.symm ne_bl_aa))
  replace F_runFirsts_aa := F_runFirsts_aa.other W23 (Or.inl (Ne.symm ne_bl_aa))
  replace F_topics_aa := F_topics_aa.other W23 (Or.inl (Ne.symm ne_bl_aa))
  replace F_recordCount_aa := F_recordCount_aa.other W23 (Or.inl (Ne.symm ne_bl_aa))
  replace F_runCount_aa := F_runCount_aa.other W23 (Or.inl (Ne.symm ne_bl_aa))
  replace F_origin_aa := F_origin_aa.other W23 (Or.inl (Ne.symm ne_bl_aa))
  replace A_bq := A_bq.other W23 (Ne.symm ne_bl_bq)
  replace A_bf := A_bf.other W23 (Ne.symm ne_bl_bf)
  have Z23 := Nat.le_trans Z22 (Keep.of_wr W23).1
  have N23 := Fr.snoc X23 N22 g_bl
  have K23 := K22.wr W23 (Or.inl (List.mem_of_getElem? (i := 1) rfl))
  replace A_bl := A_bl.setJ W23
  refine Go.step st23 ?_
  show Go _ _ _ _ _ _ _ (T23.setTop (mkF m 205 #[.val (.ref aa), .val (.int tp), .val (.long rp), .second, .val (.int (tp * (4 : Int32))), .val (.long (gg (4 * kt + 0))), .second, .val (.int (3 : Int32)), .val (.long (gg (4 * kt + 3))), .second, .val (.int ((gg (4 * kt + 3)).toInt32))] []))
  refine Go.step (fun t k => XS.aloadN X23.here hx rfl (hb hby d5_205) rfl rfl k) ?_
  show Go _ _ _ _ _ _ _ (T23.setTop (mkF m 206 #[.val (.ref aa), .val (.int tp), .val (.long rp), .second, .val (.int (tp * (4 : Int32))), .val (.long (gg (4 * kt + 0))), .second, .val (.int (3 : Int32)), .val (.long (gg (4 * kt + 3))), .second, .val (.int ((gg (4 * kt + 3)).toInt32))] [(.ref aa)]))
  obtain ⟨T24, X24, e24, st24⟩ := getF X23 hx hZ hown (host := "") (Or.inl (hw _ (List.mem_of_getElem? (i := 10) rfl))) Via.refl e23 F_lines_aa (g := (mkF m 206 #[.val (.ref aa), .val (.int tp), .val (.long rp), .second, .val (.int (tp * (4 : Int32))), .val (.long (gg (4 * kt + 0))), .second, .val (.int (3 : Int32)), .val (.long (gg (4 * kt + 3))), .second, .val (.int ((gg (4 * kt + 3)).toInt32))] [(.ref aa)])) rfl rfl (hb hby d5_206)
  refine Go.step st24 ?_
  show Go _ _ _ _ _ _ _ (T24.setTop (mkF m 209 #[.val (.ref aa), .val (.int tp), .val (.long rp), .second, .val (.int (tp * (4 : Int32))), .val (.long (gg (4 * kt + 0))), .second, .val (.int (3 : Int32)), .val (.long (gg (4 * kt + 3))), .second, .val (.int ((gg (4 * kt + 3)).toInt32))] [(.ref bl)]))
  refine Go.step (fun t k => XS.iload X24.here hx rfl (hb hby d5_209) rfl k) ?_
  show Go _ _ _ _ _ _ _ (T24.setTop (mkF m 211 #[.val (.ref aa), .val (.int tp), .val (.long rp), .second, .val (.int (tp * (4 : Int32))), .val (.long (gg (4 * kt + 0))), .second, .val (.int (3 : Int32)), .val (.long (gg (4 * kt + 3))), .second, .val (.int ((gg (4 * kt + 3)).toInt32))] [(.int (tp * (4 : Int32))), (.ref bl)]))
  refine Go.step (fun t k => XS.iconst X24.here hx rfl (hb hby d5_211) k) ?_
  show Go _ _ _ _ _ _ _ (T24.setTop (mkF m 212 #[.val (.ref aa), .val (.int tp), .val (.long rp), .second, .val (.int (tp * (4 : Int32))), .val (.long (gg (4 * kt + 0))), .second, .val (.int (3 : Int32)), .val (.long (gg (4 * kt + 3))), .second, .val (.int ((gg (4 * kt + 3)).toInt32))] [(.int (0 : Int32)), (.int (tp * (4 : Int32))), (.ref bl)]))
  refine Go.step (fun t k => XS.iadd X24.here hx rfl (hb hby d5_212) rfl k) ?_
  show Go _ _ _ _ _ _ _ (T24.setTop (mkF m 213 #[.val (.ref aa), .val (.int tp), .val (.long rp), .second, .val (.int (tp * (4 : Int32))), .val (.long (gg (4 * kt + 0))), .second, .val (.int (3 : Int32)), .val (.long (gg (4 * kt + 3))), .second, .val (.int ((gg (4 * kt + 3)).toInt32))] [(.int ((tp * (4 : Int32)) + (0 : Int32))), (.ref bl)]))
  refine Go.step (fun t k => XS.lload X24.here hx rfl (hb hby d5_213) rfl k) ?_
  show Go _ _ _ _ _ _ _ (T24.setTop (mkF m 215 #[.val (.ref aa), .val (.int tp), .val (.long rp), .second, .val (.int (tp * (4 : Int32))), .val (.long (gg (4 * kt + 0))), .second, .val (.int (3 : Int32)), .val (.long (gg (4 * kt + 3))), .second, .val (.int ((gg (4 * kt + 3)).toInt32))] [(.long (gg (4 * kt + 0))), (.int ((tp * (4 : Int32)) + (0 : Int32))), (.ref bl)]))
  refine Go.step (fun t k => XS.lconst X24.here hx rfl (hb hby d5_215) k) ?_
  show Go _ _ _ _ _ _ _ (T24.setTop (mkF m 216 #[.val (.ref aa), .val (.int tp), .val (.long rp), .second, .val (.int (tp * (4 : Int32))), .val (.long (gg (4 * kt + 0))), .second, .val (.int (3 : Int32)), .val (.long (gg (4 * kt + 3))), .second, .val (.int ((gg (4 * kt + 3)).toInt32))] [(.long (1 : Int64)), (.long (gg (4 * kt + 0))), (.int ((tp * (4 : Int32)) + (0 : Int32))), (.ref bl)]))
  refine Go.step (fun t k => XS.ladd X24.here hx rfl (hb hby d5_216) rfl k) ?_
  show Go _ _ _ _ _ _ _ (T24.setTop (mkF m 217 #[.val (.ref aa), .val (.int tp), .val (.long rp), .second, .val (.int (tp * (4 : Int32))), .val (.long (gg (4 * kt + 0))), .second, .val (.int (3 : Int32)), .val (.long (gg (4 * kt + 3))), .second, .val (.int ((gg (4 * kt + 3)).toInt32))] [(.long ((gg (4 * kt + 0)) + (1 : Int64))), (.int ((tp * (4 : Int32)) + (0 : Int32))), (.ref bl)]))
  obtain ⟨T25, h25, X25, e25, W25, st25⟩ := own_stJ X24 hx hZ e24 A_bl (4 * kt + 0) (own_ix htp hkt rfl (by decide)) (by omega) (f := (mkF m 217 #[.val (.ref aa), .val (.int tp), .val (.long rp), .second, .val (.int (tp * (4 : Int32))), .val (.long (gg (4 * kt + 0))), .second, .val (.int (3 : Int32)), .val (.long (gg (4 * kt + 3))), .second, .val (.int ((gg (4 * kt + 3)).toInt32))] [(.long ((gg (4 * kt + 0)) + (1 : Int64))), (.int ((tp * (4 : Int32)) + (0 : Int32))), (.ref bl)])) rfl rfl (hb hby d5_217)
  replace E_aa := E_aa.wr W25
  replace A_br := A_br.other W25 (Ne.symm ne_bl_br)
  replace F_lines_aa := F_lines_aa.other W25 (Or.inl (Ne.symm ne_bl_aa))
  replace F_records_aa := F_records_aa.other W25 (Or.inl (Ne.symm ne_bl_aa))
  replace F_runRecords_aa := F_runRecords_aa.other W25 (Or.inl (Ne.symm ne_bl_aa))
  replace F_runFirsts_aa := F_runFirsts_aa.other W25 (Or.inl (Ne.symm ne_bl_aa))
  replace F_topics_aa := F_topics_aa.other W25 (Or.inl (Ne.symm ne_bl_aa))
  replace F_recordCount_aa := F_recordCount_aa.other W25 (Or.inl (Ne.symm ne_bl_aa))
  replace F_runCount_aa := F_runCount_aa.other W25 (Or.inl (Ne.symm ne_bl_aa))
  replace F_origin_aa := F_origin_aa.other W25 (Or.inl (Ne.symm ne_bl_aa))
  replace A_bq := A_bq.other W25 (Ne.symm ne_bl_bq)
  replace A_bf := A_bf.other W25 (Ne.symm ne_bl_bf)
  have Z25 := Nat.le_trans Z23 (Keep.of_wr W25).1
  have N25 := Fr.snoc X25 N23 g_bl
  have K25 := K23.wr W25 (Or.inl (List.mem_of_getElem? (i := 1) rfl))
  replace A_bl := A_bl.setJ W25
  refine Go.step st25 ?_
  show Go _ _ _ _ _ _ _ (T25.setTop (mkF m 218 #[.val (.ref aa), .val (.int tp), .val (.long rp), .second, .val (.int (tp * (4 : Int32))), .val (.long (gg (4 * kt + 0))), .second, .val (.int (3 : Int32)), .val (.long (gg (4 * kt + 3))), .second, .val (.int ((gg (4 * kt + 3)).toInt32))] []))
  refine Go.step (fun t k => XS.aloadN X25.here hx rfl (hb hby d5_218) rfl rfl k) ?_
  show Go _ _ _ _ _ _ _ (T25.setTop (mkF m 219 #[.val (.ref aa), .val (.int tp), .val (.long rp), .second, .val (.int (tp * (4 : Int32))), .val (.long (gg (4 * kt + 0))), .second, .val (.int (3 : Int32)), .val (.long (gg (4 * kt + 3))), .second, .val (.int ((gg (4 * kt + 3)).toInt32))] [(.ref aa)]))
  obtain ⟨T26, X26, e26, st26⟩ := getF X25 hx hZ hown (host := "") (Or.inl (hw _ (List.mem_of_getElem? (i := 10) rfl))) Via.refl e25 F_lines_aa (g := (mkF m 219 #[.val (.ref aa), .val (.int tp), .val (.long rp), .second, .val (.int (tp * (4 : Int32))), .val (.long (gg (4 * kt + 0))), .second, .val (.int (3 : Int32)), .val (.long (gg (4 * kt + 3))), .second, .val (.int ((gg (4 * kt + 3)).toInt32))] [(.ref aa)])) rfl rfl (hb hby d5_219)
  refine Go.step st26 ?_
  show Go _ _ _ _ _ _ _ (T26.setTop (mkF m 222 #[.val (.ref aa), .val (.int tp), .val (.long rp), .second, .val (.int (tp * (4 : Int32))), .val (.long (gg (4 * kt + 0))), .second, .val (.int (3 : Int32)), .val (.long (gg (4 * kt + 3))), .second, .val (.int ((gg (4 * kt + 3)).toInt32))] [(.ref bl)]))
  refine Go.step (fun t k => XS.iload X26.here hx rfl (hb hby d5_222) rfl k) ?_
  show Go _ _ _ _ _ _ _ (T26.setTop (mkF m 224 #[.val (.ref aa), .val (.int tp), .val (.long rp), .second, .val (.int (tp * (4 : Int32))), .val (.long (gg (4 * kt + 0))), .second, .val (.int (3 : Int32)), .val (.long (gg (4 * kt + 3))), .second, .val (.int ((gg (4 * kt + 3)).toInt32))] [(.int (tp * (4 : Int32))), (.ref bl)]))
  refine Go.step (fun t k => XS.iconst X26.here hx rfl (hb hby d5_224) k) ?_
  show Go _ _ _ _ _ _ _ (T26.setTop (mkF m 225 #[.val (.ref aa), .val (.int tp), .val (.long rp), .second, .val (.int (tp * (4 : Int32))), .val (.long (gg (4 * kt + 0))), .second, .val (.int (3 : Int32)), .val (.long (gg (4 * kt + 3))), .second, .val (.int ((gg (4 * kt + 3)).toInt32))] [(.int (2 : Int32)), (.int (tp * (4 : Int32))), (.ref bl)]))
  refine Go.step (fun t k => XS.iadd X26.here hx rfl (hb hby d5_225) rfl k) ?_
  show Go _ _ _ _ _ _ _ (T26.setTop (mkF m 226 #[.val (.ref aa), .val (.int tp), .val (.long rp), .second, .val (.int (tp * (4 : Int32))), .val (.long (gg (4 * kt + 0))), .second, .val (.int (3 : Int32)), .val (.long (gg (4 * kt + 3))), .second, .val (.int ((gg (4 * kt + 3)).toInt32))] [(.int ((tp * (4 : Int32)) + (2 : Int32))), (.ref bl)]))
  refine Go.step (fun t k => XS.lload X26.here hx rfl (hb hby d5_226) rfl k) ?_
  show Go _ _ _ _ _ _ _ (T26.setTop (mkF m 228 #[.val (.ref aa), .val (.int tp), .val (.long rp), .second, .val (.int (tp * (4 : Int32))), .val (.long (gg (4 * kt + 0))), .second, .val (.int (3 : Int32)), .val (.long (gg (4 * kt + 3))), .second, .val (.int ((gg (4 * kt + 3)).toInt32))] [(.long (gg (4 * kt + 0))), (.int ((tp * (4 : Int32)) + (2 : Int32))), (.ref bl)]))
  refine Go.step (fun t k => XS.lconst X26.here hx rfl (hb hby d5_228) k) ?_
  show Go _ _ _ _ _ _ _ (T26.setTop (mkF m 229 #[.val (.ref aa), .val (.int tp), .val (.long rp), .second, .val (.int (tp * (4 : Int32))), .val (.long (gg (4 * kt + 0))), .second, .val (.int (3 : Int32)), .val (.long (gg (4 * kt + 3))), .second, .val (.int ((gg (4 * kt + 3)).toInt32))] [(.long (1 : Int64)), (.long (gg (4 * kt + 0))), (.int ((tp * (4 : Int32)) + (2 : Int32))), (.ref bl)]))
  refine Go.step (fun t k => XS.ladd X26.here hx rfl (hb hby d5_229) rfl k) ?_
  show Go _ _ _ _ _ _ _ (T26.setTop (mkF m 230 #[.val (.ref aa), .val (.int tp), .val (.long rp), .second, .val (.int (tp * (4 : Int32))), .val (.long (gg (4 * kt + 0))), .second, .val (.int (3 : Int32)), .val (.long (gg (4 * kt + 3))), .second, .val (.int ((gg (4 * kt + 3)).toInt32))] [(.long ((gg (4 * kt + 0)) + (1 : Int64))), (.int ((tp * (4 : Int32)) + (2 : Int32))), (.ref bl)]))
  obtain ⟨T27, h27, X27, e27, W27, st27⟩ := own_stJ X26 hx hZ e26 A_bl (4 * kt + 2) (own_ix htp hkt rfl (by decide)) (by omega) (f := (mkF m 230 #[.val (.ref aa), .val (.int tp), .val (.long rp), .second, .val (.int (tp * (4 : Int32))), .val (.long (gg (4 * kt + 0))), .second, .val (.int (3 : Int32)), .val (.long (gg (4 * kt + 3))), .second, .val (.int ((gg (4 * kt + 3)).toInt32))] [(.long ((gg (4 * kt + 0)) + (1 : Int64))), (.int ((tp * (4 : Int32)) + (2 : Int32))), (.ref bl)])) rfl rfl (hb hby d5_230)
  replace E_aa := E_aa.wr W27
  replace A_br := A_br.other W27 (Ne.symm ne_bl_br)
  replace F_lines_aa := F_lines_aa.other W27 (Or.inl (Ne.symm ne_bl_aa))
  replace F_records_aa := F_records_aa.other W27 (Or.inl (Ne.symm ne_bl_aa))
  replace F_runRecords_aa := F_runRecords_aa.other W27 (Or.inl (Ne.symm ne_bl_aa))
  replace F_runFirsts_aa := F_runFirsts_aa.other W27 (Or.inl (Ne.symm ne_bl_aa))
  replace F_topics_aa := F_topics_aa.other W27 (Or.inl (Ne.symm ne_bl_aa))
  replace F_recordCount_aa := F_recordCount_aa.other W27 (Or.inl (Ne.symm ne_bl_aa))
  replace F_runCount_aa := F_runCount_aa.other W27 (Or.inl (Ne.symm ne_bl_aa))
  replace F_origin_aa := F_origin_aa.other W27 (Or.inl (Ne.symm ne_bl_aa))
  replace A_bq := A_bq.other W27 (Ne.symm ne_bl_bq)
  replace A_bf := A_bf.other W27 (Ne.symm ne_bl_bf)
  have Z27 := Nat.le_trans Z25 (Keep.of_wr W27).1
  have N27 := Fr.snoc X27 N25 g_bl
  have K27 := K25.wr W27 (Or.inl (List.mem_of_getElem? (i := 1) rfl))
  replace A_bl := A_bl.setJ W27
  refine Go.step st27 ?_
  show Go _ _ _ _ _ _ _ (T27.setTop (mkF m 231 #[.val (.ref aa), .val (.int tp), .val (.long rp), .second, .val (.int (tp * (4 : Int32))), .val (.long (gg (4 * kt + 0))), .second, .val (.int (3 : Int32)), .val (.long (gg (4 * kt + 3))), .second, .val (.int ((gg (4 * kt + 3)).toInt32))] []))
  refine Go.retV X27 Bd.notSynchronized hx Bd.returns (hb hby d5_231) (by decide) (by decide) ?_
  rw [e27]
  exact ⟨rfl, N27, K27, F_lines_aa, F_records_aa, F_runRecords_aa, F_runFirsts_aa, F_topics_aa, F_recordCount_aa, F_runCount_aa, F_origin_aa, A_bl, A_br, A_bq, A_bf⟩
theorem d9_0 : decode prog_211_method_17_code 0 = .ok (.iconst 0, 1) := by decide +kernel
theorem d9_1 : decode prog_211_method_17_code 1 = .ok (.istore_n 1, 1) := by decide +kernel
theorem d9_2 : decode prog_211_method_17_code 2 = .ok (.iload_n 1, 1) := by decide +kernel
theorem d9_3 : decode prog_211_method_17_code 3 = .ok (.aload_n 0, 1) := by decide +kernel
theorem d9_4 : decode prog_211_method_17_code 4 = .ok (.getfield 25, 3) := by decide +kernel
theorem d9_7 : decode prog_211_method_17_code 7 = .ok (.if_icmp .ge 25, 3) := by decide +kernel
theorem d9_10 : decode prog_211_method_17_code 10 = .ok (.aload_n 0, 1) := by decide +kernel
theorem d9_11 : decode prog_211_method_17_code 11 = .ok (.getfield 11, 3) := by decide +kernel
theorem d9_14 : decode prog_211_method_17_code 14 = .ok (.iload_n 1, 1) := by decide +kernel
theorem d9_15 : decode prog_211_method_17_code 15 = .ok (.iconst 4, 1) := by decide +kernel
theorem d9_16 : decode prog_211_method_17_code 16 = .ok (.imul, 1) := by decide +kernel
theorem d9_17 : decode prog_211_method_17_code 17 = .ok (.iconst 3, 1) := by decide +kernel
theorem d9_18 : decode prog_211_method_17_code 18 = .ok (.iadd, 1) := by decide +kernel
theorem d9_19 : decode prog_211_method_17_code 19 = .ok (.dup2, 1) := by decide +kernel
theorem d9_20 : decode prog_211_method_17_code 20 = .ok (.laload, 1) := by decide +kernel
theorem d9_21 : decode prog_211_method_17_code 21 = .ok (.ldc2_w 37, 3) := by decide +kernel
theorem d9_24 : decode prog_211_method_17_code 24 = .ok (.lor, 1) := by decide +kernel
theorem d9_25 : decode prog_211_method_17_code 25 = .ok (.lastore, 1) := by decide +kernel
theorem d9_26 : decode prog_211_method_17_code 26 = .ok (.iinc 1 1, 3) := by decide +kernel
theorem d9_29 : decode prog_211_method_17_code 29 = .ok (.goto (-27), 3) := by decide +kernel
theorem d9_32 : decode prog_211_method_17_code 32 = .ok (.aload_n 0, 1) := by decide +kernel
theorem d9_33 : decode prog_211_method_17_code 33 = .ok (.getfield 15, 3) := by decide +kernel
theorem d9_36 : decode prog_211_method_17_code 36 = .ok (.arraylength, 1) := by decide +kernel
theorem d9_37 : decode prog_211_method_17_code 37 = .ok (.sipush 3072, 3) := by decide +kernel
theorem d9_40 : decode prog_211_method_17_code 40 = .ok (.if_icmp .le 12, 3) := by decide +kernel
theorem d9_52 : decode prog_211_method_17_code 52 = .ok (.aload_n 0, 1) := by decide +kernel
theorem d9_53 : decode prog_211_method_17_code 53 = .ok (.iconst 0, 1) := by decide +kernel
theorem d9_54 : decode prog_211_method_17_code 54 = .ok (.putfield 41, 3) := by decide +kernel
theorem d9_57 : decode prog_211_method_17_code 57 = .ok (.aload_n 0, 1) := by decide +kernel
theorem d9_58 : decode prog_211_method_17_code 58 = .ok (.getfield 19, 3) := by decide +kernel
theorem d9_61 : decode prog_211_method_17_code 61 = .ok (.arraylength, 1) := by decide +kernel
theorem d9_62 : decode prog_211_method_17_code 62 = .ok (.bipush 64, 2) := by decide +kernel
theorem d9_64 : decode prog_211_method_17_code 64 = .ok (.if_icmp .le 19, 3) := by decide +kernel
theorem d9_83 : decode prog_211_method_17_code 83 = .ok (.aload_n 0, 1) := by decide +kernel
theorem d9_84 : decode prog_211_method_17_code 84 = .ok (.iconst 0, 1) := by decide +kernel
theorem d9_85 : decode prog_211_method_17_code 85 = .ok (.putfield 64, 3) := by decide +kernel
theorem d9_88 : decode prog_211_method_17_code 88 = .ok (.return_, 1) := by decide +kernel
theorem pn_9 : plainName "com/example/ferrylog/ferrylog/store/LiveIndex" = true := by first | (simp [plainName, overriddenIn]; done) | decide +kernel
theorem ef_9 (m : MethodId) (x0 : Addr) : entryFrame m #[(.ref x0)] 2 = mkF m 0 #[.val (.ref x0), .unset] [] := by first | (simp [entryFrame, mkF, argsToLocals, Value.category]; done) | rfl
def Q9 (Z : State) (aa : Addr) (bl : Addr) (br : Addr) (bq : Addr) (bf : Addr) (rc : Int32) (rn : Int32) (og : Int64) (gg : Nat → Int64) (gr : Nat → Int32) (gq : Nat → Int32) (h0 : Heap) (n0 : Nat) (v : Option Value) (h : Heap) (L : List Loc) : Prop := v = none ∧ Fr n0 L ∧ Keep h0 h [aa, bl] ∧ Fld Z h aa "com/example/ferrylog/ferrylog/store/LiveIndex" "lines" "[J" (.ref bl) ∧ Fld Z h aa "com/example/ferrylog/ferrylog/store/LiveIndex" "records" "[I" (.ref br) ∧ Fld Z h aa "com/example/ferrylog/ferrylog/store/LiveIndex" "runRecords" "[I" (.ref bq) ∧ Fld Z h aa "com/example/ferrylog/ferrylog/store/LiveIndex" "runFirsts" "[J" (.ref bf) ∧ Fld Z h aa "com/example/ferrylog/ferrylog/store/LiveIndex" "topics" "I" (.int (2 : Int32)) ∧ Fld Z h aa "com/example/ferrylog/ferrylog/store/LiveIndex" "recordCount" "I" (.int (0 : Int32)) ∧ Fld Z h aa "com/example/ferrylog/ferrylog/store/LiveIndex" "runCount" "I" (.int (0 : Int32)) ∧ Fld Z h aa "com/example/ferrylog/ferrylog/store/LiveIndex" "origin" "J" (.long og) ∧ AryJ Z h bl 64 (up (up gg 3 ((gg 3) ||| (4294967295 : Int64))) 7 ((gg 7) ||| (4294967295 : Int64)))
set_option maxRecDepth 65536 in
set_option maxHeartbeats 40000000 in
theorem rm9 (l : Launch) (Z : State) (a0 : Array Value) (hw : ∀ d ∈ tables_1, d.before a0 Z = true) (ws : List Jvm.Cond) (aa : Addr) (bl : Addr) (br : Addr) (bq : Addr) (bf : Addr) (rc : Int32) (rn : Int32) (og : Int64) (gg : Nat → Int64) (gr : Nat → Int32) (gq : Nat → Int32) (h0 : Heap) (n0 : Nat) (Z0 : n0 ≤ h0.size) (F_lines_aa : Fld Z h0 aa "com/example/ferrylog/ferrylog/store/LiveIndex" "lines" "[J" (.ref bl)) (F_records_aa : Fld Z h0 aa "com/example/ferrylog/ferrylog/store/LiveIndex" "records" "[I" (.ref br)) (F_runRecords_aa : Fld Z h0 aa "com/example/ferrylog/ferrylog/store/LiveIndex" "runRecords" "[I" (.ref bq)) (F_runFirsts_aa : Fld Z h0 aa "com/example/ferrylog/ferrylog/store/LiveIndex" "runFirsts" "[J" (.ref bf)) (F_topics_aa : Fld Z h0 aa "com/example/ferrylog/ferrylog/store/LiveIndex" "topics" "I" (.int (2 : Int32))) (F_recordCount_aa : Fld Z h0 aa "com/example/ferrylog/ferrylog/store/LiveIndex" "recordCount" "I" (.int rc)) (F_runCount_aa : Fld Z h0 aa "com/example/ferrylog/ferrylog/store/LiveIndex" "runCount" "I" (.int rn)) (F_origin_aa : Fld Z h0 aa "com/example/ferrylog/ferrylog/store/LiveIndex" "origin" "J" (.long og)) (E_aa : Exa Z h0 aa "com/example/ferrylog/ferrylog/store/LiveIndex") (g_aa : n0 ≤ aa) (g_bl : n0 ≤ bl) (A_bl : AryJ Z h0 bl 64 gg) (A_br : AryI Z h0 br .int 3072 gr) (A_bq : AryI Z h0 bq .int 64 gq) (ne_bl_br : bl ≠ br) (ne_bl_bq : bl ≠ bq) (ne_aa_bl : aa ≠ bl) :
    MetFree l (⟨"com/example/ferrylog/ferrylog/store/LiveIndex", "checkpointed", "()V"⟩ : MethodName) (head1 (Jvm.Cond.code (⟨"com/example/ferrylog/ferrylog/store/LiveIndex", "checkpointed", "()V"⟩ : MethodName) prog_211_method_17_code 2 none :: ws) ({ frames := 0, cells := 0, slots := 0, locals := 0 } : Room)) (fun a U => a = #[(.ref aa)] ∧ Z.Warmed39 U.vm ∧ U.heap = h0) (fun _ _ _ _ _ => True) (fun _ U o U' => ∃ v L, o = .returned v ∧ Q9 Z aa bl br bq bf rc rn og gg gr gq h0 n0 v U'.heap L ∧ FrameEnd U o U' L ({ frames := 0, cells := 0, slots := 0, locals := 0 } : Room).cells ({ frames := 0, cells := 0, slots := 0, locals := 0 } : Room).slots) := by
  refine MetFree.of_bodySF (plainFor_of_name pn_9) hisR ?_
  intro p e s m args below meth c s₁ Bd hml0 hP hK
  obtain ⟨rfl, hZ, hh⟩ := hP
  have hx := Bd.exec
  have hby := Bd.bytes
  have hml : c.maxLocals = 2 := hml0
  have hown : s.vm.findClass "com/example/ferrylog/ferrylog/store/LiveIndex" = some m.cls := findClass_of_methodNamed Bd.named
  have hnm := (name_of_methodNamed Bd.named Bd.method).1
  have X0 : Stand p l e ({ frames := 0, cells := 0, slots := 0, locals := 0 } : Room) s m #[(.ref aa)] below meth c s₁ [] 0 0 := Stand.of_body Bd
  have e0 : s₁.heap = h0 := by rw [← hh, Bd.state]; rfl
  have N0 := Fr.nil n0
  have K0 := Keep.refl h0 ([aa, bl] : List Addr)
  show Go p e below s (Q9 Z aa bl br bq bf rc rn og gg gr gq h0 n0) ({ frames := 0, cells := 0, slots := 0, locals := 0 } : Room).cells ({ frames := 0, cells := 0, slots := 0, locals := 0 } : Room).slots (s₁.setTop (entryFrame m #[(.ref aa)] 2))
  rw [ef_9]
  show Go _ _ _ _ _ _ _ (s₁.setTop (mkF m 0 #[.val (.ref aa), .unset] []))
  refine Go.step (fun t k => XS.iconst X0.here hx rfl (hb hby d9_0) k) ?_
  show Go _ _ _ _ _ _ _ (s₁.setTop (mkF m 1 #[.val (.ref aa), .unset] [(.int (0 : Int32))]))
  refine Go.step (fun t k => XS.istoreN X0.here hx rfl (hb hby d9_1) rfl (l' := #[.val (.ref aa), .val (.int (0 : Int32))]) rfl k) ?_
  show Go _ _ _ _ _ _ _ (s₁.setTop (mkF m 2 #[.val (.ref aa), .val (.int (0 : Int32))] []))
  refine Go.step (fun t k => XS.iloadN X0.here hx rfl (hb hby d9_2) rfl k) ?_
  show Go _ _ _ _ _ _ _ (s₁.setTop (mkF m 3 #[.val (.ref aa), .val (.int (0 : Int32))] [(.int (0 : Int32))]))
  refine Go.step (fun t k => XS.aloadN X0.here hx rfl (hb hby d9_3) rfl rfl k) ?_
  show Go _ _ _ _ _ _ _ (s₁.setTop (mkF m 4 #[.val (.ref aa), .val (.int (0 : Int32))] [(.ref aa), (.int (0 : Int32))]))
  obtain ⟨T1, X1, e1, st1⟩ := getF X0 hx hZ hown (host := "") (Or.inl (hw _ (List.mem_of_getElem? (i := 24) rfl))) Via.refl e0 F_topics_aa (g := (mkF m 4 #[.val (.ref aa), .val (.int (0 : Int32))] [(.ref aa), (.int (0 : Int32))])) rfl rfl (hb hby d9_4)
  refine Go.step st1 ?_
  show Go _ _ _ _ _ _ _ (T1.setTop (mkF m 7 #[.val (.ref aa), .val (.int (0 : Int32))] [(.int (2 : Int32)), (.int (0 : Int32))]))
  refine Go.step (fun t k => XS.icmpNo X1.here hx rfl (hb hby d9_7) rfl (tlt (by decide : (0 : Int32) < (2 : Int32))).2.1 k) ?_
  show Go _ _ _ _ _ _ _ (T1.setTop (mkF m 10 #[.val (.ref aa), .val (.int (0 : Int32))] []))
  refine Go.step (fun t k => XS.aloadN X1.here hx rfl (hb hby d9_10) rfl rfl k) ?_
  show Go _ _ _ _ _ _ _ (T1.setTop (mkF m 11 #[.val (.ref aa), .val (.int (0 : Int32))] [(.ref aa)]))
  obtain ⟨T2, X2, e2, st2⟩ := getF X1 hx hZ hown (host := "") (Or.inl (hw _ (List.mem_of_getElem? (i := 10) rfl))) Via.refl e1 F_lines_aa (g := (mkF m 11 #[.val (.ref aa), .val (.int (0 : Int32))] [(.ref aa)])) rfl rfl (hb hby d9_11)
  refine Go.step st2 ?_
  show Go _ _ _ _ _ _ _ (T2.setTop (mkF m 14 #[.val (.ref aa), .val (.int (0 : Int32))] [(.ref bl)]))
  refine Go.step (fun t k => XS.iloadN X2.here hx rfl (hb hby d9_14) rfl k) ?_
  show Go _ _ _ _ _ _ _ (T2.setTop (mkF m 15 #[.val (.ref aa), .val (.int (0 : Int32))] [(.int (0 : Int32)), (.ref bl)]))
  refine Go.step (fun t k => XS.iconst X2.here hx rfl (hb hby d9_15) k) ?_
  show Go _ _ _ _ _ _ _ (T2.setTop (mkF m 16 #[.val (.ref aa), .val (.int (0 : Int32))] [(.int (4 : Int32)), (.int (0 : Int32)), (.ref bl)]))
  refine Go.step (fun t k => XS.imul X2.here hx rfl (hb hby d9_16) rfl k) ?_
  show Go _ _ _ _ _ _ _ (T2.setTop (mkF m 17 #[.val (.ref aa), .val (.int (0 : Int32))] [(.int (0 : Int32)), (.ref bl)]))
  refine Go.step (fun t k => XS.iconst X2.here hx rfl (hb hby d9_17) k) ?_
  show Go _ _ _ _ _ _ _ (T2.setTop (mkF m 18 #[.val (.ref aa), .val (.int (0 : Int32))] [(.int (3 : Int32)), (.int (0 : Int32)), (.ref bl)]))
  refine Go.step (fun t k => XS.iadd X2.here hx rfl (hb hby d9_18) rfl k) ?_
  show Go _ _ _ _ _ _ _ (T2.setTop (mkF m 19 #[.val (.ref aa), .val (.int (0 : Int32))] [(.int (3 : Int32)), (.ref bl)]))
  refine Go.step (fun t k => Jvm.Free.XT.dup2 X2.here hx rfl (hb hby d9_19) rfl rfl rfl k) ?_
  show Go _ _ _ _ _ _ _ (T2.setTop (mkF m 20 #[.val (.ref aa), .val (.int (0 : Int32))] [(.int (3 : Int32)), (.ref bl), (.int (3 : Int32)), (.ref bl)]))
  refine Go.step (own_ld X2 hx hZ e2 A_bl (j := (3 : Int32)) 3 rfl (by decide) (v := (.long (gg 3))) rfl (Or.inr (Or.inl ⟨rfl, rfl⟩)) (f := (mkF m 20 #[.val (.ref aa), .val (.int (0 : Int32))] [(.int (3 : Int32)), (.ref bl), (.int (3 : Int32)), (.ref bl)])) rfl rfl (hb hby d9_20)) ?_
  show Go _ _ _ _ _ _ _ (T2.setTop (mkF m 21 #[.val (.ref aa), .val (.int (0 : Int32))] [(.long (gg 3)), (.int (3 : Int32)), (.ref bl)]))
  refine Go.step (fun t k => X2.ldc2Long hx hown (mvT hZ (hw _ (List.mem_of_getElem? (i := 27) rfl))) (g := (mkF m 21 #[.val (.ref aa), .val (.int (0 : Int32))] [(.long (gg 3)), (.int (3 : Int32)), (.ref bl)])) rfl (hb hby d9_21) _ k) ?_
  show Go _ _ _ _ _ _ _ (T2.setTop (mkF m 24 #[.val (.ref aa), .val (.int (0 : Int32))] [(.long (4294967295 : Int64)), (.long (gg 3)), (.int (3 : Int32)), (.ref bl)]))
  refine Go.step (fun t k => XS.lor X2.here hx rfl (hb hby d9_24) rfl k) ?_
  show Go _ _ _ _ _ _ _ (T2.setTop (mkF m 25 #[.val (.ref aa), .val (.int (0 : Int32))] [(.long ((gg 3) ||| (4294967295 : Int64))), (.int (3 : Int32)), (.ref bl)]))
  obtain ⟨T4, h4, X4, e4, W4, st4⟩ := own_stJ X2 hx hZ e2 A_bl 3 rfl (by decide) (f := (mkF m 25 #[.val (.ref aa), .val (.int (0 : Int32))] [(.long ((gg 3) ||| (4294967295 : Int64))), (.int (3 : Int32)), (.ref bl)])) rfl rfl (hb hby d9_25)
  replace F_lines_aa := F_lines_aa.other W4 (Or.inl ne_aa_bl)
  replace F_records_aa := F_records_aa.other W4 (Or.inl ne_aa_bl)
  replace F_runRecords_aa := F_runRecords_aa.other W4 (Or.inl ne_aa_bl)
  replace F_runFirsts_aa := F_runFirsts_aa.other W4 (Or.inl ne_aa_bl)
  replace F_topics_aa := F_topics_aa.other W4 (Or.inl ne_aa_bl)
  replace F_recordCount_aa := F_recordCount_aa.other W4 (Or.inl ne_aa_bl)
  replace F_runCount_aa := F_runCount_aa.other W4 (Or.inl ne_aa_bl)
  replace F_origin_aa := F_origin_aa.other W4 (Or.inl ne_aa_bl)
  replace E_aa := E_aa.wr W4
  replace A_br := A_br.other W4 (Ne.symm ne_bl_br)
  replace A_bq := A_bq.other W4 (Ne.symm ne_bl_bq)
  have Z4 := Nat.le_trans Z0 (Keep.of_wr W4).1
  have N4 := Fr.snoc X4 N0 g_bl
  have K4 := K0.wr W4 (Or.inl (List.mem_of_getElem? (i := 1) rfl))
  replace A_bl := A_bl.setJ W4
  refine Go.step st4 ?_
  show Go _ _ _ _ _ _ _ (T4.setTop (mkF m 26 #[.val (.ref aa), .val (.int (0 : Int32))] []))
  refine Go.step (fun t k => XS.iinc X4.here hx rfl (hb hby d9_26) rfl (l' := #[.val (.ref aa), .val (.int (1 : Int32))]) rfl k) ?_
  show Go _ _ _ _ _ _ _ (T4.setTop (mkF m 29 #[.val (.ref aa), .val (.int (1 : Int32))] []))
  refine Go.step (fun t k => XS.goto X4.here hx rfl (pc0 := 29) (pc' := 2) rfl (hb hby d9_29) (by decide) (by decide) k) ?_
  show Go _ _ _ _ _ _ _ (T4.setTop (mkF m 2 #[.val (.ref aa), .val (.int (1 : Int32))] []))
  refine Go.step (fun t k => XS.iloadN X4.here hx rfl (hb hby d9_2) rfl k) ?_
  show Go _ _ _ _ _ _ _ (T4.setTop (mkF m 3 #[.val (.ref aa), .val (.int (1 : Int32))] [(.int (1 : Int32))]))
  refine Go.step (fun t k => XS.aloadN X4.here hx rfl (hb hby d9_3) rfl rfl k) ?_
  show Go _ _ _ _ _ _ _ (T4.setTop (mkF m 4 #[.val (.ref aa), .val (.int (1 : Int32))] [(.ref aa), (.int (1 : Int32))]))
  obtain ⟨T5, X5, e5, st5⟩ := getF X4 hx hZ hown (host := "") (Or.inl (hw _ (List.mem_of_getElem? (i := 24) rfl))) Via.refl e4 F_topics_aa (g := (mkF m 4 #[.val (.ref aa), .val (.int (1 : Int32))] [(.ref aa), (.int (1 : Int32))])) rfl rfl (hb hby d9_4)
  refine Go.step st5 ?_
  show Go _ _ _ _ _ _ _ (T5.setTop (mkF m 7 #[.val (.ref aa), .val (.int (1 : Int32))] [(.int (2 : Int32)), (.int (1 : Int32))]))
  refine Go.step (fun t k => XS.icmpNo X5.here hx rfl (hb hby d9_7) rfl (tlt (by decide : (1 : Int32) < (2 : Int32))).2.1 k) ?_
  show Go _ _ _ _ _ _ _ (T5.setTop (mkF m 10 #[.val (.ref aa), .val (.int (1 : Int32))] []))
  refine Go.step (fun t k => XS.aloadN X5.here hx rfl (hb hby d9_10) rfl rfl k) ?_
  show Go _ _ _ _ _ _ _ (T5.setTop (mkF m 11 #[.val (.ref aa), .val (.int (1 : Int32))] [(.ref aa)]))
  obtain ⟨T6, X6, e6, st6⟩ := getF X5 hx hZ hown (host := "") (Or.inl (hw _ (List.mem_of_getElem? (i := 10) rfl))) Via.refl e5 F_lines_aa (g := (mkF m 11 #[.val (.ref aa), .val (.int (1 : Int32))] [(.ref aa)])) rfl rfl (hb hby d9_11)
  refine Go.step st6 ?_
  show Go _ _ _ _ _ _ _ (T6.setTop (mkF m 14 #[.val (.ref aa), .val (.int (1 : Int32))] [(.ref bl)]))
  refine Go.step (fun t k => XS.iloadN X6.here hx rfl (hb hby d9_14) rfl k) ?_
  show Go _ _ _ _ _ _ _ (T6.setTop (mkF m 15 #[.val (.ref aa), .val (.int (1 : Int32))] [(.int (1 : Int32)), (.ref bl)]))
  refine Go.step (fun t k => XS.iconst X6.here hx rfl (hb hby d9_15) k) ?_
  show Go _ _ _ _ _ _ _ (T6.setTop (mkF m 16 #[.val (.ref aa), .val (.int (1 : Int32))] [(.int (4 : Int32)), (.int (1 : Int32)), (.ref bl)]))
  refine Go.step (fun t k => XS.imul X6.here hx rfl (hb hby d9_16) rfl k) ?_
  show Go _ _ _ _ _ _ _ (T6.setTop (mkF m 17 #[.val (.ref aa), .val (.int (1 : Int32))] [(.int (4 : Int32)), (.ref bl)]))
  refine Go.step (fun t k => XS.iconst X6.here hx rfl (hb hby d9_17) k) ?_
  show Go _ _ _ _ _ _ _ (T6.setTop (mkF m 18 #[.val (.ref aa), .val (.int (1 : Int32))] [(.int (3 : Int32)), (.int (4 : Int32)), (.ref bl)]))
  refine Go.step (fun t k => XS.iadd X6.here hx rfl (hb hby d9_18) rfl k) ?_
  show Go _ _ _ _ _ _ _ (T6.setTop (mkF m 19 #[.val (.ref aa), .val (.int (1 : Int32))] [(.int (7 : Int32)), (.ref bl)]))
  refine Go.step (fun t k => Jvm.Free.XT.dup2 X6.here hx rfl (hb hby d9_19) rfl rfl rfl k) ?_
  show Go _ _ _ _ _ _ _ (T6.setTop (mkF m 20 #[.val (.ref aa), .val (.int (1 : Int32))] [(.int (7 : Int32)), (.ref bl), (.int (7 : Int32)), (.ref bl)]))
  refine Go.step (own_ld X6 hx hZ e6 A_bl (j := (7 : Int32)) 7 rfl (by decide) (v := (.long (gg 7))) rfl (Or.inr (Or.inl ⟨rfl, rfl⟩)) (f := (mkF m 20 #[.val (.ref aa), .val (.int (1 : Int32))] [(.int (7 : Int32)), (.ref bl), (.int (7 : Int32)), (.ref bl)])) rfl rfl (hb hby d9_20)) ?_
  show Go _ _ _ _ _ _ _ (T6.setTop (mkF m 21 #[.val (.ref aa), .val (.int (1 : Int32))] [(.long (gg 7)), (.int (7 : Int32)), (.ref bl)]))
  refine Go.step (fun t k => X6.ldc2Long hx hown (mvT hZ (hw _ (List.mem_of_getElem? (i := 27) rfl))) (g := (mkF m 21 #[.val (.ref aa), .val (.int (1 : Int32))] [(.long (gg 7)), (.int (7 : Int32)), (.ref bl)])) rfl (hb hby d9_21) _ k) ?_
  show Go _ _ _ _ _ _ _ (T6.setTop (mkF m 24 #[.val (.ref aa), .val (.int (1 : Int32))] [(.long (4294967295 : Int64)), (.long (gg 7)), (.int (7 : Int32)), (.ref bl)]))
  refine Go.step (fun t k => XS.lor X6.here hx rfl (hb hby d9_24) rfl k) ?_
  show Go _ _ _ _ _ _ _ (T6.setTop (mkF m 25 #[.val (.ref aa), .val (.int (1 : Int32))] [(.long ((gg 7) ||| (4294967295 : Int64))), (.int (7 : Int32)), (.ref bl)]))
  obtain ⟨T8, h8, X8, e8, W8, st8⟩ := own_stJ X6 hx hZ e6 A_bl 7 rfl (by decide) (f := (mkF m 25 #[.val (.ref aa), .val (.int (1 : Int32))] [(.long ((gg 7) ||| (4294967295 : Int64))), (.int (7 : Int32)), (.ref bl)])) rfl rfl (hb hby d9_25)
  replace F_lines_aa := F_lines_aa.other W8 (Or.inl ne_aa_bl)
  replace F_records_aa := F_records_aa.other W8 (Or.inl ne_aa_bl)
  replace F_runRecords_aa := F_runRecords_aa.other W8 (Or.inl ne_aa_bl)
  replace F_runFirsts_aa := F_runFirsts_aa.other W8 (Or.inl ne_aa_bl)
  replace F_topics_aa := F_topics_aa.other W8 (Or.inl ne_aa_bl)
  replace F_recordCount_aa := F_recordCount_aa.other W8 (Or.inl ne_aa_bl)
  replace F_runCount_aa := F_runCount_aa.other W8 (Or.inl ne_aa_bl)
  replace F_origin_aa := F_origin_aa.other W8 (Or.inl ne_aa_bl)
  replace E_aa := E_aa.wr W8
  replace A_br := A_br.other W8 (Ne.symm ne_bl_br)
  replace A_bq := A_bq.other W8 (Ne.symm ne_bl_bq)
  have Z8 := Nat.le_trans Z4 (Keep.of_wr W8).1
  have N8 := Fr.snoc X8 N4 g_bl
  have K8 := K4.wr W8 (Or.inl (List.mem_of_getElem? (i := 1) rfl))
  replace A_bl := A_bl.setJ W8
  refine Go.step st8 ?_
  show Go _ _ _ _ _ _ _ (T8.setTop (mkF m 26 #[.val (.ref aa), .val (.int (1 : Int32))] []))
  refine Go.step (fun t k => XS.iinc X8.here hx rfl (hb hby d9_26) rfl (l' := #[.val (.ref aa), .val (.int (2 : Int32))]) rfl k) ?_
  show Go _ _ _ _ _ _ _ (T8.setTop (mkF m 29 #[.val (.ref aa), .val (.int (2 : Int32))] []))
  refine Go.step (fun t k => XS.goto X8.here hx rfl (pc0 := 29) (pc' := 2) rfl (hb hby d9_29) (by decide) (by decide) k) ?_
  show Go _ _ _ _ _ _ _ (T8.setTop (mkF m 2 #[.val (.ref aa), .val (.int (2 : Int32))] []))
  refine Go.step (fun t k => XS.iloadN X8.here hx rfl (hb hby d9_2) rfl k) ?_
  show Go _ _ _ _ _ _ _ (T8.setTop (mkF m 3 #[.val (.ref aa), .val (.int (2 : Int32))] [(.int (2 : Int32))]))
  refine Go.step (fun t k => XS.aloadN X8.here hx rfl (hb hby d9_3) rfl rfl k) ?_
  show Go _ _ _ _ _ _ _ (T8.setTop (mkF m 4 #[.val (.ref aa), .val (.int (2 : Int32))] [(.ref aa), (.int (2 : Int32))]))
  obtain ⟨T9, X9, e9, st9⟩ := getF X8 hx hZ hown (host := "") (Or.inl (hw _ (List.mem_of_getElem? (i := 24) rfl))) Via.refl e8 F_topics_aa (g := (mkF m 4 #[.val (.ref aa), .val (.int (2 : Int32))] [(.ref aa), (.int (2 : Int32))])) rfl rfl (hb hby d9_4)
  refine Go.step st9 ?_
  show Go _ _ _ _ _ _ _ (T9.setTop (mkF m 7 #[.val (.ref aa), .val (.int (2 : Int32))] [(.int (2 : Int32)), (.int (2 : Int32))]))
  refine Go.step (fun t k => XS.icmpYes X9.here hx rfl (pc0 := 7) (pc' := 32) rfl (hb hby d9_7) rfl (flt (by decide : ¬ (2 : Int32) < (2 : Int32))).2.1 (by decide) (by decide) k) ?_
  show Go _ _ _ _ _ _ _ (T9.setTop (mkF m 32 #[.val (.ref aa), .val (.int (2 : Int32))] []))
  refine Go.step (fun t k => XS.aloadN X9.here hx rfl (hb hby d9_32) rfl rfl k) ?_
  show Go _ _ _ _ _ _ _ (T9.setTop (mkF m 33 #[.val (.ref aa), .val (.int (2 : Int32))] [(.ref aa)]))
  obtain ⟨T10, X10, e10, st10⟩ := getF X9 hx hZ hown (host := "") (Or.inl (hw _ (List.mem_of_getElem? (i := 13) rfl))) Via.refl e9 F_records_aa (g := (mkF m 33 #[.val (.ref aa), .val (.int (2 : Int32))] [(.ref aa)])) rfl rfl (hb hby d9_33)
  refine Go.step st10 ?_
  show Go _ _ _ _ _ _ _ (T10.setTop (mkF m 36 #[.val (.ref aa), .val (.int (2 : Int32))] [(.ref br)]))
  refine Go.step (own_len X10 hx hZ e10 A_br (z := (3072 : Int32)) rfl (f := (mkF m 36 #[.val (.ref aa), .val (.int (2 : Int32))] [(.ref br)])) rfl rfl (hb hby d9_36)) ?_
  show Go _ _ _ _ _ _ _ (T10.setTop (mkF m 37 #[.val (.ref aa), .val (.int (2 : Int32))] [(.int (3072 : Int32))]))
  refine Go.step (fun t k => XS.sipush X10.here hx rfl (hb hby d9_37) k) ?_
  show Go _ _ _ _ _ _ _ (T10.setTop (mkF m 40 #[.val (.ref aa), .val (.int (2 : Int32))] [(.int (3072 : Int32)), (.int (3072 : Int32))]))
  refine Go.step (fun t k => XS.icmpYes X10.here hx rfl (pc0 := 40) (pc' := 52) rfl (hb hby d9_40) rfl (flt (by decide : ¬ (3072 : Int32) < (3072 : Int32))).2.2.2 (by decide) (by decide) k) ?_
  show Go _ _ _ _ _ _ _ (T10.setTop (mkF m 52 #[.val (.ref aa), .val (.int (2 : Int32))] []))
  refine Go.step (fun t k => XS.aloadN X10.here hx rfl (hb hby d9_52) rfl rfl k) ?_
  show Go _ _ _ _ _ _ _ (T10.setTop (mkF m 53 #[.val (.ref aa), .val (.int (2 : Int32))] [(.ref aa)]))
  refine Go.step (fun t k => XS.iconst X10.here hx rfl (hb hby d9_53) k) ?_
  show Go _ _ _ _ _ _ _ (T10.setTop (mkF m 54 #[.val (.ref aa), .val (.int (2 : Int32))] [(.int (0 : Int32)), (.ref aa)]))
  obtain ⟨T12, h12, X12, e12, W12, st12⟩ := putF X10 hx hZ hown (host := "") (Or.inl (hw _ (List.mem_of_getElem? (i := 38) rfl))) Via.refl e10 F_recordCount_aa E_aa (Or.inl (hw _ (List.mem_of_getElem? (i := 39) rfl))) (hw _ (List.mem_of_getElem? (i := 1) rfl)) (ty := .int) (by decide) rfl rfl (g := (mkF m 54 #[.val (.ref aa), .val (.int (2 : Int32))] [(.int (0 : Int32)), (.ref aa)])) rfl rfl (hb hby d9_54)
  have ne_br_aa : br ≠ aa := (Ne.symm (own_neA E_aa (hw _ (List.mem_of_getElem? (i := 1) rfl)) A_br))
  have ne_bq_aa : bq ≠ aa := (Ne.symm (own_neA E_aa (hw _ (List.mem_of_getElem? (i := 1) rfl)) A_bq))
  replace F_lines_aa := F_lines_aa.other W12 (Or.inr (slot_ne (Or.inl (hw _ (List.mem_of_getElem? (i := 11) rfl))) (Or.inl (hw _ (List.mem_of_getElem? (i := 39) rfl))) (by decide) (t := (.array .long)) (t' := .int) (by decide) (by decide)))
  replace F_records_aa := F_records_aa.other W12 (Or.inr (slot_ne (Or.inl (hw _ (List.mem_of_getElem? (i := 14) rfl))) (Or.inl (hw _ (List.mem_of_getElem? (i := 39) rfl))) (by decide) (t := (.array .int)) (t' := .int) (by decide) (by decide)))
  replace F_runRecords_aa := F_runRecords_aa.other W12 (Or.inr (slot_ne (Or.inl (hw _ (List.mem_of_getElem? (i := 16) rfl))) (Or.inl (hw _ (List.mem_of_getElem? (i := 39) rfl))) (by decide) (t := (.array .int)) (t' := .int) (by decide) (by decide)))
  replace F_runFirsts_aa := F_runFirsts_aa.other W12 (Or.inr (slot_ne (Or.inl (hw _ (List.mem_of_getElem? (i := 18) rfl))) (Or.inl (hw _ (List.mem_of_getElem? (i := 39) rfl))) (by decide) (t := (.array .long)) (t' := .int) (by decide) (by decide)))
  replace F_topics_aa := F_topics_aa.other W12 (Or.inr (slot_ne (Or.inl (hw _ (List.mem_of_getElem? (i := 25) rfl))) (Or.inl (hw _ (List.mem_of_getElem? (i := 39) rfl))) (by decide) (t := .int) (t' := .int) (by decide) (by decide)))
  replace F_runCount_aa := F_runCount_aa.other W12 (Or.inr (slot_ne (Or.inl (hw _ (List.mem_of_getElem? (i := 52) rfl))) (Or.inl (hw _ (List.mem_of_getElem? (i := 39) rfl))) (by decide) (t := .int) (t' := .int) (by decide) (by decide)))
  replace F_origin_aa := F_origin_aa.other W12 (Or.inr (slot_ne (Or.inl (hw _ (List.mem_of_getElem? (i := 41) rfl))) (Or.inl (hw _ (List.mem_of_getElem? (i := 39) rfl))) (by decide) (t := .long) (t' := .int) (by decide) (by decide)))
  replace E_aa := E_aa.wr W12
  replace A_bl := A_bl.other W12 (Ne.symm ne_aa_bl)
  replace A_br := A_br.other W12 ne_br_aa
  replace A_bq := A_bq.other W12 ne_bq_aa
  have Z12 := Nat.le_trans Z8 (Keep.of_wr W12).1
  have N12 := Fr.snoc X12 N8 g_aa
  have K12 := K8.wr W12 (Or.inl (List.mem_of_getElem? (i := 0) rfl))
  replace F_recordCount_aa := F_recordCount_aa.same W12
  refine Go.step st12 ?_
  show Go _ _ _ _ _ _ _ (T12.setTop (mkF m 57 #[.val (.ref aa), .val (.int (2 : Int32))] []))
  refine Go.step (fun t k => XS.aloadN X12.here hx rfl (hb hby d9_57) rfl rfl k) ?_
  show Go _ _ _ _ _ _ _ (T12.setTop (mkF m 58 #[.val (.ref aa), .val (.int (2 : Int32))] [(.ref aa)]))
  obtain ⟨T13, X13, e13, st13⟩ := getF X12 hx hZ hown (host := "") (Or.inl (hw _ (List.mem_of_getElem? (i := 15) rfl))) Via.refl e12 F_runRecords_aa (g := (mkF m 58 #[.val (.ref aa), .val (.int (2 : Int32))] [(.ref aa)])) rfl rfl (hb hby d9_58)
  refine Go.step st13 ?_
  show Go _ _ _ _ _ _ _ (T13.setTop (mkF m 61 #[.val (.ref aa), .val (.int (2 : Int32))] [(.ref bq)]))
  refine Go.step (own_len X13 hx hZ e13 A_bq (z := (64 : Int32)) rfl (f := (mkF m 61 #[.val (.ref aa), .val (.int (2 : Int32))] [(.ref bq)])) rfl rfl (hb hby d9_61)) ?_
  show Go _ _ _ _ _ _ _ (T13.setTop (mkF m 62 #[.val (.ref aa), .val (.int (2 : Int32))] [(.int (64 : Int32))]))
  refine Go.step (fun t k => XS.bipush X13.here hx rfl (hb hby d9_62) k) ?_
  show Go _ _ _ _ _ _ _ (T13.setTop (mkF m 64 #[.val (.ref aa), .val (.int (2 : Int32))] [(.int (64 : Int32)), (.int (64 : Int32))]))
  refine Go.step (fun t k => XS.icmpYes X13.here hx rfl (pc0 := 64) (pc' := 83) rfl (hb hby d9_64) rfl (flt (by decide : ¬ (64 : Int32) < (64 : Int32))).2.2.2 (by decide) (by decide) k) ?_
  show Go _ _ _ _ _ _ _ (T13.setTop (mkF m 83 #[.val (.ref aa), .val (.int (2 : Int32))] []))
  refine Go.step (fun t k => XS.aloadN X13.here hx rfl (hb hby d9_83) rfl rfl k) ?_
  show Go _ _ _ _ _ _ _ (T13.setTop (mkF m 84 #[.val (.ref aa), .val (.int (2 : Int32))] [(.ref aa)]))
  refine Go.step (fun t k => XS.iconst X13.here hx rfl (hb hby d9_84) k) ?_
  show Go _ _ _ _ _ _ _ (T13.setTop (mkF m 85 #[.val (.ref aa), .val (.int (2 : Int32))] [(.int (0 : Int32)), (.ref aa)]))
  obtain ⟨T15, h15, X15, e15, W15, st15⟩ := putF X13 hx hZ hown (host := "") (Or.inl (hw _ (List.mem_of_getElem? (i := 51) rfl))) Via.refl e13 F_runCount_aa E_aa (Or.inl (hw _ (List.mem_of_getElem? (i := 52) rfl))) (hw _ (List.mem_of_getElem? (i := 1) rfl)) (ty := .int) (by decide) rfl rfl (g := (mkF m 85 #[.val (.ref aa), .val (.int (2 : Int32))] [(.int (0 : Int32)), (.ref aa)])) rfl rfl (hb hby d9_85)
  replace F_lines_aa := F_lines_aa.other W15 (Or.inr (slot_ne (Or.inl (hw _ (List.mem_of_getElem? (i := 11) rfl))) (Or.inl (hw _ (List.mem_of_getElem? (i := 52) rfl))) (by decide) (t := (.array .long)) (t' := .int) (by decide) (by decide)))
  replace F_records_aa := F_records_aa.other W15 (Or.inr (slot_ne (Or.inl (hw _ (List.mem_of_getElem? (i := 14) rfl))) (Or.inl (hw _ (List.mem_of_getElem? (i := 52) rfl))) (by decide) (t := (.array .int)) (t' := .int) (by decide) (by decide)))
  replace F_runRecords_aa := F_runRecords_aa.other W15 (Or.inr (slot_ne (Or.inl (hw _ (List.mem_of_getElem? (i := 16) rfl))) (Or.inl (hw _ (List.mem_of_getElem? (i := 52) rfl))) (by decide) (t := (.array .int)) (t' := .int) (by decide) (by decide)))
  replace F_runFirsts_aa := F_runFirsts_aa.other W15 (Or.inr (slot_ne (Or.inl (hw _ (List.mem_of_getElem? (i := 18) rfl))) (Or.inl (hw _ (List.mem_of_getElem? (i := 52) rfl))) (by decide) (t := (.array .long)) (t' := .int) (by decide) (by decide)))
  replace F_topics_aa := F_topics_aa.other W15 (Or.inr (slot_ne (Or.inl (hw _ (List.mem_of_getElem? (i := 25) rfl))) (Or.inl (hw _ (List.mem_of_getElem? (i := 52) rfl))) (by decide) (t := .int) (t' := .int) (by decide) (by decide)))
  replace F_recordCount_aa := F_recordCount_aa.other W15 (Or.inr (slot_ne (Or.inl (hw _ (List.mem_of_getElem? (i := 39) rfl))) (Or.inl (hw _ (List.mem_of_getElem? (i := 52) rfl))) (by decide) (t := .int) (t' := .int) (by decide) (by decide)))
  replace F_origin_aa := F_origin_aa.other W15 (Or.inr (slot_ne (Or.inl (hw _ (List.mem_of_getElem? (i := 41) rfl))) (Or.inl (hw _ (List.mem_of_getElem? (i := 52) rfl))) (by decide) (t := .long) (t' := .int) (by decide) (by decide)))
  replace E_aa := E_aa.wr W15
  replace A_bl := A_bl.other W15 (Ne.symm ne_aa_bl)
  replace A_br := A_br.other W15 ne_br_aa
  replace A_bq := A_bq.other W15 ne_bq_aa
  have Z15 := Nat.le_trans Z12 (Keep.of_wr W15).1
  have N15 := Fr.snoc X15 N12 g_aa
  have K15 := K12.wr W15 (Or.inl (List.mem_of_getElem? (i := 0) rfl))
  replace F_runCount_aa := F_runCount_aa.same W15
  refine Go.step st15 ?_
  show Go _ _ _ _ _ _ _ (T15.setTop (mkF m 88 #[.val (.ref aa), .val (.int (2 : Int32))] []))
  refine Go.retV X15 Bd.notSynchronized hx Bd.returns (hb hby d9_88) (by decide) (by decide) ?_
  rw [e15]
  exact ⟨rfl, N15, K15, F_lines_aa, F_records_aa, F_runRecords_aa, F_runFirsts_aa, F_topics_aa, F_recordCount_aa, F_runCount_aa, F_origin_aa, A_bl⟩
theorem d11_0 : decode prog_211_method_12_code 0 = .ok (.aload_n 0, 1) := by decide +kernel
theorem d11_1 : decode prog_211_method_12_code 1 = .ok (.getfield 15, 3) := by decide +kernel
theorem d11_4 : decode prog_211_method_12_code 4 = .ok (.iload_n 1, 1) := by decide +kernel
theorem d11_5 : decode prog_211_method_12_code 5 = .ok (.iconst 3, 1) := by decide +kernel
theorem d11_6 : decode prog_211_method_12_code 6 = .ok (.imul, 1) := by decide +kernel
theorem d11_7 : decode prog_211_method_12_code 7 = .ok (.iconst 2, 1) := by decide +kernel
theorem d11_8 : decode prog_211_method_12_code 8 = .ok (.iadd, 1) := by decide +kernel
theorem d11_9 : decode prog_211_method_12_code 9 = .ok (.iaload, 1) := by decide +kernel
theorem d11_10 : decode prog_211_method_12_code 10 = .ok (.ireturn, 1) := by decide +kernel
theorem pn_11 : plainName "com/example/ferrylog/ferrylog/store/LiveIndex" = true := by first | (simp [plainName, overriddenIn]; done) | decide +kernel
theorem ef_11 (m : MethodId) (x0 : Addr) : entryFrame m #[(.ref x0), (.int (0 : Int32))] 2 = mkF m 0 #[.val (.ref x0), .val (.int (0 : Int32))] [] := by first | (simp [entryFrame, mkF, argsToLocals, Value.category]; done) | rfl
def Q11 (Z : State) (aa : Addr) (br : Addr) (gr : Nat → Int32) (h0 : Heap) (n0 : Nat) (v : Option Value) (h : Heap) (L : List Loc) : Prop := v = some (.int (gr 2)) ∧ Fr n0 L ∧ h = h0
set_option maxRecDepth 65536 in
set_option maxHeartbeats 40000000 in
theorem rm11 (l : Launch) (Z : State) (a0 : Array Value) (hw : ∀ d ∈ tables_1, d.before a0 Z = true) (ws : List Jvm.Cond) (aa : Addr) (br : Addr) (gr : Nat → Int32) (h0 : Heap) (n0 : Nat) (Z0 : n0 ≤ h0.size) (F_records_aa : Fld Z h0 aa "com/example/ferrylog/ferrylog/store/LiveIndex" "records" "[I" (.ref br)) (A_br : AryI Z h0 br .int 3072 gr) :
    MetFree l (⟨"com/example/ferrylog/ferrylog/store/LiveIndex", "before", "(I)I"⟩ : MethodName) (head1 (Jvm.Cond.code (⟨"com/example/ferrylog/ferrylog/store/LiveIndex", "before", "(I)I"⟩ : MethodName) prog_211_method_12_code 2 (some .int) :: ws) ({ frames := 0, cells := 0, slots := 0, locals := 0 } : Room)) (fun a U => a = #[(.ref aa), (.int (0 : Int32))] ∧ Z.Warmed39 U.vm ∧ U.heap = h0) (fun _ _ _ _ _ => True) (fun _ U o U' => ∃ v L, o = .returned v ∧ Q11 Z aa br gr h0 n0 v U'.heap L ∧ FrameEnd U o U' L ({ frames := 0, cells := 0, slots := 0, locals := 0 } : Room).cells ({ frames := 0, cells := 0, slots := 0, locals := 0 } : Room).slots) := by
  refine MetFree.of_bodySF (plainFor_of_name pn_11) hisR ?_
  intro p e s m args below meth c s₁ Bd hml0 hP hK
  obtain ⟨rfl, hZ, hh⟩ := hP
  have hx := Bd.exec
  have hby := Bd.bytes
  have hml : c.maxLocals = 2 := hml0
  have hown : s.vm.findClass "com/example/ferrylog/ferrylog/store/LiveIndex" = some m.cls := findClass_of_methodNamed Bd.named
  have hnm := (name_of_methodNamed Bd.named Bd.method).1
  have X0 : Stand p l e ({ frames := 0, cells := 0, slots := 0, locals := 0 } : Room) s m #[(.ref aa), (.int (0 : Int32))] below meth c s₁ [] 0 0 := Stand.of_body Bd
  have e0 : s₁.heap = h0 := by rw [← hh, Bd.state]; rfl
  have N0 := Fr.nil n0
  show Go p e below s (Q11 Z aa br gr h0 n0) ({ frames := 0, cells := 0, slots := 0, locals := 0 } : Room).cells ({ frames := 0, cells := 0, slots := 0, locals := 0 } : Room).slots (s₁.setTop (entryFrame m #[(.ref aa), (.int (0 : Int32))] 2))
  rw [ef_11]
  show Go _ _ _ _ _ _ _ (s₁.setTop (mkF m 0 #[.val (.ref aa), .val (.int (0 : Int32))] []))
  refine Go.step (fun t k => XS.aloadN X0.here hx rfl (hb hby d11_0) rfl rfl k) ?_
  show Go _ _ _ _ _ _ _ (s₁.setTop (mkF m 1 #[.val (.ref aa), .val (.int (0 : Int32))] [(.ref aa)]))
  obtain ⟨T1, X1, e1, st1⟩ := getF X0 hx hZ hown (host := "") (Or.inl (hw _ (List.mem_of_getElem? (i := 13) rfl))) Via.refl e0 F_records_aa (g := (mkF m 1 #[.val (.ref aa), .val (.int (0 : Int32))] [(.ref aa)])) rfl rfl (hb hby d11_1)
  refine Go.step st1 ?_
  show Go _ _ _ _ _ _ _ (T1.setTop (mkF m 4 #[.val (.ref aa), .val (.int (0 : Int32))] [(.ref br)]))
  refine Go.step (fun t k => XS.iloadN X1.here hx rfl (hb hby d11_4) rfl k) ?_
  show Go _ _ _ _ _ _ _ (T1.setTop (mkF m 5 #[.val (.ref aa), .val (.int (0 : Int32))] [(.int (0 : Int32)), (.ref br)]))
  refine Go.step (fun t k => XS.iconst X1.here hx rfl (hb hby d11_5) k) ?_
  show Go _ _ _ _ _ _ _ (T1.setTop (mkF m 6 #[.val (.ref aa), .val (.int (0 : Int32))] [(.int (3 : Int32)), (.int (0 : Int32)), (.ref br)]))
  refine Go.step (fun t k => XS.imul X1.here hx rfl (hb hby d11_6) rfl k) ?_
  show Go _ _ _ _ _ _ _ (T1.setTop (mkF m 7 #[.val (.ref aa), .val (.int (0 : Int32))] [(.int (0 : Int32)), (.ref br)]))
  refine Go.step (fun t k => XS.iconst X1.here hx rfl (hb hby d11_7) k) ?_
  show Go _ _ _ _ _ _ _ (T1.setTop (mkF m 8 #[.val (.ref aa), .val (.int (0 : Int32))] [(.int (2 : Int32)), (.int (0 : Int32)), (.ref br)]))
  refine Go.step (fun t k => XS.iadd X1.here hx rfl (hb hby d11_8) rfl k) ?_
  show Go _ _ _ _ _ _ _ (T1.setTop (mkF m 9 #[.val (.ref aa), .val (.int (0 : Int32))] [(.int (2 : Int32)), (.ref br)]))
  refine Go.step (own_ld X1 hx hZ e1 A_br (j := (2 : Int32)) 2 rfl (by decide) (v := (.int (gr 2))) rfl (Or.inl ⟨rfl, rfl⟩) (f := (mkF m 9 #[.val (.ref aa), .val (.int (0 : Int32))] [(.int (2 : Int32)), (.ref br)])) rfl rfl (hb hby d11_9)) ?_
  show Go _ _ _ _ _ _ _ (T1.setTop (mkF m 10 #[.val (.ref aa), .val (.int (0 : Int32))] [(.int (gr 2))]))
  refine Go.retI X1 Bd.notSynchronized hx Bd.returns (hb hby d11_10) (by decide) (by decide) ?_
  rw [e1]
  exact ⟨rfl, N0, rfl⟩
theorem d14_0 : decode jdk_65_method_30_code 0 = .ok (.iload_n 1, 1) := by decide +kernel
theorem d14_1 : decode jdk_65_method_30_code 1 = .ok (.iload_n 2, 1) := by decide +kernel
theorem d14_2 : decode jdk_65_method_30_code 2 = .ok (.if_icmp .le 44, 3) := by decide +kernel
theorem d14_46 : decode jdk_65_method_30_code 46 = .ok (.iload_n 1, 1) := by decide +kernel
theorem d14_47 : decode jdk_65_method_30_code 47 = .ok (.ifCond .ge 12, 3) := by decide +kernel
theorem d14_59 : decode jdk_65_method_30_code 59 = .ok (.iload_n 2, 1) := by decide +kernel
theorem d14_60 : decode jdk_65_method_30_code 60 = .ok (.iload_n 0, 1) := by decide +kernel
theorem d14_61 : decode jdk_65_method_30_code 61 = .ok (.if_icmp .le 12, 3) := by decide +kernel
theorem d14_73 : decode jdk_65_method_30_code 73 = .ok (.return_, 1) := by decide +kernel
theorem pn_14 : plainName "java/util/Arrays" = true := by first | (simp [plainName, overriddenIn]; done) | decide +kernel
theorem ef_14 (m : MethodId) : entryFrame m #[(.int (64 : Int32)), (.int (0 : Int32)), (.int (1 : Int32))] 3 = mkF m 0 #[.val (.int (64 : Int32)), .val (.int (0 : Int32)), .val (.int (1 : Int32))] [] := by first | (simp [entryFrame, mkF, argsToLocals, Value.category]; done) | rfl
def Q14 (Z : State) (h0 : Heap) (n0 : Nat) (v : Option Value) (h : Heap) (L : List Loc) : Prop := v = none ∧ Fr n0 L ∧ h = h0
set_option maxRecDepth 65536 in
set_option maxHeartbeats 40000000 in
theorem rm14 (l : Launch) (Z : State) (a0 : Array Value) (hw : ∀ d ∈ tables_1, d.before a0 Z = true) (ws : List Jvm.Cond) (h0 : Heap) (n0 : Nat) (Z0 : n0 ≤ h0.size) :
    MetFree l (⟨"java/util/Arrays", "rangeCheck", "(III)V"⟩ : MethodName) (head1 (Jvm.Cond.code (⟨"java/util/Arrays", "rangeCheck", "(III)V"⟩ : MethodName) jdk_65_method_30_code 3 none :: ws) ({ frames := 0, cells := 0, slots := 0, locals := 0 } : Room)) (fun a U => a = #[(.int (64 : Int32)), (.int (0 : Int32)), (.int (1 : Int32))] ∧ Z.Warmed39 U.vm ∧ U.heap = h0) (fun _ _ _ _ _ => True) (fun _ U o U' => ∃ v L, o = .returned v ∧ Q14 Z h0 n0 v U'.heap L ∧ FrameEnd U o U' L ({ frames := 0, cells := 0, slots := 0, locals := 0 } : Room).cells ({ frames := 0, cells := 0, slots := 0, locals := 0 } : Room).slots) := by
  refine MetFree.of_bodySF (plainFor_of_name pn_14) hisR ?_
  intro p e s m args below meth c s₁ Bd hml0 hP hK
  obtain ⟨rfl, hZ, hh⟩ := hP
  have hx := Bd.exec
  have hby := Bd.bytes
  have hml : c.maxLocals = 3 := hml0
  have hown : s.vm.findClass "java/util/Arrays" = some m.cls := findClass_of_methodNamed Bd.named
  have hnm := (name_of_methodNamed Bd.named Bd.method).1
  have X0 : Stand p l e ({ frames := 0, cells := 0, slots := 0, locals := 0 } : Room) s m #[(.int (64 : Int32)), (.int (0 : Int32)), (.int (1 : Int32))] below meth c s₁ [] 0 0 := Stand.of_body Bd
  have e0 : s₁.heap = h0 := by rw [← hh, Bd.state]; rfl
  have N0 := Fr.nil n0
  show Go p e below s (Q14 Z h0 n0) ({ frames := 0, cells := 0, slots := 0, locals := 0 } : Room).cells ({ frames := 0, cells := 0, slots := 0, locals := 0 } : Room).slots (s₁.setTop (entryFrame m #[(.int (64 : Int32)), (.int (0 : Int32)), (.int (1 : Int32))] 3))
  rw [ef_14]
  show Go _ _ _ _ _ _ _ (s₁.setTop (mkF m 0 #[.val (.int (64 : Int32)), .val (.int (0 : Int32)), .val (.int (1 : Int32))] []))
  refine Go.step (fun t k => XS.iloadN X0.here hx rfl (hb hby d14_0) rfl k) ?_
  show Go _ _ _ _ _ _ _ (s₁.setTop (mkF m 1 #[.val (.int (64 : Int32)), .val (.int (0 : Int32)), .val (.int (1 : Int32))] [(.int (0 : Int32))]))
  refine Go.step (fun t k => XS.iloadN X0.here hx rfl (hb hby d14_1) rfl k) ?_
  show Go _ _ _ _ _ _ _ (s₁.setTop (mkF m 2 #[.val (.int (64 : Int32)), .val (.int (0 : Int32)), .val (.int (1 : Int32))] [(.int (1 : Int32)), (.int (0 : Int32))]))
  refine Go.step (fun t k => XS.icmpYes X0.here hx rfl (pc0 := 2) (pc' := 46) rfl (hb hby d14_2) rfl (flt (by decide : ¬ (1 : Int32) < (0 : Int32))).2.2.2 (by decide) (by decide) k) ?_
  show Go _ _ _ _ _ _ _ (s₁.setTop (mkF m 46 #[.val (.int (64 : Int32)), .val (.int (0 : Int32)), .val (.int (1 : Int32))] []))
  refine Go.step (fun t k => XS.iloadN X0.here hx rfl (hb hby d14_46) rfl k) ?_
  show Go _ _ _ _ _ _ _ (s₁.setTop (mkF m 47 #[.val (.int (64 : Int32)), .val (.int (0 : Int32)), .val (.int (1 : Int32))] [(.int (0 : Int32))]))
  refine Go.step (fun t k => XS.ifYes X0.here hx rfl (pc0 := 47) (pc' := 59) rfl (hb hby d14_47) rfl ((if0 _ _).trans (flt (by decide : ¬ (0 : Int32) < (0 : Int32))).2.1) (by decide) (by decide) k) ?_
  show Go _ _ _ _ _ _ _ (s₁.setTop (mkF m 59 #[.val (.int (64 : Int32)), .val (.int (0 : Int32)), .val (.int (1 : Int32))] []))
  refine Go.step (fun t k => XS.iloadN X0.here hx rfl (hb hby d14_59) rfl k) ?_
  show Go _ _ _ _ _ _ _ (s₁.setTop (mkF m 60 #[.val (.int (64 : Int32)), .val (.int (0 : Int32)), .val (.int (1 : Int32))] [(.int (1 : Int32))]))
  refine Go.step (fun t k => XS.iloadN X0.here hx rfl (hb hby d14_60) rfl k) ?_
  show Go _ _ _ _ _ _ _ (s₁.setTop (mkF m 61 #[.val (.int (64 : Int32)), .val (.int (0 : Int32)), .val (.int (1 : Int32))] [(.int (64 : Int32)), (.int (1 : Int32))]))
  refine Go.step (fun t k => XS.icmpYes X0.here hx rfl (pc0 := 61) (pc' := 73) rfl (hb hby d14_61) rfl (flt (by decide : ¬ (64 : Int32) < (1 : Int32))).2.2.2 (by decide) (by decide) k) ?_
  show Go _ _ _ _ _ _ _ (s₁.setTop (mkF m 73 #[.val (.int (64 : Int32)), .val (.int (0 : Int32)), .val (.int (1 : Int32))] []))
  refine Go.retV X0 Bd.notSynchronized hx Bd.returns (hb hby d14_73) (by decide) (by decide) ?_
  rw [e0]
  exact ⟨rfl, N0, rfl⟩
theorem d15_0 : decode jdk_65_method_59_code 0 = .ok (.iload_n 1, 1) := by decide +kernel
theorem d15_1 : decode jdk_65_method_59_code 1 = .ok (.istore 4, 2) := by decide +kernel
theorem d15_3 : decode jdk_65_method_59_code 3 = .ok (.iload_n 2, 1) := by decide +kernel
theorem d15_4 : decode jdk_65_method_59_code 4 = .ok (.iconst 1, 1) := by decide +kernel
theorem d15_5 : decode jdk_65_method_59_code 5 = .ok (.isub, 1) := by decide +kernel
theorem d15_6 : decode jdk_65_method_59_code 6 = .ok (.istore 5, 2) := by decide +kernel
theorem d15_8 : decode jdk_65_method_59_code 8 = .ok (.iload 4, 2) := by decide +kernel
theorem d15_10 : decode jdk_65_method_59_code 10 = .ok (.iload 5, 2) := by decide +kernel
theorem d15_12 : decode jdk_65_method_59_code 12 = .ok (.if_icmp .gt 54, 3) := by decide +kernel
theorem d15_15 : decode jdk_65_method_59_code 15 = .ok (.iload 4, 2) := by decide +kernel
theorem d15_17 : decode jdk_65_method_59_code 17 = .ok (.iload 5, 2) := by decide +kernel
theorem d15_19 : decode jdk_65_method_59_code 19 = .ok (.iadd, 1) := by decide +kernel
theorem d15_20 : decode jdk_65_method_59_code 20 = .ok (.iconst 1, 1) := by decide +kernel
theorem d15_21 : decode jdk_65_method_59_code 21 = .ok (.iushr, 1) := by decide +kernel
theorem d15_22 : decode jdk_65_method_59_code 22 = .ok (.istore 6, 2) := by decide +kernel
theorem d15_24 : decode jdk_65_method_59_code 24 = .ok (.aload_n 0, 1) := by decide +kernel
theorem d15_25 : decode jdk_65_method_59_code 25 = .ok (.iload 6, 2) := by decide +kernel
theorem d15_27 : decode jdk_65_method_59_code 27 = .ok (.iaload, 1) := by decide +kernel
theorem d15_28 : decode jdk_65_method_59_code 28 = .ok (.istore 7, 2) := by decide +kernel
theorem d15_30 : decode jdk_65_method_59_code 30 = .ok (.iload 7, 2) := by decide +kernel
theorem d15_32 : decode jdk_65_method_59_code 32 = .ok (.iload_n 3, 1) := by decide +kernel
theorem d15_33 : decode jdk_65_method_59_code 33 = .ok (.if_icmp .ge 12, 3) := by decide +kernel
theorem d15_45 : decode jdk_65_method_59_code 45 = .ok (.iload 7, 2) := by decide +kernel
theorem d15_47 : decode jdk_65_method_59_code 47 = .ok (.iload_n 3, 1) := by decide +kernel
theorem d15_48 : decode jdk_65_method_59_code 48 = .ok (.if_icmp .le 12, 3) := by decide +kernel
theorem d15_60 : decode jdk_65_method_59_code 60 = .ok (.iload 6, 2) := by decide +kernel
theorem d15_62 : decode jdk_65_method_59_code 62 = .ok (.ireturn, 1) := by decide +kernel
theorem pn_15 : plainName "java/util/Arrays" = true := by first | (simp [plainName, overriddenIn]; done) | decide +kernel
theorem ef_15 (m : MethodId) (x0 : Addr) : entryFrame m #[(.ref x0), (.int (0 : Int32)), (.int (1 : Int32)), (.int (0 : Int32))] 8 = mkF m 0 #[.val (.ref x0), .val (.int (0 : Int32)), .val (.int (1 : Int32)), .val (.int (0 : Int32)), .unset, .unset, .unset, .unset] [] := by first | (simp [entryFrame, mkF, argsToLocals, Value.category]; done) | rfl
def Q15 (Z : State) (ar : Addr) (gq : Nat → Int32) (h0 : Heap) (n0 : Nat) (v : Option Value) (h : Heap) (L : List Loc) : Prop := v = some (.int (0 : Int32)) ∧ Fr n0 L ∧ h = h0
set_option maxRecDepth 65536 in
set_option maxHeartbeats 40000000 in
theorem rm15 (l : Launch) (Z : State) (a0 : Array Value) (hw : ∀ d ∈ tables_1, d.before a0 Z = true) (ws : List Jvm.Cond) (ar : Addr) (gq : Nat → Int32) (h0 : Heap) (n0 : Nat) (Z0 : n0 ≤ h0.size) (A_ar : AryI Z h0 ar .int 64 gq) (hq : ((gq 0) = (0 : Int32))) :
    MetFree l (⟨"java/util/Arrays", "binarySearch0", "([IIII)I"⟩ : MethodName) (head1 (Jvm.Cond.code (⟨"java/util/Arrays", "binarySearch0", "([IIII)I"⟩ : MethodName) jdk_65_method_59_code 8 (some .int) :: ws) ({ frames := 0, cells := 0, slots := 0, locals := 0 } : Room)) (fun a U => a = #[(.ref ar), (.int (0 : Int32)), (.int (1 : Int32)), (.int (0 : Int32))] ∧ Z.Warmed39 U.vm ∧ U.heap = h0) (fun _ _ _ _ _ => True) (fun _ U o U' => ∃ v L, o = .returned v ∧ Q15 Z ar gq h0 n0 v U'.heap L ∧ FrameEnd U o U' L ({ frames := 0, cells := 0, slots := 0, locals := 0 } : Room).cells ({ frames := 0, cells := 0, slots := 0, locals := 0 } : Room).slots) := by
  refine MetFree.of_bodySF (plainFor_of_name pn_15) hisR ?_
  intro p e s m args below meth c s₁ Bd hml0 hP hK
  obtain ⟨rfl, hZ, hh⟩ := hP
  have hx := Bd.exec
  have hby := Bd.bytes
  have hml : c.maxLocals = 8 := hml0
  have hown : s.vm.findClass "java/util/Arrays" = some m.cls := findClass_of_methodNamed Bd.named
  have hnm := (name_of_methodNamed Bd.named Bd.method).1
  have X0 : Stand p l e ({ frames := 0, cells := 0, slots := 0, locals := 0 } : Room) s m #[(.ref ar), (.int (0 : Int32)), (.int (1 : Int32)), (.int (0 : Int32))] below meth c s₁ [] 0 0 := Stand.of_body Bd
  have e0 : s₁.heap = h0 := by rw [← hh, Bd.state]; rfl
  have N0 := Fr.nil n0
  show Go p e below s (Q15 Z ar gq h0 n0) ({ frames := 0, cells := 0, slots := 0, locals := 0 } : Room).cells ({ frames := 0, cells := 0, slots := 0, locals := 0 } : Room).slots (s₁.setTop (entryFrame m #[(.ref ar), (.int (0 : Int32)), (.int (1 : Int32)), (.int (0 : Int32))] 8))
  rw [ef_15]
  show Go _ _ _ _ _ _ _ (s₁.setTop (mkF m 0 #[.val (.ref ar), .val (.int (0 : Int32)), .val (.int (1 : Int32)), .val (.int (0 : Int32)), .unset, .unset, .unset, .unset] []))
  refine Go.step (fun t k => XS.iloadN X0.here hx rfl (hb hby d15_0) rfl k) ?_
  show Go _ _ _ _ _ _ _ (s₁.setTop (mkF m 1 #[.val (.ref ar), .val (.int (0 : Int32)), .val (.int (1 : Int32)), .val (.int (0 : Int32)), .unset, .unset, .unset, .unset] [(.int (0 : Int32))]))
  refine Go.step (fun t k => XS.istore X0.here hx rfl (hb hby d15_1) rfl (l' := #[.val (.ref ar), .val (.int (0 : Int32)), .val (.int (1 : Int32)), .val (.int (0 : Int32)), .val (.int (0 : Int32)), .unset, .unset, .unset]) rfl k) ?_
  show Go _ _ _ _ _ _ _ (s₁.setTop (mkF m 3 #[.val (.ref ar), .val (.int (0 : Int32)), .val (.int (1 : Int32)), .val (.int (0 : Int32)), .val (.int (0 : Int32)), .unset, .unset, .unset] []))
  refine Go.step (fun t k => XS.iloadN X0.here hx rfl (hb hby d15_3) rfl k) ?_
  show Go _ _ _ _ _ _ _ (s₁.setTop (mkF m 4 #[.val (.ref ar), .val (.int (0 : Int32)), .val (.int (1 : Int32)), .val (.int (0 : Int32)), .val (.int (0 : Int32)), .unset, .unset, .unset] [(.int (1 : Int32))]))
  refine Go.step (fun t k => XS.iconst X0.here hx rfl (hb hby d15_4) k) ?_
  show Go _ _ _ _ _ _ _ (s₁.setTop (mkF m 5 #[.val (.ref ar), .val (.int (0 : Int32)), .val (.int (1 : Int32)), .val (.int (0 : Int32)), .val (.int (0 : Int32)), .unset, .unset, .unset] [(.int (1 : Int32)), (.int (1 : Int32))]))
  refine Go.step (fun t k => XS.isub X0.here hx rfl (hb hby d15_5) rfl k) ?_
  show Go _ _ _ _ _ _ _ (s₁.setTop (mkF m 6 #[.val (.ref ar), .val (.int (0 : Int32)), .val (.int (1 : Int32)), .val (.int (0 : Int32)), .val (.int (0 : Int32)), .unset, .unset, .unset] [(.int (0 : Int32))]))
  refine Go.step (fun t k => XS.istore X0.here hx rfl (hb hby d15_6) rfl (l' := #[.val (.ref ar), .val (.int (0 : Int32)), .val (.int (1 : Int32)), .val (.int (0 : Int32)), .val (.int (0 : Int32)), .val (.int (0 : Int32)), .unset, .unset]) rfl k) ?_
  show Go _ _ _ _ _ _ _ (s₁.setTop (mkF m 8 #[.val (.ref ar), .val (.int (0 : Int32)), .val (.int (1 : Int32)), .val (.int (0 : Int32)), .val (.int (0 : Int32)), .val (.int (0 : Int32)), .unset, .unset] []))
  refine Go.step (fun t k => XS.iload X0.here hx rfl (hb hby d15_8) rfl k) ?_
  show Go _ _ _ _ _ _ _ (s₁.setTop (mkF m 10 #[.val (.ref ar), .val (.int (0 : Int32)), .val (.int (1 : Int32)), .val (.int (0 : Int32)), .val (.int (0 : Int32)), .val (.int (0 : Int32)), .unset, .unset] [(.int (0 : Int32))]))
  refine Go.step (fun t k => XS.iload X0.here hx rfl (hb hby d15_10) rfl k) ?_
  show Go _ _ _ _ _ _ _ (s₁.setTop (mkF m 12 #[.val (.ref ar), .val (.int (0 : Int32)), .val (.int (1 : Int32)), .val (.int (0 : Int32)), .val (.int (0 : Int32)), .val (.int (0 : Int32)), .unset, .unset] [(.int (0 : Int32)), (.int (0 : Int32))]))
  refine Go.step (fun t k => XS.icmpNo X0.here hx rfl (hb hby d15_12) rfl (flt (by decide : ¬ (0 : Int32) < (0 : Int32))).2.2.1 k) ?_
  show Go _ _ _ _ _ _ _ (s₁.setTop (mkF m 15 #[.val (.ref ar), .val (.int (0 : Int32)), .val (.int (1 : Int32)), .val (.int (0 : Int32)), .val (.int (0 : Int32)), .val (.int (0 : Int32)), .unset, .unset] []))
  refine Go.step (fun t k => XS.iload X0.here hx rfl (hb hby d15_15) rfl k) ?_
  show Go _ _ _ _ _ _ _ (s₁.setTop (mkF m 17 #[.val (.ref ar), .val (.int (0 : Int32)), .val (.int (1 : Int32)), .val (.int (0 : Int32)), .val (.int (0 : Int32)), .val (.int (0 : Int32)), .unset, .unset] [(.int (0 : Int32))]))
  refine Go.step (fun t k => XS.iload X0.here hx rfl (hb hby d15_17) rfl k) ?_
  show Go _ _ _ _ _ _ _ (s₁.setTop (mkF m 19 #[.val (.ref ar), .val (.int (0 : Int32)), .val (.int (1 : Int32)), .val (.int (0 : Int32)), .val (.int (0 : Int32)), .val (.int (0 : Int32)), .unset, .unset] [(.int (0 : Int32)), (.int (0 : Int32))]))
  refine Go.step (fun t k => XS.iadd X0.here hx rfl (hb hby d15_19) rfl k) ?_
  show Go _ _ _ _ _ _ _ (s₁.setTop (mkF m 20 #[.val (.ref ar), .val (.int (0 : Int32)), .val (.int (1 : Int32)), .val (.int (0 : Int32)), .val (.int (0 : Int32)), .val (.int (0 : Int32)), .unset, .unset] [(.int (0 : Int32))]))
  refine Go.step (fun t k => XS.iconst X0.here hx rfl (hb hby d15_20) k) ?_
  show Go _ _ _ _ _ _ _ (s₁.setTop (mkF m 21 #[.val (.ref ar), .val (.int (0 : Int32)), .val (.int (1 : Int32)), .val (.int (0 : Int32)), .val (.int (0 : Int32)), .val (.int (0 : Int32)), .unset, .unset] [(.int (1 : Int32)), (.int (0 : Int32))]))
  refine Go.step (fun t k => XS.iushr X0.here hx rfl (hb hby d15_21) rfl k) ?_
  show Go _ _ _ _ _ _ _ (s₁.setTop (mkF m 22 #[.val (.ref ar), .val (.int (0 : Int32)), .val (.int (1 : Int32)), .val (.int (0 : Int32)), .val (.int (0 : Int32)), .val (.int (0 : Int32)), .unset, .unset] [(.int (0 : Int32))]))
  refine Go.step (fun t k => XS.istore X0.here hx rfl (hb hby d15_22) rfl (l' := #[.val (.ref ar), .val (.int (0 : Int32)), .val (.int (1 : Int32)), .val (.int (0 : Int32)), .val (.int (0 : Int32)), .val (.int (0 : Int32)), .val (.int (0 : Int32)), .unset]) rfl k) ?_
  show Go _ _ _ _ _ _ _ (s₁.setTop (mkF m 24 #[.val (.ref ar), .val (.int (0 : Int32)), .val (.int (1 : Int32)), .val (.int (0 : Int32)), .val (.int (0 : Int32)), .val (.int (0 : Int32)), .val (.int (0 : Int32)), .unset] []))
  refine Go.step (fun t k => XS.aloadN X0.here hx rfl (hb hby d15_24) rfl rfl k) ?_
  show Go _ _ _ _ _ _ _ (s₁.setTop (mkF m 25 #[.val (.ref ar), .val (.int (0 : Int32)), .val (.int (1 : Int32)), .val (.int (0 : Int32)), .val (.int (0 : Int32)), .val (.int (0 : Int32)), .val (.int (0 : Int32)), .unset] [(.ref ar)]))
  refine Go.step (fun t k => XS.iload X0.here hx rfl (hb hby d15_25) rfl k) ?_
  show Go _ _ _ _ _ _ _ (s₁.setTop (mkF m 27 #[.val (.ref ar), .val (.int (0 : Int32)), .val (.int (1 : Int32)), .val (.int (0 : Int32)), .val (.int (0 : Int32)), .val (.int (0 : Int32)), .val (.int (0 : Int32)), .unset] [(.int (0 : Int32)), (.ref ar)]))
  refine Go.step (own_ld X0 hx hZ e0 A_ar (j := (0 : Int32)) 0 rfl (by decide) (v := (.int (gq 0))) rfl (Or.inl ⟨rfl, rfl⟩) (f := (mkF m 27 #[.val (.ref ar), .val (.int (0 : Int32)), .val (.int (1 : Int32)), .val (.int (0 : Int32)), .val (.int (0 : Int32)), .val (.int (0 : Int32)), .val (.int (0 : Int32)), .unset] [(.int (0 : Int32)), (.ref ar)])) rfl rfl (hb hby d15_27)) ?_
  show Go _ _ _ _ _ _ _ (s₁.setTop (mkF m 28 #[.val (.ref ar), .val (.int (0 : Int32)), .val (.int (1 : Int32)), .val (.int (0 : Int32)), .val (.int (0 : Int32)), .val (.int (0 : Int32)), .val (.int (0 : Int32)), .unset] [(.int (gq 0))]))
  refine Go.step (fun t k => XS.istore X0.here hx rfl (hb hby d15_28) rfl (l' := #[.val (.ref ar), .val (.int (0 : Int32)), .val (.int (1 : Int32)), .val (.int (0 : Int32)), .val (.int (0 : Int32)), .val (.int (0 : Int32)), .val (.int (0 : Int32)), .val (.int (gq 0))]) rfl k) ?_
  show Go _ _ _ _ _ _ _ (s₁.setTop (mkF m 30 #[.val (.ref ar), .val (.int (0 : Int32)), .val (.int (1 : Int32)), .val (.int (0 : Int32)), .val (.int (0 : Int32)), .val (.int (0 : Int32)), .val (.int (0 : Int32)), .val (.int (gq 0))] []))
  refine Go.step (fun t k => XS.iload X0.here hx rfl (hb hby d15_30) rfl k) ?_
  show Go _ _ _ _ _ _ _ (s₁.setTop (mkF m 32 #[.val (.ref ar), .val (.int (0 : Int32)), .val (.int (1 : Int32)), .val (.int (0 : Int32)), .val (.int (0 : Int32)), .val (.int (0 : Int32)), .val (.int (0 : Int32)), .val (.int (gq 0))] [(.int (gq 0))]))
  refine Go.step (fun t k => XS.iloadN X0.here hx rfl (hb hby d15_32) rfl k) ?_
  show Go _ _ _ _ _ _ _ (s₁.setTop (mkF m 33 #[.val (.ref ar), .val (.int (0 : Int32)), .val (.int (1 : Int32)), .val (.int (0 : Int32)), .val (.int (0 : Int32)), .val (.int (0 : Int32)), .val (.int (0 : Int32)), .val (.int (gq 0))] [(.int (0 : Int32)), (.int (gq 0))]))
  refine Go.step (fun t k => XS.icmpYes X0.here hx rfl (pc0 := 33) (pc' := 45) rfl (hb hby d15_33) rfl (flt ((by rw [hq]; decide) : ¬ (gq 0) < (0 : Int32))).2.1 (by decide) (by decide) k) ?_
  show Go _ _ _ _ _ _ _ (s₁.setTop (mkF m 45 #[.val (.ref ar), .val (.int (0 : Int32)), .val (.int (1 : Int32)), .val (.int (0 : Int32)), .val (.int (0 : Int32)), .val (.int (0 : Int32)), .val (.int (0 : Int32)), .val (.int (gq 0))] []))
  refine Go.step (fun t k => XS.iload X0.here hx rfl (hb hby d15_45) rfl k) ?_
  show Go _ _ _ _ _ _ _ (s₁.setTop (mkF m 47 #[.val (.ref ar), .val (.int (0 : Int32)), .val (.int (1 : Int32)), .val (.int (0 : Int32)), .val (.int (0 : Int32)), .val (.int (0 : Int32)), .val (.int (0 : Int32)), .val (.int (gq 0))] [(.int (gq 0))]))
  refine Go.step (fun t k => XS.iloadN X0.here hx rfl (hb hby d15_47) rfl k) ?_
  show Go _ _ _ _ _ _ _ (s₁.setTop (mkF m 48 #[.val (.ref ar), .val (.int (0 : Int32)), .val (.int (1 : Int32)), .val (.int (0 : Int32)), .val (.int (0 : Int32)), .val (.int (0 : Int32)), .val (.int (0 : Int32)), .val (.int (gq 0))] [(.int (0 : Int32)), (.int (gq 0))]))
  refine Go.step (fun t k => XS.icmpYes X0.here hx rfl (pc0 := 48) (pc' := 60) rfl (hb hby d15_48) rfl (flt ((by rw [hq]; decide) : ¬ (0 : Int32) < (gq 0))).2.2.2 (by decide) (by decide) k) ?_
  show Go _ _ _ _ _ _ _ (s₁.setTop (mkF m 60 #[.val (.ref ar), .val (.int (0 : Int32)), .val (.int (1 : Int32)), .val (.int (0 : Int32)), .val (.int (0 : Int32)), .val (.int (0 : Int32)), .val (.int (0 : Int32)), .val (.int (gq 0))] []))
  refine Go.step (fun t k => XS.iload X0.here hx rfl (hb hby d15_60) rfl k) ?_
  show Go _ _ _ _ _ _ _ (s₁.setTop (mkF m 62 #[.val (.ref ar), .val (.int (0 : Int32)), .val (.int (1 : Int32)), .val (.int (0 : Int32)), .val (.int (0 : Int32)), .val (.int (0 : Int32)), .val (.int (0 : Int32)), .val (.int (gq 0))] [(.int (0 : Int32))]))
  refine Go.retI X0 Bd.notSynchronized hx Bd.returns (hb hby d15_62) (by decide) (by decide) ?_
  rw [e0]
  exact ⟨rfl, N0, rfl⟩
theorem d13_0 : decode jdk_65_method_58_code 0 = .ok (.aload_n 0, 1) := by decide +kernel
theorem d13_1 : decode jdk_65_method_58_code 1 = .ok (.arraylength, 1) := by decide +kernel
theorem d13_2 : decode jdk_65_method_58_code 2 = .ok (.iload_n 1, 1) := by decide +kernel
theorem d13_3 : decode jdk_65_method_58_code 3 = .ok (.iload_n 2, 1) := by decide +kernel
theorem d13_4 : decode jdk_65_method_58_code 4 = .ok (.invokestatic 13, 3) := by decide +kernel
theorem d13_7 : decode jdk_65_method_58_code 7 = .ok (.aload_n 0, 1) := by decide +kernel
theorem d13_8 : decode jdk_65_method_58_code 8 = .ok (.iload_n 1, 1) := by decide +kernel
theorem d13_9 : decode jdk_65_method_58_code 9 = .ok (.iload_n 2, 1) := by decide +kernel
theorem d13_10 : decode jdk_65_method_58_code 10 = .ok (.iload_n 3, 1) := by decide +kernel
theorem d13_11 : decode jdk_65_method_58_code 11 = .ok (.invokestatic 209, 3) := by decide +kernel
theorem d13_14 : decode jdk_65_method_58_code 14 = .ok (.ireturn, 1) := by decide +kernel
theorem pn_13 : plainName "java/util/Arrays" = true := by first | (simp [plainName, overriddenIn]; done) | decide +kernel
theorem pd_13_0 : parseMethodDescriptor "(III)V" = some ⟨[.int, .int, .int], none⟩ := by decide +kernel
theorem pd_13_1 : parseMethodDescriptor "([IIII)I" = some ⟨[(.array .int), .int, .int, .int], some .int⟩ := by decide +kernel
theorem ef_13 (m : MethodId) (x0 : Addr) : entryFrame m #[(.ref x0), (.int (0 : Int32)), (.int (1 : Int32)), (.int (0 : Int32))] 4 = mkF m 0 #[.val (.ref x0), .val (.int (0 : Int32)), .val (.int (1 : Int32)), .val (.int (0 : Int32))] [] := by first | (simp [entryFrame, mkF, argsToLocals, Value.category]; done) | rfl
def Q13 (Z : State) (ar : Addr) (gq : Nat → Int32) (h0 : Heap) (n0 : Nat) (v : Option Value) (h : Heap) (L : List Loc) : Prop := v = some (.int (0 : Int32)) ∧ Fr n0 L ∧ h = h0
set_option maxRecDepth 65536 in
set_option maxHeartbeats 40000000 in
theorem rm13 (l : Launch) (Z : State) (a0 : Array Value) (hw : ∀ d ∈ tables_1, d.before a0 Z = true) (ws : List Jvm.Cond) (ar : Addr) (gq : Nat → Int32) (h0 : Heap) (n0 : Nat) (Z0 : n0 ≤ h0.size) (A_ar : AryI Z h0 ar .int 64 gq) (hq : ((gq 0) = (0 : Int32))) :
    MetFree l (⟨"java/util/Arrays", "binarySearch", "([IIII)I"⟩ : MethodName) (head1 (Jvm.Cond.code (⟨"java/util/Arrays", "binarySearch", "([IIII)I"⟩ : MethodName) jdk_65_method_58_code 4 (some .int) :: ws) ({ frames := 1, cells := 0, slots := 0, locals := 19 } : Room)) (fun a U => a = #[(.ref ar), (.int (0 : Int32)), (.int (1 : Int32)), (.int (0 : Int32))] ∧ Z.Warmed39 U.vm ∧ U.heap = h0) (fun _ _ _ _ _ => True) (fun _ U o U' => ∃ v L, o = .returned v ∧ Q13 Z ar gq h0 n0 v U'.heap L ∧ FrameEnd U o U' L ({ frames := 1, cells := 0, slots := 0, locals := 19 } : Room).cells ({ frames := 1, cells := 0, slots := 0, locals := 19 } : Room).slots) := by
  refine MetFree.of_bodySF (plainFor_of_name pn_13) hisR ?_
  intro p e s m args below meth c s₁ Bd hml0 hP hK
  obtain ⟨rfl, hZ, hh⟩ := hP
  have hx := Bd.exec
  have hby := Bd.bytes
  have hml : c.maxLocals = 4 := hml0
  have hown : s.vm.findClass "java/util/Arrays" = some m.cls := findClass_of_methodNamed Bd.named
  have hnm := (name_of_methodNamed Bd.named Bd.method).1
  have X0 : Stand p l e ({ frames := 1, cells := 0, slots := 0, locals := 19 } : Room) s m #[(.ref ar), (.int (0 : Int32)), (.int (1 : Int32)), (.int (0 : Int32))] below meth c s₁ [] 0 0 := Stand.of_body Bd
  have e0 : s₁.heap = h0 := by rw [← hh, Bd.state]; rfl
  have N0 := Fr.nil n0
  show Go p e below s (Q13 Z ar gq h0 n0) ({ frames := 1, cells := 0, slots := 0, locals := 19 } : Room).cells ({ frames := 1, cells := 0, slots := 0, locals := 19 } : Room).slots (s₁.setTop (entryFrame m #[(.ref ar), (.int (0 : Int32)), (.int (1 : Int32)), (.int (0 : Int32))] 4))
  rw [ef_13]
  show Go _ _ _ _ _ _ _ (s₁.setTop (mkF m 0 #[.val (.ref ar), .val (.int (0 : Int32)), .val (.int (1 : Int32)), .val (.int (0 : Int32))] []))
  refine Go.step (fun t k => XS.aloadN X0.here hx rfl (hb hby d13_0) rfl rfl k) ?_
  show Go _ _ _ _ _ _ _ (s₁.setTop (mkF m 1 #[.val (.ref ar), .val (.int (0 : Int32)), .val (.int (1 : Int32)), .val (.int (0 : Int32))] [(.ref ar)]))
  refine Go.step (own_len X0 hx hZ e0 A_ar (z := (64 : Int32)) rfl (f := (mkF m 1 #[.val (.ref ar), .val (.int (0 : Int32)), .val (.int (1 : Int32)), .val (.int (0 : Int32))] [(.ref ar)])) rfl rfl (hb hby d13_1)) ?_
  show Go _ _ _ _ _ _ _ (s₁.setTop (mkF m 2 #[.val (.ref ar), .val (.int (0 : Int32)), .val (.int (1 : Int32)), .val (.int (0 : Int32))] [(.int (64 : Int32))]))
  refine Go.step (fun t k => XS.iloadN X0.here hx rfl (hb hby d13_2) rfl k) ?_
  show Go _ _ _ _ _ _ _ (s₁.setTop (mkF m 3 #[.val (.ref ar), .val (.int (0 : Int32)), .val (.int (1 : Int32)), .val (.int (0 : Int32))] [(.int (0 : Int32)), (.int (64 : Int32))]))
  refine Go.step (fun t k => XS.iloadN X0.here hx rfl (hb hby d13_3) rfl k) ?_
  show Go _ _ _ _ _ _ _ (s₁.setTop (mkF m 4 #[.val (.ref ar), .val (.int (0 : Int32)), .val (.int (1 : Int32)), .val (.int (0 : Int32))] [(.int (1 : Int32)), (.int (0 : Int32)), (.int (64 : Int32))]))
  obtain ⟨_, _, ⟨T2, L2, k2, n2⟩, -, X2, ⟨Lc2, hQ2, l2, y2, z2⟩, st2⟩ := Jvm.LawKit.callS X0 hx (y := (⟨"java/util/Arrays", "rangeCheck", "(III)V"⟩ : MethodName)) hown (mvT hZ (hw _ (List.mem_of_getElem? (i := 84) rfl))) (mvT hZ (hw _ (List.mem_of_getElem? (i := 85) rfl))) (mvT hZ (hw _ (List.mem_of_getElem? (i := 82) rfl))) (mvT hZ (hw _ (List.mem_of_getElem? (i := 86) rfl))) (by decide) (backOf (W := 0) (rm14 l Z a0 hw []  h0 n0 Z0) hZ (hw _ (List.mem_of_getElem? (i := 86) rfl)) (hw _ (List.mem_of_getElem? (i := 82) rfl)) (by decide) (by decide)) (g := (mkF m 4 #[.val (.ref ar), .val (.int (0 : Int32)), .val (.int (1 : Int32)), .val (.int (0 : Int32))] [(.int (1 : Int32)), (.int (0 : Int32)), (.int (64 : Int32))])) rfl (by rw [hml]; rfl) (argsL := [(.int (64 : Int32)), (.int (0 : Int32)), (.int (1 : Int32))]) (rest := []) (lenOf pd_13_0 rfl) rfl (by show 2 * 0 + _ ≤ _; exact Nat.le_of_eq rfl) (hb hby d13_4) (fun _ _ => ⟨rfl, e0, (by decide : 0 + 0 ≤ _), (by decide : 0 + 0 ≤ _)⟩)
  dsimp only [Pt.U, Pt.locs, Pt.cells, Pt.slots] at X2 l2 y2 z2 st2 hQ2
  subst l2 y2 z2
  obtain ⟨rfl, N2q, K2q⟩ := hQ2
  have N2 := Fr.app N0 N2q
  refine Go.step st2 ?_
  show Go _ _ _ _ _ _ _ (T2.setTop (mkF m 7 #[.val (.ref ar), .val (.int (0 : Int32)), .val (.int (1 : Int32)), .val (.int (0 : Int32))] []))
  refine Go.step (fun t k => XS.aloadN X2.here hx rfl (hb hby d13_7) rfl rfl k) ?_
  show Go _ _ _ _ _ _ _ (T2.setTop (mkF m 8 #[.val (.ref ar), .val (.int (0 : Int32)), .val (.int (1 : Int32)), .val (.int (0 : Int32))] [(.ref ar)]))
  refine Go.step (fun t k => XS.iloadN X2.here hx rfl (hb hby d13_8) rfl k) ?_
  show Go _ _ _ _ _ _ _ (T2.setTop (mkF m 9 #[.val (.ref ar), .val (.int (0 : Int32)), .val (.int (1 : Int32)), .val (.int (0 : Int32))] [(.int (0 : Int32)), (.ref ar)]))
  refine Go.step (fun t k => XS.iloadN X2.here hx rfl (hb hby d13_9) rfl k) ?_
  show Go _ _ _ _ _ _ _ (T2.setTop (mkF m 10 #[.val (.ref ar), .val (.int (0 : Int32)), .val (.int (1 : Int32)), .val (.int (0 : Int32))] [(.int (1 : Int32)), (.int (0 : Int32)), (.ref ar)]))
  refine Go.step (fun t k => XS.iloadN X2.here hx rfl (hb hby d13_10) rfl k) ?_
  show Go _ _ _ _ _ _ _ (T2.setTop (mkF m 11 #[.val (.ref ar), .val (.int (0 : Int32)), .val (.int (1 : Int32)), .val (.int (0 : Int32))] [(.int (0 : Int32)), (.int (1 : Int32)), (.int (0 : Int32)), (.ref ar)]))
  obtain ⟨_, _, ⟨T3, L3, k3, n3⟩, -, X3, ⟨Lc3, hQ3, l3, y3, z3⟩, st3⟩ := Jvm.LawKit.callS X2 hx (y := (⟨"java/util/Arrays", "binarySearch0", "([IIII)I"⟩ : MethodName)) hown (mvT hZ (hw _ (List.mem_of_getElem? (i := 87) rfl))) (mvT hZ (hw _ (List.mem_of_getElem? (i := 88) rfl))) (mvT hZ (hw _ (List.mem_of_getElem? (i := 82) rfl))) (mvT hZ (hw _ (List.mem_of_getElem? (i := 89) rfl))) (by decide) (backOf (W := 0) (rm15 l Z a0 hw [] ar gq h0 n0 Z0 A_ar hq) hZ (hw _ (List.mem_of_getElem? (i := 89) rfl)) (hw _ (List.mem_of_getElem? (i := 82) rfl)) (by decide) (by decide)) (g := (mkF m 11 #[.val (.ref ar), .val (.int (0 : Int32)), .val (.int (1 : Int32)), .val (.int (0 : Int32))] [(.int (0 : Int32)), (.int (1 : Int32)), (.int (0 : Int32)), (.ref ar)])) rfl (by rw [hml]; rfl) (argsL := [(.ref ar), (.int (0 : Int32)), (.int (1 : Int32)), (.int (0 : Int32))]) (rest := []) (lenOf pd_13_1 rfl) rfl (by show 2 * 0 + _ ≤ _; exact Nat.le_of_eq rfl) (hb hby d13_11) (fun _ _ => ⟨rfl, K2q, (by decide : 0 + 0 ≤ _), (by decide : 0 + 0 ≤ _)⟩)
  dsimp only [Pt.U, Pt.locs, Pt.cells, Pt.slots] at X3 l3 y3 z3 st3 hQ3
  subst l3 y3 z3
  obtain ⟨rfl, N3q, K3q⟩ := hQ3
  have N3 := Fr.app N2 N3q
  refine Go.step st3 ?_
  show Go _ _ _ _ _ _ _ (T3.setTop (mkF m 14 #[.val (.ref ar), .val (.int (0 : Int32)), .val (.int (1 : Int32)), .val (.int (0 : Int32))] [(.int (0 : Int32))]))
  refine Go.retI X3 Bd.notSynchronized hx Bd.returns (hb hby d13_14) (by decide) (by decide) ?_
  rw [K3q]
  exact ⟨rfl, N3, rfl⟩
theorem d12_0 : decode prog_211_method_15_code 0 = .ok (.aload_n 0, 1) := by decide +kernel
theorem d12_1 : decode prog_211_method_15_code 1 = .ok (.getfield 22, 3) := by decide +kernel
theorem d12_4 : decode prog_211_method_15_code 4 = .ok (.aload_n 0, 1) := by decide +kernel
theorem d12_5 : decode prog_211_method_15_code 5 = .ok (.getfield 19, 3) := by decide +kernel
theorem d12_8 : decode prog_211_method_15_code 8 = .ok (.iconst 0, 1) := by decide +kernel
theorem d12_9 : decode prog_211_method_15_code 9 = .ok (.aload_n 0, 1) := by decide +kernel
theorem d12_10 : decode prog_211_method_15_code 10 = .ok (.getfield 64, 3) := by decide +kernel
theorem d12_13 : decode prog_211_method_15_code 13 = .ok (.iload_n 1, 1) := by decide +kernel
theorem d12_14 : decode prog_211_method_15_code 14 = .ok (.invokestatic 67, 3) := by decide +kernel
theorem d12_17 : decode prog_211_method_15_code 17 = .ok (.laload, 1) := by decide +kernel
theorem d12_18 : decode prog_211_method_15_code 18 = .ok (.lreturn, 1) := by decide +kernel
theorem pn_12 : plainName "com/example/ferrylog/ferrylog/store/LiveIndex" = true := by first | (simp [plainName, overriddenIn]; done) | decide +kernel
theorem pd_12_0 : parseMethodDescriptor "([IIII)I" = some ⟨[(.array .int), .int, .int, .int], some .int⟩ := by decide +kernel
theorem ef_12 (m : MethodId) (x0 : Addr) : entryFrame m #[(.ref x0), (.int (0 : Int32))] 2 = mkF m 0 #[.val (.ref x0), .val (.int (0 : Int32))] [] := by first | (simp [entryFrame, mkF, argsToLocals, Value.category]; done) | rfl
def Q12 (Z : State) (aa : Addr) (bq : Addr) (bf : Addr) (gq : Nat → Int32) (gf : Nat → Int64) (h0 : Heap) (n0 : Nat) (v : Option Value) (h : Heap) (L : List Loc) : Prop := v = some (.long (gf 0)) ∧ Fr n0 L ∧ h = h0
set_option maxRecDepth 65536 in
set_option maxHeartbeats 40000000 in
theorem rm12 (l : Launch) (Z : State) (a0 : Array Value) (hw : ∀ d ∈ tables_1, d.before a0 Z = true) (ws : List Jvm.Cond) (aa : Addr) (bq : Addr) (bf : Addr) (gq : Nat → Int32) (gf : Nat → Int64) (h0 : Heap) (n0 : Nat) (Z0 : n0 ≤ h0.size) (F_runFirsts_aa : Fld Z h0 aa "com/example/ferrylog/ferrylog/store/LiveIndex" "runFirsts" "[J" (.ref bf)) (F_runRecords_aa : Fld Z h0 aa "com/example/ferrylog/ferrylog/store/LiveIndex" "runRecords" "[I" (.ref bq)) (F_runCount_aa : Fld Z h0 aa "com/example/ferrylog/ferrylog/store/LiveIndex" "runCount" "I" (.int (1 : Int32))) (A_bq : AryI Z h0 bq .int 64 gq) (A_bf : AryJ Z h0 bf 64 gf) (hq : ((gq 0) = (0 : Int32))) :
    MetFree l (⟨"com/example/ferrylog/ferrylog/store/LiveIndex", "runFirst", "(I)J"⟩ : MethodName) (head1 (Jvm.Cond.code (⟨"com/example/ferrylog/ferrylog/store/LiveIndex", "runFirst", "(I)J"⟩ : MethodName) prog_211_method_15_code 2 (some .long) :: ws) ({ frames := 2, cells := 0, slots := 0, locals := 35 } : Room)) (fun a U => a = #[(.ref aa), (.int (0 : Int32))] ∧ Z.Warmed39 U.vm ∧ U.heap = h0) (fun _ _ _ _ _ => True) (fun _ U o U' => ∃ v L, o = .returned v ∧ Q12 Z aa bq bf gq gf h0 n0 v U'.heap L ∧ FrameEnd U o U' L ({ frames := 2, cells := 0, slots := 0, locals := 35 } : Room).cells ({ frames := 2, cells := 0, slots := 0, locals := 35 } : Room).slots) := by
  refine MetFree.of_bodySF (plainFor_of_name pn_12) hisR ?_
  intro p e s m args below meth c s₁ Bd hml0 hP hK
  obtain ⟨rfl, hZ, hh⟩ := hP
  have hx := Bd.exec
  have hby := Bd.bytes
  have hml : c.maxLocals = 2 := hml0
  have hown : s.vm.findClass "com/example/ferrylog/ferrylog/store/LiveIndex" = some m.cls := findClass_of_methodNamed Bd.named
  have hnm := (name_of_methodNamed Bd.named Bd.method).1
  have X0 : Stand p l e ({ frames := 2, cells := 0, slots := 0, locals := 35 } : Room) s m #[(.ref aa), (.int (0 : Int32))] below meth c s₁ [] 0 0 := Stand.of_body Bd
  have e0 : s₁.heap = h0 := by rw [← hh, Bd.state]; rfl
  have N0 := Fr.nil n0
  show Go p e below s (Q12 Z aa bq bf gq gf h0 n0) ({ frames := 2, cells := 0, slots := 0, locals := 35 } : Room).cells ({ frames := 2, cells := 0, slots := 0, locals := 35 } : Room).slots (s₁.setTop (entryFrame m #[(.ref aa), (.int (0 : Int32))] 2))
  rw [ef_12]
  show Go _ _ _ _ _ _ _ (s₁.setTop (mkF m 0 #[.val (.ref aa), .val (.int (0 : Int32))] []))
  refine Go.step (fun t k => XS.aloadN X0.here hx rfl (hb hby d12_0) rfl rfl k) ?_
  show Go _ _ _ _ _ _ _ (s₁.setTop (mkF m 1 #[.val (.ref aa), .val (.int (0 : Int32))] [(.ref aa)]))
  obtain ⟨T1, X1, e1, st1⟩ := getF X0 hx hZ hown (host := "") (Or.inl (hw _ (List.mem_of_getElem? (i := 17) rfl))) Via.refl e0 F_runFirsts_aa (g := (mkF m 1 #[.val (.ref aa), .val (.int (0 : Int32))] [(.ref aa)])) rfl rfl (hb hby d12_1)
  refine Go.step st1 ?_
  show Go _ _ _ _ _ _ _ (T1.setTop (mkF m 4 #[.val (.ref aa), .val (.int (0 : Int32))] [(.ref bf)]))
  refine Go.step (fun t k => XS.aloadN X1.here hx rfl (hb hby d12_4) rfl rfl k) ?_
  show Go _ _ _ _ _ _ _ (T1.setTop (mkF m 5 #[.val (.ref aa), .val (.int (0 : Int32))] [(.ref aa), (.ref bf)]))
  obtain ⟨T2, X2, e2, st2⟩ := getF X1 hx hZ hown (host := "") (Or.inl (hw _ (List.mem_of_getElem? (i := 15) rfl))) Via.refl e1 F_runRecords_aa (g := (mkF m 5 #[.val (.ref aa), .val (.int (0 : Int32))] [(.ref aa), (.ref bf)])) rfl rfl (hb hby d12_5)
  refine Go.step st2 ?_
  show Go _ _ _ _ _ _ _ (T2.setTop (mkF m 8 #[.val (.ref aa), .val (.int (0 : Int32))] [(.ref bq), (.ref bf)]))
  refine Go.step (fun t k => XS.iconst X2.here hx rfl (hb hby d12_8) k) ?_
  show Go _ _ _ _ _ _ _ (T2.setTop (mkF m 9 #[.val (.ref aa), .val (.int (0 : Int32))] [(.int (0 : Int32)), (.ref bq), (.ref bf)]))
  refine Go.step (fun t k => XS.aloadN X2.here hx rfl (hb hby d12_9) rfl rfl k) ?_
  show Go _ _ _ _ _ _ _ (T2.setTop (mkF m 10 #[.val (.ref aa), .val (.int (0 : Int32))] [(.ref aa), (.int (0 : Int32)), (.ref bq), (.ref bf)]))
  obtain ⟨T3, X3, e3, st3⟩ := getF X2 hx hZ hown (host := "") (Or.inl (hw _ (List.mem_of_getElem? (i := 51) rfl))) Via.refl e2 F_runCount_aa (g := (mkF m 10 #[.val (.ref aa), .val (.int (0 : Int32))] [(.ref aa), (.int (0 : Int32)), (.ref bq), (.ref bf)])) rfl rfl (hb hby d12_10)
  refine Go.step st3 ?_
  show Go _ _ _ _ _ _ _ (T3.setTop (mkF m 13 #[.val (.ref aa), .val (.int (0 : Int32))] [(.int (1 : Int32)), (.int (0 : Int32)), (.ref bq), (.ref bf)]))
  refine Go.step (fun t k => XS.iloadN X3.here hx rfl (hb hby d12_13) rfl k) ?_
  show Go _ _ _ _ _ _ _ (T3.setTop (mkF m 14 #[.val (.ref aa), .val (.int (0 : Int32))] [(.int (0 : Int32)), (.int (1 : Int32)), (.int (0 : Int32)), (.ref bq), (.ref bf)]))
  obtain ⟨_, _, ⟨T4, L4, k4, n4⟩, -, X4, ⟨Lc4, hQ4, l4, y4, z4⟩, st4⟩ := Jvm.LawKit.callS X3 hx (y := (⟨"java/util/Arrays", "binarySearch", "([IIII)I"⟩ : MethodName)) hown (mvT hZ (hw _ (List.mem_of_getElem? (i := 80) rfl))) (mvT hZ (hw _ (List.mem_of_getElem? (i := 81) rfl))) (mvT hZ (hw _ (List.mem_of_getElem? (i := 82) rfl))) (mvT hZ (hw _ (List.mem_of_getElem? (i := 83) rfl))) (by decide) (backOf (W := 1) (rm13 l Z a0 hw [] bq gq h0 n0 Z0 A_bq hq) hZ (hw _ (List.mem_of_getElem? (i := 83) rfl)) (hw _ (List.mem_of_getElem? (i := 82) rfl)) (by decide) (by decide)) (g := (mkF m 14 #[.val (.ref aa), .val (.int (0 : Int32))] [(.int (0 : Int32)), (.int (1 : Int32)), (.int (0 : Int32)), (.ref bq), (.ref bf)])) rfl (by rw [hml]; rfl) (argsL := [(.ref bq), (.int (0 : Int32)), (.int (1 : Int32)), (.int (0 : Int32))]) (rest := [(.ref bf)]) (lenOf pd_12_0 rfl) rfl (by show 2 * 0 + _ ≤ _; exact Nat.le_of_eq rfl) (hb hby d12_14) (fun _ _ => ⟨rfl, e3, (by decide : 0 + 0 ≤ _), (by decide : 0 + 0 ≤ _)⟩)
  dsimp only [Pt.U, Pt.locs, Pt.cells, Pt.slots] at X4 l4 y4 z4 st4 hQ4
  subst l4 y4 z4
  obtain ⟨rfl, N4q, K4q⟩ := hQ4
  have N4 := Fr.app N0 N4q
  refine Go.step st4 ?_
  show Go _ _ _ _ _ _ _ (T4.setTop (mkF m 17 #[.val (.ref aa), .val (.int (0 : Int32))] [(.int (0 : Int32)), (.ref bf)]))
  refine Go.step (own_ld X4 hx hZ K4q A_bf (j := (0 : Int32)) 0 rfl (by decide) (v := (.long (gf 0))) rfl (Or.inr (Or.inl ⟨rfl, rfl⟩)) (f := (mkF m 17 #[.val (.ref aa), .val (.int (0 : Int32))] [(.int (0 : Int32)), (.ref bf)])) rfl rfl (hb hby d12_17)) ?_
  show Go _ _ _ _ _ _ _ (T4.setTop (mkF m 18 #[.val (.ref aa), .val (.int (0 : Int32))] [(.long (gf 0))]))
  refine Go.retJ X4 Bd.notSynchronized hx Bd.returns (hb hby d12_18) (by decide) (by decide) ?_
  rw [K4q]
  exact ⟨rfl, N4, rfl⟩
theorem pn_0 : plainName "com/example/ferrylog/ferrylog/store/LiveIndexCheckpointedPinLaw" = true := by first | (simp [plainName, overriddenIn]; done) | decide +kernel
theorem pd_0_0 : parseMethodDescriptor "()V" = some ⟨[], none⟩ := by decide +kernel
theorem pd_0_1 : parseMethodDescriptor "()I" = some ⟨[], some .int⟩ := by decide +kernel
theorem pd_0_2 : parseMethodDescriptor "(IJ)V" = some ⟨[.int, .long], none⟩ := by decide +kernel
theorem pd_0_3 : parseMethodDescriptor "(I)I" = some ⟨[.int], some .int⟩ := by decide +kernel
theorem pd_0_4 : parseMethodDescriptor "(I)J" = some ⟨[.int], some .long⟩ := by decide +kernel
theorem ef_0 (m : MethodId) (x0 : Int64) (x1 : Int64) (x2 : Int32) (x3 : Int64) (x4 : Int32) : entryFrame m #[(.long x0), (.long x1), (.int x2), (.long x3), (.int x4)] maxLocals = mkF m 0 #[.val (.long x0), .second, .val (.long x1), .second, .val (.int x2), .val (.long x3), .second, .val (.int x4), .unset, .unset, .unset, .unset, .unset, .unset, .unset, .unset, .unset] [] := by first | (simp [entryFrame, mkF, argsToLocals, Value.category, maxLocals]; done) | rfl
def Q0 (Z : State) (qe : Int64) (qp : Int64) (di : Int32) (qq : Int64) (fl : Int32) (h0 : Heap) (n0 : Nat) (v : Option Value) (h : Heap) (L : List Loc) : Prop := v = some (.int (1 : Int32)) ∧ Fr n0 L
set_option maxRecDepth 65536 in
set_option maxHeartbeats 40000000 in
theorem rm0 (l : Launch) (Z : State) (a0 : Array Value) (hw : ∀ d ∈ tables_1, d.before a0 Z = true) (ws : List Jvm.Cond) (qe : Int64) (qp : Int64) (di : Int32) (qq : Int64) (fl : Int32) (h0 : Heap) (n0 : Nat) (Z0 : n0 ≤ h0.size) :
    MetFree l x (head1 (Jvm.Cond.code x code maxLocals ret :: ws) room_1) (fun a U => a = #[(.long qe), (.long qp), (.int di), (.long qq), (.int fl)] ∧ Z.Warmed39 U.vm ∧ U.heap = h0) (fun _ _ _ _ _ => True) (fun _ U o U' => ∃ v L, o = .returned v ∧ Q0 Z qe qp di qq fl h0 n0 v U'.heap L ∧ FrameEnd U o U' L 24 6656) := by
  refine MetFree.of_bodySF (plainFor_of_name pn_0) hisR ?_
  intro p e s m args below meth c s₁ Bd hml0 hP hK
  obtain ⟨rfl, hZ, hh⟩ := hP
  have hx := Bd.exec
  have hby := Bd.bytes
  have hml : c.maxLocals = 17 := hml0
  have hown : s.vm.findClass "com/example/ferrylog/ferrylog/store/LiveIndexCheckpointedPinLaw" = some m.cls := findClass_of_methodNamed Bd.named
  have hnm := (name_of_methodNamed Bd.named Bd.method).1
  have X0 : Stand p l e room_1 s m #[(.long qe), (.long qp), (.int di), (.long qq), (.int fl)] below meth c s₁ [] 0 0 := Stand.of_body Bd
  have e0 : s₁.heap = h0 := by rw [← hh, Bd.state]; rfl
  have N0 := Fr.nil n0
  show Go p e below s (Q0 Z qe qp di qq fl h0 n0) 24 6656 (s₁.setTop (entryFrame m #[(.long qe), (.long qp), (.int di), (.long qq), (.int fl)] maxLocals))
  rw [ef_0]
  show Go _ _ _ _ _ _ _ (s₁.setTop (mkF m 0 #[.val (.long qe), .second, .val (.long qp), .second, .val (.int di), .val (.long qq), .second, .val (.int fl), .unset, .unset, .unset, .unset, .unset, .unset, .unset, .unset, .unset] []))
  refine Go.step (fun t k => XS.iload X0.here hx rfl (hb hby at_0) rfl k) ?_
  show Go _ _ _ _ _ _ _ (s₁.setTop (mkF m 2 #[.val (.long qe), .second, .val (.long qp), .second, .val (.int di), .val (.long qq), .second, .val (.int fl), .unset, .unset, .unset, .unset, .unset, .unset, .unset, .unset, .unset] [(.int fl)]))
  refine Go.step (fun t k => XS.iconst X0.here hx rfl (hb hby at_2) k) ?_
  show Go _ _ _ _ _ _ _ (s₁.setTop (mkF m 3 #[.val (.long qe), .second, .val (.long qp), .second, .val (.int di), .val (.long qq), .second, .val (.int fl), .unset, .unset, .unset, .unset, .unset, .unset, .unset, .unset, .unset] [(.int (1 : Int32)), (.int fl)]))
  refine Go.step (fun t k => XS.iand X0.here hx rfl (hb hby at_3) rfl k) ?_
  show Go _ _ _ _ _ _ _ (s₁.setTop (mkF m 4 #[.val (.long qe), .second, .val (.long qp), .second, .val (.int di), .val (.long qq), .second, .val (.int fl), .unset, .unset, .unset, .unset, .unset, .unset, .unset, .unset, .unset] [(.int (fl &&& (1 : Int32)))]))
  by_cases hc4_1 : (fl &&& (1 : Int32)) = (0 : Int32)
  · refine Go.step (fun t k => XS.ifYes X0.here hx rfl (pc0 := 4) (pc' := 11) rfl (hb hby at_4) rfl ((if0 _ _).trans (teq hc4_1).1) (by decide) (by decide) k) ?_
    show Go _ _ _ _ _ _ _ (s₁.setTop (mkF m 11 #[.val (.long qe), .second, .val (.long qp), .second, .val (.int di), .val (.long qq), .second, .val (.int fl), .unset, .unset, .unset, .unset, .unset, .unset, .unset, .unset, .unset] []))
    refine Go.step (fun t k => XS.iconst X0.here hx rfl (hb hby at_11) k) ?_
    show Go _ _ _ _ _ _ _ (s₁.setTop (mkF m 12 #[.val (.long qe), .second, .val (.long qp), .second, .val (.int di), .val (.long qq), .second, .val (.int fl), .unset, .unset, .unset, .unset, .unset, .unset, .unset, .unset, .unset] [(.int (0 : Int32))]))
    refine Go.step (fun t k => XS.istore X0.here hx rfl (hb hby at_12) rfl (l' := #[.val (.long qe), .second, .val (.long qp), .second, .val (.int di), .val (.long qq), .second, .val (.int fl), .val (.int (0 : Int32)), .unset, .unset, .unset, .unset, .unset, .unset, .unset, .unset]) rfl k) ?_
    show Go _ _ _ _ _ _ _ (s₁.setTop (mkF m 14 #[.val (.long qe), .second, .val (.long qp), .second, .val (.int di), .val (.long qq), .second, .val (.int fl), .val (.int (0 : Int32)), .unset, .unset, .unset, .unset, .unset, .unset, .unset, .unset] []))
    refine Go.step (fun t k => XS.iload X0.here hx rfl (hb hby at_14) rfl k) ?_
    show Go _ _ _ _ _ _ _ (s₁.setTop (mkF m 16 #[.val (.long qe), .second, .val (.long qp), .second, .val (.int di), .val (.long qq), .second, .val (.int fl), .val (.int (0 : Int32)), .unset, .unset, .unset, .unset, .unset, .unset, .unset, .unset] [(.int fl)]))
    refine Go.step (fun t k => XS.iconst X0.here hx rfl (hb hby at_16) k) ?_
    show Go _ _ _ _ _ _ _ (s₁.setTop (mkF m 17 #[.val (.long qe), .second, .val (.long qp), .second, .val (.int di), .val (.long qq), .second, .val (.int fl), .val (.int (0 : Int32)), .unset, .unset, .unset, .unset, .unset, .unset, .unset, .unset] [(.int (2 : Int32)), (.int fl)]))
    refine Go.step (fun t k => XS.iand X0.here hx rfl (hb hby at_17) rfl k) ?_
    show Go _ _ _ _ _ _ _ (s₁.setTop (mkF m 18 #[.val (.long qe), .second, .val (.long qp), .second, .val (.int di), .val (.long qq), .second, .val (.int fl), .val (.int (0 : Int32)), .unset, .unset, .unset, .unset, .unset, .unset, .unset, .unset] [(.int (fl &&& (2 : Int32)))]))
    by_cases hc18_2 : (fl &&& (2 : Int32)) = (0 : Int32)
    · refine Go.step (fun t k => XS.ifYes X0.here hx rfl (pc0 := 18) (pc' := 25) rfl (hb hby at_18) rfl ((if0 _ _).trans (teq hc18_2).1) (by decide) (by decide) k) ?_
      show Go _ _ _ _ _ _ _ (s₁.setTop (mkF m 25 #[.val (.long qe), .second, .val (.long qp), .second, .val (.int di), .val (.long qq), .second, .val (.int fl), .val (.int (0 : Int32)), .unset, .unset, .unset, .unset, .unset, .unset, .unset, .unset] []))
      refine Go.step (fun t k => XS.iconst X0.here hx rfl (hb hby at_25) k) ?_
      show Go _ _ _ _ _ _ _ (s₁.setTop (mkF m 26 #[.val (.long qe), .second, .val (.long qp), .second, .val (.int di), .val (.long qq), .second, .val (.int fl), .val (.int (0 : Int32)), .unset, .unset, .unset, .unset, .unset, .unset, .unset, .unset] [(.int (0 : Int32))]))
      refine Go.step (fun t k => XS.istore X0.here hx rfl (hb hby at_26) rfl (l' := #[.val (.long qe), .second, .val (.long qp), .second, .val (.int di), .val (.long qq), .second, .val (.int fl), .val (.int (0 : Int32)), .val (.int (0 : Int32)), .unset, .unset, .unset, .unset, .unset, .unset, .unset]) rfl k) ?_
      show Go _ _ _ _ _ _ _ (s₁.setTop (mkF m 28 #[.val (.long qe), .second, .val (.long qp), .second, .val (.int di), .val (.long qq), .second, .val (.int fl), .val (.int (0 : Int32)), .val (.int (0 : Int32)), .unset, .unset, .unset, .unset, .unset, .unset, .unset] []))
      obtain ⟨T3, h3, X3, e3, E3, A3, D3, -, st3⟩ := newO X0 hx hZ hown (hw _ (List.mem_of_getElem? (i := 0) rfl)) (hw _ (List.mem_of_getElem? (i := 1) rfl)) (hw _ (List.mem_of_getElem? (i := 2) rfl)) e0 (g := (mkF m 28 #[.val (.long qe), .second, .val (.long qp), .second, .val (.int di), .val (.long qq), .second, .val (.int fl), .val (.int (0 : Int32)), .val (.int (0 : Int32)), .unset, .unset, .unset, .unset, .unset, .unset, .unset] [])) rfl (hb hby at_28) (by decide) (by decide)
      obtain ⟨ix, gz3⟩ : ∃ z, z = h0.size := ⟨_, rfl⟩
      have g_ix : n0 ≤ ix := Nat.le_trans Z0 (Nat.le_of_eq gz3.symm)
      rw [← gz3] at A3 D3 st3
      have Z3 := Nat.le_trans Z0 E3.1
      have E_ix := A3
      have F_lines_ix : Fld Z h3 ix "com/example/ferrylog/ferrylog/store/LiveIndex" "lines" "[J" .null := D3 (Or.inl (hw _ (List.mem_of_getElem? (i := 11) rfl))) (ty := (.array .long)) (by decide)
      have F_records_ix : Fld Z h3 ix "com/example/ferrylog/ferrylog/store/LiveIndex" "records" "[I" .null := D3 (Or.inl (hw _ (List.mem_of_getElem? (i := 14) rfl))) (ty := (.array .int)) (by decide)
      have F_runRecords_ix : Fld Z h3 ix "com/example/ferrylog/ferrylog/store/LiveIndex" "runRecords" "[I" .null := D3 (Or.inl (hw _ (List.mem_of_getElem? (i := 16) rfl))) (ty := (.array .int)) (by decide)
      have F_runFirsts_ix : Fld Z h3 ix "com/example/ferrylog/ferrylog/store/LiveIndex" "runFirsts" "[J" .null := D3 (Or.inl (hw _ (List.mem_of_getElem? (i := 18) rfl))) (ty := (.array .long)) (by decide)
      have F_topics_ix : Fld Z h3 ix "com/example/ferrylog/ferrylog/store/LiveIndex" "topics" "I" (.int (0 : Int32)) := D3 (Or.inl (hw _ (List.mem_of_getElem? (i := 25) rfl))) (ty := .int) (by decide)
      have F_recordCount_ix : Fld Z h3 ix "com/example/ferrylog/ferrylog/store/LiveIndex" "recordCount" "I" (.int (0 : Int32)) := D3 (Or.inl (hw _ (List.mem_of_getElem? (i := 39) rfl))) (ty := .int) (by decide)
      have F_origin_ix : Fld Z h3 ix "com/example/ferrylog/ferrylog/store/LiveIndex" "origin" "J" (.long (0 : Int64)) := D3 (Or.inl (hw _ (List.mem_of_getElem? (i := 41) rfl))) (ty := .long) (by decide)
      have F_runCount_ix : Fld Z h3 ix "com/example/ferrylog/ferrylog/store/LiveIndex" "runCount" "I" (.int (0 : Int32)) := D3 (Or.inl (hw _ (List.mem_of_getElem? (i := 52) rfl))) (ty := .int) (by decide)
      refine Go.step st3 ?_
      show Go _ _ _ _ _ _ _ (T3.setTop (mkF m 31 #[.val (.long qe), .second, .val (.long qp), .second, .val (.int di), .val (.long qq), .second, .val (.int fl), .val (.int (0 : Int32)), .val (.int (0 : Int32)), .unset, .unset, .unset, .unset, .unset, .unset, .unset] [(.ref ix)]))
      refine Go.step (fun t k => XS.dup X3.here hx rfl (hb hby at_31) rfl rfl k) ?_
      show Go _ _ _ _ _ _ _ (T3.setTop (mkF m 32 #[.val (.long qe), .second, .val (.long qp), .second, .val (.int di), .val (.long qq), .second, .val (.int fl), .val (.int (0 : Int32)), .val (.int (0 : Int32)), .unset, .unset, .unset, .unset, .unset, .unset, .unset] [(.ref ix), (.ref ix)]))
      obtain ⟨_, _, ⟨T4, L4, k4, n4⟩, -, X4, ⟨Lc4, hQ4, l4, y4, z4⟩, st4⟩ := X3.specialBack hx (y := (⟨"com/example/ferrylog/ferrylog/store/LiveIndex", "<init>", "()V"⟩ : MethodName)) rfl hown (mvT hZ (hw _ (List.mem_of_getElem? (i := 3) rfl))) (mvT hZ (hw _ (List.mem_of_getElem? (i := 4) rfl))) (mvT hZ (hw _ (List.mem_of_getElem? (i := 5) rfl))) (by decide) (backOf (W := 1) (rm1 l Z a0 hw [] ix h3 n0 Z3 F_lines_ix F_records_ix F_runRecords_ix F_runFirsts_ix F_topics_ix F_recordCount_ix F_runCount_ix F_origin_ix E_ix g_ix) hZ (hw _ (List.mem_of_getElem? (i := 5) rfl)) (hw _ (List.mem_of_getElem? (i := 2) rfl)) (by decide) (by decide)) (g := (mkF m 32 #[.val (.long qe), .second, .val (.long qp), .second, .val (.int di), .val (.long qq), .second, .val (.int fl), .val (.int (0 : Int32)), .val (.int (0 : Int32)), .unset, .unset, .unset, .unset, .unset, .unset, .unset] [(.ref ix), (.ref ix)])) rfl (by rw [hml]; rfl) (Steps.refl _) (a := ix) (argsL := []) (rest := [(.ref ix)]) (lenOf pd_0_0 rfl) rfl (by show 2 * 0 + _ ≤ _; exact Nat.le_of_eq rfl) (hb hby at_32) (fun _ _ => ⟨rfl, e3, (by decide : 1 + 4 ≤ _), (by decide : 8 + 3264 ≤ _)⟩)
      dsimp only [Pt.U, Pt.locs, Pt.cells, Pt.slots] at X4 l4 y4 z4 st4 hQ4
      subst l4 y4 z4
      obtain ⟨bl, br, bq, bf, rfl, N4q, K4q, o4_F_lines_ix, o4_F_records_ix, o4_F_runRecords_ix, o4_F_runFirsts_ix, o4_F_topics_ix, o4_F_recordCount_ix, o4_F_runCount_ix, o4_F_origin_ix, o4_A_bl, o4_A_br, o4_A_bq, o4_A_bf, o4_g_bl, o4_g_br, o4_g_bq, o4_g_bf, o4_ne_bl_br, o4_ne_bl_bq, o4_ne_bl_bf, o4_ne_br_bq, o4_ne_br_bf, o4_ne_bq_bf⟩ := hQ4
      have N4 := Fr.app N0 N4q
      replace E_ix := E_ix.keep K4q
      have Z4 := Nat.le_trans Z3 K4q.1
      have F_lines_ix := o4_F_lines_ix
      have F_records_ix := o4_F_records_ix
      have F_runRecords_ix := o4_F_runRecords_ix
      have F_runFirsts_ix := o4_F_runFirsts_ix
      have F_topics_ix := o4_F_topics_ix
      have F_recordCount_ix := o4_F_recordCount_ix
      have F_runCount_ix := o4_F_runCount_ix
      have F_origin_ix := o4_F_origin_ix
      have A_bl := o4_A_bl
      have A_br := o4_A_br
      have A_bq := o4_A_bq
      have A_bf := o4_A_bf
      refine Go.step (fun t k => st4.trans k) ?_
      show Go _ _ _ _ _ _ _ (T4.setTop (mkF m 35 #[.val (.long qe), .second, .val (.long qp), .second, .val (.int di), .val (.long qq), .second, .val (.int fl), .val (.int (0 : Int32)), .val (.int (0 : Int32)), .unset, .unset, .unset, .unset, .unset, .unset, .unset] [(.ref ix)]))
      refine Go.step (fun t k => XS.astore X4.here hx rfl (hb hby at_35) rfl rfl (l' := #[.val (.long qe), .second, .val (.long qp), .second, .val (.int di), .val (.long qq), .second, .val (.int fl), .val (.int (0 : Int32)), .val (.int (0 : Int32)), .val (.ref ix), .unset, .unset, .unset, .unset, .unset, .unset]) rfl k) ?_
      show Go _ _ _ _ _ _ _ (T4.setTop (mkF m 37 #[.val (.long qe), .second, .val (.long qp), .second, .val (.int di), .val (.long qq), .second, .val (.int fl), .val (.int (0 : Int32)), .val (.int (0 : Int32)), .val (.ref ix), .unset, .unset, .unset, .unset, .unset, .unset] []))
      refine Go.step (fun t k => XS.aload X4.here hx rfl (hb hby at_37) rfl rfl k) ?_
      show Go _ _ _ _ _ _ _ (T4.setTop (mkF m 39 #[.val (.long qe), .second, .val (.long qp), .second, .val (.int di), .val (.long qq), .second, .val (.int fl), .val (.int (0 : Int32)), .val (.int (0 : Int32)), .val (.ref ix), .unset, .unset, .unset, .unset, .unset, .unset] [(.ref ix)]))
      obtain ⟨cq5, kq5, q5a, q5b, q5c⟩ := isOf hZ rfl E_ix
      obtain ⟨_, _, ⟨T5, L5, k5, n5⟩, -, X5, ⟨Lc5, hQ5, l5, y5, z5⟩, st5⟩ := X4.virtualBack hx (y := (⟨"com/example/ferrylog/ferrylog/store/LiveIndex", "addTopic", "()I"⟩ : MethodName)) (z := (⟨"com/example/ferrylog/ferrylog/store/LiveIndex", "addTopic", "()I"⟩ : MethodName)) hown (mvT hZ (hw _ (List.mem_of_getElem? (i := 19) rfl))) (mvT hZ (hw _ (List.mem_of_getElem? (i := 20) rfl))) (notFace_of_selects (args := #[]) (mvT hZ (hw _ (List.mem_of_getElem? (i := 22) rfl)))) (mvT hZ (hw _ (List.mem_of_getElem? (i := 22) rfl))) (mvT hZ (hw _ (List.mem_of_getElem? (i := 21) rfl))) (by decide) (backOf (W := 0) (rm3 l Z a0 hw [] ix (0 : Int32) 0 bl br bq bf (0 : Int32) (0 : Int32) (0 : Int64) (fun _ => (0 : Int64)) T4.heap n0 Z4 F_lines_ix F_records_ix F_runRecords_ix F_runFirsts_ix F_topics_ix F_recordCount_ix F_runCount_ix F_origin_ix E_ix g_ix o4_g_bl A_bl rfl (by decide)) hZ (hw _ (List.mem_of_getElem? (i := 23) rfl)) (hw _ (List.mem_of_getElem? (i := 2) rfl)) (by decide) (by decide)) q5a q5c (g := (mkF m 39 #[.val (.long qe), .second, .val (.long qp), .second, .val (.int di), .val (.long qq), .second, .val (.int fl), .val (.int (0 : Int32)), .val (.int (0 : Int32)), .val (.ref ix), .unset, .unset, .unset, .unset, .unset, .unset] [(.ref ix)])) rfl (by rw [hml]; rfl) (Steps.refl _) (argsL := []) (rest := []) (lenOf pd_0_1 rfl) rfl (by show 2 * 0 + _ ≤ _; exact Nat.le_of_eq rfl) (hb hby at_39) (fun _ _ => ⟨rfl, rfl, (by decide : 5 + 0 ≤ _), (by decide : 3272 + 0 ≤ _)⟩)
      dsimp only [Pt.U, Pt.locs, Pt.cells, Pt.slots] at X5 l5 y5 z5 st5 hQ5
      subst l5 y5 z5
      obtain ⟨rfl, N5q, K5q, o5_F_lines_ix, o5_F_records_ix, o5_F_runRecords_ix, o5_F_runFirsts_ix, o5_F_topics_ix, o5_F_recordCount_ix, o5_F_runCount_ix, o5_F_origin_ix, o5_A_bl⟩ := hQ5
      have N5 := Fr.app N4 N5q
      have ne_br_ix : br ≠ ix := (Ne.symm (own_neA E_ix (hw _ (List.mem_of_getElem? (i := 1) rfl)) A_br))
      have ne_bq_ix : bq ≠ ix := (Ne.symm (own_neA E_ix (hw _ (List.mem_of_getElem? (i := 1) rfl)) A_bq))
      have ne_bf_ix : bf ≠ ix := (Ne.symm (own_neA E_ix (hw _ (List.mem_of_getElem? (i := 1) rfl)) A_bf))
      replace E_ix := E_ix.keep K5q
      replace A_br := A_br.keep K5q (ninS ne_br_ix (ninS (Ne.symm o4_ne_bl_br) nin0))
      replace A_bq := A_bq.keep K5q (ninS ne_bq_ix (ninS (Ne.symm o4_ne_bl_bq) nin0))
      replace A_bf := A_bf.keep K5q (ninS ne_bf_ix (ninS (Ne.symm o4_ne_bl_bf) nin0))
      have Z5 := Nat.le_trans Z4 K5q.1
      have F_lines_ix := o5_F_lines_ix
      have F_records_ix := o5_F_records_ix
      have F_runRecords_ix := o5_F_runRecords_ix
      have F_runFirsts_ix := o5_F_runFirsts_ix
      have F_topics_ix := o5_F_topics_ix
      have F_recordCount_ix := o5_F_recordCount_ix
      have F_runCount_ix := o5_F_runCount_ix
      have F_origin_ix := o5_F_origin_ix
      have A_bl := o5_A_bl
      refine Go.step (fun t k => st5.trans k) ?_
      show Go _ _ _ _ _ _ _ (T5.setTop (mkF m 42 #[.val (.long qe), .second, .val (.long qp), .second, .val (.int di), .val (.long qq), .second, .val (.int fl), .val (.int (0 : Int32)), .val (.int (0 : Int32)), .val (.ref ix), .unset, .unset, .unset, .unset, .unset, .unset] [(.int (0 : Int32))]))
      refine Go.step (fun t k => XS.istore X5.here hx rfl (hb hby at_42) rfl (l' := #[.val (.long qe), .second, .val (.long qp), .second, .val (.int di), .val (.long qq), .second, .val (.int fl), .val (.int (0 : Int32)), .val (.int (0 : Int32)), .val (.ref ix), .val (.int (0 : Int32)), .unset, .unset, .unset, .unset, .unset]) rfl k) ?_
      show Go _ _ _ _ _ _ _ (T5.setTop (mkF m 44 #[.val (.long qe), .second, .val (.long qp), .second, .val (.int di), .val (.long qq), .second, .val (.int fl), .val (.int (0 : Int32)), .val (.int (0 : Int32)), .val (.ref ix), .val (.int (0 : Int32)), .unset, .unset, .unset, .unset, .unset] []))
      refine Go.step (fun t k => XS.aload X5.here hx rfl (hb hby at_44) rfl rfl k) ?_
      show Go _ _ _ _ _ _ _ (T5.setTop (mkF m 46 #[.val (.long qe), .second, .val (.long qp), .second, .val (.int di), .val (.long qq), .second, .val (.int fl), .val (.int (0 : Int32)), .val (.int (0 : Int32)), .val (.ref ix), .val (.int (0 : Int32)), .unset, .unset, .unset, .unset, .unset] [(.ref ix)]))
      obtain ⟨cq6, kq6, q6a, q6b, q6c⟩ := isOf hZ rfl E_ix
      obtain ⟨_, _, ⟨T6, L6, k6, n6⟩, -, X6, ⟨Lc6, hQ6, l6, y6, z6⟩, st6⟩ := X5.virtualBack hx (y := (⟨"com/example/ferrylog/ferrylog/store/LiveIndex", "addTopic", "()I"⟩ : MethodName)) (z := (⟨"com/example/ferrylog/ferrylog/store/LiveIndex", "addTopic", "()I"⟩ : MethodName)) hown (mvT hZ (hw _ (List.mem_of_getElem? (i := 19) rfl))) (mvT hZ (hw _ (List.mem_of_getElem? (i := 20) rfl))) (notFace_of_selects (args := #[]) (mvT hZ (hw _ (List.mem_of_getElem? (i := 22) rfl)))) (mvT hZ (hw _ (List.mem_of_getElem? (i := 22) rfl))) (mvT hZ (hw _ (List.mem_of_getElem? (i := 21) rfl))) (by decide) (backOf (W := 0) (rm3 l Z a0 hw [] ix (1 : Int32) 1 bl br bq bf (0 : Int32) (0 : Int32) (0 : Int64) (up (up (up (fun _ => (0 : Int64)) 0 (0 : Int64)) 1 (-1 : Int64)) 3 (4294967295 : Int64)) T5.heap n0 Z5 F_lines_ix F_records_ix F_runRecords_ix F_runFirsts_ix F_topics_ix F_recordCount_ix F_runCount_ix F_origin_ix E_ix g_ix o4_g_bl A_bl rfl (by decide)) hZ (hw _ (List.mem_of_getElem? (i := 23) rfl)) (hw _ (List.mem_of_getElem? (i := 2) rfl)) (by decide) (by decide)) q6a q6c (g := (mkF m 46 #[.val (.long qe), .second, .val (.long qp), .second, .val (.int di), .val (.long qq), .second, .val (.int fl), .val (.int (0 : Int32)), .val (.int (0 : Int32)), .val (.ref ix), .val (.int (0 : Int32)), .unset, .unset, .unset, .unset, .unset] [(.ref ix)])) rfl (by rw [hml]; rfl) (Steps.refl _) (argsL := []) (rest := []) (lenOf pd_0_1 rfl) rfl (by show 2 * 0 + _ ≤ _; exact Nat.le_of_eq rfl) (hb hby at_46) (fun _ _ => ⟨rfl, rfl, (by decide : 5 + 0 ≤ _), (by decide : 3272 + 0 ≤ _)⟩)
      dsimp only [Pt.U, Pt.locs, Pt.cells, Pt.slots] at X6 l6 y6 z6 st6 hQ6
      subst l6 y6 z6
      obtain ⟨rfl, N6q, K6q, o6_F_lines_ix, o6_F_records_ix, o6_F_runRecords_ix, o6_F_runFirsts_ix, o6_F_topics_ix, o6_F_recordCount_ix, o6_F_runCount_ix, o6_F_origin_ix, o6_A_bl⟩ := hQ6
      have N6 := Fr.app N5 N6q
      replace E_ix := E_ix.keep K6q
      replace A_br := A_br.keep K6q (ninS ne_br_ix (ninS (Ne.symm o4_ne_bl_br) nin0))
      replace A_bq := A_bq.keep K6q (ninS ne_bq_ix (ninS (Ne.symm o4_ne_bl_bq) nin0))
      replace A_bf := A_bf.keep K6q (ninS ne_bf_ix (ninS (Ne.symm o4_ne_bl_bf) nin0))
      have Z6 := Nat.le_trans Z5 K6q.1
      have F_lines_ix := o6_F_lines_ix
      have F_records_ix := o6_F_records_ix
      have F_runRecords_ix := o6_F_runRecords_ix
      have F_runFirsts_ix := o6_F_runFirsts_ix
      have F_topics_ix := o6_F_topics_ix
      have F_recordCount_ix := o6_F_recordCount_ix
      have F_runCount_ix := o6_F_runCount_ix
      have F_origin_ix := o6_F_origin_ix
      have A_bl := o6_A_bl
      refine Go.step (fun t k => st6.trans k) ?_
      show Go _ _ _ _ _ _ _ (T6.setTop (mkF m 49 #[.val (.long qe), .second, .val (.long qp), .second, .val (.int di), .val (.long qq), .second, .val (.int fl), .val (.int (0 : Int32)), .val (.int (0 : Int32)), .val (.ref ix), .val (.int (0 : Int32)), .unset, .unset, .unset, .unset, .unset] [(.int (1 : Int32))]))
      refine Go.step (fun t k => XS.istore X6.here hx rfl (hb hby at_49) rfl (l' := #[.val (.long qe), .second, .val (.long qp), .second, .val (.int di), .val (.long qq), .second, .val (.int fl), .val (.int (0 : Int32)), .val (.int (0 : Int32)), .val (.ref ix), .val (.int (0 : Int32)), .val (.int (1 : Int32)), .unset, .unset, .unset, .unset]) rfl k) ?_
      show Go _ _ _ _ _ _ _ (T6.setTop (mkF m 51 #[.val (.long qe), .second, .val (.long qp), .second, .val (.int di), .val (.long qq), .second, .val (.int fl), .val (.int (0 : Int32)), .val (.int (0 : Int32)), .val (.ref ix), .val (.int (0 : Int32)), .val (.int (1 : Int32)), .unset, .unset, .unset, .unset] []))
      refine Go.step (fun t k => XS.aload X6.here hx rfl (hb hby at_51) rfl rfl k) ?_
      show Go _ _ _ _ _ _ _ (T6.setTop (mkF m 53 #[.val (.long qe), .second, .val (.long qp), .second, .val (.int di), .val (.long qq), .second, .val (.int fl), .val (.int (0 : Int32)), .val (.int (0 : Int32)), .val (.ref ix), .val (.int (0 : Int32)), .val (.int (1 : Int32)), .unset, .unset, .unset, .unset] [(.ref ix)]))
      refine Go.step (fun t k => XS.iload X6.here hx rfl (hb hby at_53) rfl k) ?_
      show Go _ _ _ _ _ _ _ (T6.setTop (mkF m 55 #[.val (.long qe), .second, .val (.long qp), .second, .val (.int di), .val (.long qq), .second, .val (.int fl), .val (.int (0 : Int32)), .val (.int (0 : Int32)), .val (.ref ix), .val (.int (0 : Int32)), .val (.int (1 : Int32)), .unset, .unset, .unset, .unset] [(.int (0 : Int32)), (.ref ix)]))
      refine Go.step (fun t k => XS.lloadN X6.here hx rfl (hb hby at_55) rfl k) ?_
      show Go _ _ _ _ _ _ _ (T6.setTop (mkF m 56 #[.val (.long qe), .second, .val (.long qp), .second, .val (.int di), .val (.long qq), .second, .val (.int fl), .val (.int (0 : Int32)), .val (.int (0 : Int32)), .val (.ref ix), .val (.int (0 : Int32)), .val (.int (1 : Int32)), .unset, .unset, .unset, .unset] [(.long qe), (.int (0 : Int32)), (.ref ix)]))
      obtain ⟨cq7, kq7, q7a, q7b, q7c⟩ := isOf hZ rfl E_ix
      obtain ⟨_, _, ⟨T7, L7, k7, n7⟩, -, X7, ⟨Lc7, hQ7, l7, y7, z7⟩, st7⟩ := X6.virtualBack hx (y := (⟨"com/example/ferrylog/ferrylog/store/LiveIndex", "setEnd", "(IJ)V"⟩ : MethodName)) (z := (⟨"com/example/ferrylog/ferrylog/store/LiveIndex", "setEnd", "(IJ)V"⟩ : MethodName)) hown (mvT hZ (hw _ (List.mem_of_getElem? (i := 28) rfl))) (mvT hZ (hw _ (List.mem_of_getElem? (i := 29) rfl))) (notFace_of_selects (args := #[]) (mvT hZ (hw _ (List.mem_of_getElem? (i := 31) rfl)))) (mvT hZ (hw _ (List.mem_of_getElem? (i := 31) rfl))) (mvT hZ (hw _ (List.mem_of_getElem? (i := 30) rfl))) (by decide) (backOf (W := 0) (rm4 l Z a0 hw [] ix (0 : Int32) qe bl (up (up (up (up (up (up (fun _ => (0 : Int64)) 0 (0 : Int64)) 1 (-1 : Int64)) 3 (4294967295 : Int64)) 4 (0 : Int64)) 5 (-1 : Int64)) 7 (4294967295 : Int64)) 0 T6.heap n0 Z6 F_lines_ix A_bl (own_neA E_ix (hw _ (List.mem_of_getElem? (i := 1) rfl)) A_bl) o4_g_bl rfl (by decide)) hZ (hw _ (List.mem_of_getElem? (i := 32) rfl)) (hw _ (List.mem_of_getElem? (i := 2) rfl)) (by decide) (by decide)) q7a q7c (g := (mkF m 56 #[.val (.long qe), .second, .val (.long qp), .second, .val (.int di), .val (.long qq), .second, .val (.int fl), .val (.int (0 : Int32)), .val (.int (0 : Int32)), .val (.ref ix), .val (.int (0 : Int32)), .val (.int (1 : Int32)), .unset, .unset, .unset, .unset] [(.long qe), (.int (0 : Int32)), (.ref ix)])) rfl (by rw [hml]; rfl) (Steps.refl _) (argsL := [(.int (0 : Int32)), (.long qe)]) (rest := []) (lenOf pd_0_2 rfl) rfl (by show 2 * 0 + _ ≤ _; exact Nat.le_of_eq rfl) (hb hby at_56) (fun _ _ => ⟨rfl, rfl, (by decide : 5 + 0 ≤ _), (by decide : 3272 + 0 ≤ _)⟩)
      dsimp only [Pt.U, Pt.locs, Pt.cells, Pt.slots] at X7 l7 y7 z7 st7 hQ7
      subst l7 y7 z7
      obtain ⟨rfl, N7q, K7q, o7_A_bl⟩ := hQ7
      have N7 := Fr.app N6 N7q
      have ne_ix_bl : ix ≠ bl := (own_neA E_ix (hw _ (List.mem_of_getElem? (i := 1) rfl)) A_bl)
      replace E_ix := E_ix.keep K7q
      replace A_br := A_br.keep K7q (ninS (Ne.symm o4_ne_bl_br) nin0)
      replace A_bq := A_bq.keep K7q (ninS (Ne.symm o4_ne_bl_bq) nin0)
      replace A_bf := A_bf.keep K7q (ninS (Ne.symm o4_ne_bl_bf) nin0)
      replace F_lines_ix := F_lines_ix.keep K7q (ninS ne_ix_bl nin0)
      replace F_records_ix := F_records_ix.keep K7q (ninS ne_ix_bl nin0)
      replace F_runRecords_ix := F_runRecords_ix.keep K7q (ninS ne_ix_bl nin0)
      replace F_runFirsts_ix := F_runFirsts_ix.keep K7q (ninS ne_ix_bl nin0)
      replace F_topics_ix := F_topics_ix.keep K7q (ninS ne_ix_bl nin0)
      replace F_recordCount_ix := F_recordCount_ix.keep K7q (ninS ne_ix_bl nin0)
      replace F_runCount_ix := F_runCount_ix.keep K7q (ninS ne_ix_bl nin0)
      replace F_origin_ix := F_origin_ix.keep K7q (ninS ne_ix_bl nin0)
      have Z7 := Nat.le_trans Z6 K7q.1
      have A_bl := o7_A_bl
      refine Go.step (fun t k => st7.trans k) ?_
      show Go _ _ _ _ _ _ _ (T7.setTop (mkF m 59 #[.val (.long qe), .second, .val (.long qp), .second, .val (.int di), .val (.long qq), .second, .val (.int fl), .val (.int (0 : Int32)), .val (.int (0 : Int32)), .val (.ref ix), .val (.int (0 : Int32)), .val (.int (1 : Int32)), .unset, .unset, .unset, .unset] []))
      refine Go.step (fun t k => XS.aload X7.here hx rfl (hb hby at_59) rfl rfl k) ?_
      show Go _ _ _ _ _ _ _ (T7.setTop (mkF m 61 #[.val (.long qe), .second, .val (.long qp), .second, .val (.int di), .val (.long qq), .second, .val (.int fl), .val (.int (0 : Int32)), .val (.int (0 : Int32)), .val (.ref ix), .val (.int (0 : Int32)), .val (.int (1 : Int32)), .unset, .unset, .unset, .unset] [(.ref ix)]))
      refine Go.step (fun t k => XS.iload X7.here hx rfl (hb hby at_61) rfl k) ?_
      show Go _ _ _ _ _ _ _ (T7.setTop (mkF m 63 #[.val (.long qe), .second, .val (.long qp), .second, .val (.int di), .val (.long qq), .second, .val (.int fl), .val (.int (0 : Int32)), .val (.int (0 : Int32)), .val (.ref ix), .val (.int (0 : Int32)), .val (.int (1 : Int32)), .unset, .unset, .unset, .unset] [(.int (0 : Int32)), (.ref ix)]))
      refine Go.step (fun t k => XS.lloadN X7.here hx rfl (hb hby at_63) rfl k) ?_
      show Go _ _ _ _ _ _ _ (T7.setTop (mkF m 64 #[.val (.long qe), .second, .val (.long qp), .second, .val (.int di), .val (.long qq), .second, .val (.int fl), .val (.int (0 : Int32)), .val (.int (0 : Int32)), .val (.ref ix), .val (.int (0 : Int32)), .val (.int (1 : Int32)), .unset, .unset, .unset, .unset] [(.long qp), (.int (0 : Int32)), (.ref ix)]))
      obtain ⟨cq8, kq8, q8a, q8b, q8c⟩ := isOf hZ rfl E_ix
      obtain ⟨_, _, ⟨T8, L8, k8, n8⟩, -, X8, ⟨Lc8, hQ8, l8, y8, z8⟩, st8⟩ := X7.virtualBack hx (y := (⟨"com/example/ferrylog/ferrylog/store/LiveIndex", "addRecord", "(IJ)V"⟩ : MethodName)) (z := (⟨"com/example/ferrylog/ferrylog/store/LiveIndex", "addRecord", "(IJ)V"⟩ : MethodName)) hown (mvT hZ (hw _ (List.mem_of_getElem? (i := 33) rfl))) (mvT hZ (hw _ (List.mem_of_getElem? (i := 34) rfl))) (notFace_of_selects (args := #[]) (mvT hZ (hw _ (List.mem_of_getElem? (i := 36) rfl)))) (mvT hZ (hw _ (List.mem_of_getElem? (i := 36) rfl))) (mvT hZ (hw _ (List.mem_of_getElem? (i := 35) rfl))) (by decide) (backOf (W := 0) (rm5_0 l Z a0 hw [] ix (0 : Int32) qp bl br bq bf (2 : Int32) (0 : Int32) (0 : Int64) 0 0 (up (up (up (up (up (up (up (fun _ => (0 : Int64)) 0 (0 : Int64)) 1 (-1 : Int64)) 3 (4294967295 : Int64)) 4 (0 : Int64)) 5 (-1 : Int64)) 7 (4294967295 : Int64)) 0 qe) (fun _ => (0 : Int32)) (fun _ => (0 : Int32)) (fun _ => (0 : Int64)) T7.heap n0 Z7 F_lines_ix F_records_ix F_runRecords_ix F_runFirsts_ix F_topics_ix F_recordCount_ix F_runCount_ix F_origin_ix E_ix g_ix o4_g_bl o4_g_br o4_g_bq o4_g_bf o4_ne_bl_br o4_ne_bl_bq o4_ne_bl_bf o4_ne_br_bq o4_ne_br_bf o4_ne_bq_bf A_bl A_br A_bq A_bf rfl (by decide) rfl (by decide) (show ((4294967295 : Int64).toInt32) < (0 : Int32) by decide +kernel) (own_pp qp)) hZ (hw _ (List.mem_of_getElem? (i := 37) rfl)) (hw _ (List.mem_of_getElem? (i := 2) rfl)) (by decide) (by decide)) q8a q8c (g := (mkF m 64 #[.val (.long qe), .second, .val (.long qp), .second, .val (.int di), .val (.long qq), .second, .val (.int fl), .val (.int (0 : Int32)), .val (.int (0 : Int32)), .val (.ref ix), .val (.int (0 : Int32)), .val (.int (1 : Int32)), .unset, .unset, .unset, .unset] [(.long qp), (.int (0 : Int32)), (.ref ix)])) rfl (by rw [hml]; rfl) (Steps.refl _) (argsL := [(.int (0 : Int32)), (.long qp)]) (rest := []) (lenOf pd_0_2 rfl) rfl (by show 2 * 0 + _ ≤ _; exact Nat.le_of_eq rfl) (hb hby at_64) (fun _ _ => ⟨rfl, rfl, (by decide : 5 + 0 ≤ _), (by decide : 3272 + 0 ≤ _)⟩)
      dsimp only [Pt.U, Pt.locs, Pt.cells, Pt.slots] at X8 l8 y8 z8 st8 hQ8
      subst l8 y8 z8
      obtain ⟨rfl, N8q, K8q, o8_F_lines_ix, o8_F_records_ix, o8_F_runRecords_ix, o8_F_runFirsts_ix, o8_F_topics_ix, o8_F_recordCount_ix, o8_F_runCount_ix, o8_F_origin_ix, o8_A_bl, o8_A_br, o8_A_bq, o8_A_bf⟩ := hQ8
      have N8 := Fr.app N7 N8q
      replace E_ix := E_ix.keep K8q
      have Z8 := Nat.le_trans Z7 K8q.1
      have F_lines_ix := o8_F_lines_ix
      have F_records_ix := o8_F_records_ix
      have F_runRecords_ix := o8_F_runRecords_ix
      have F_runFirsts_ix := o8_F_runFirsts_ix
      have F_topics_ix := o8_F_topics_ix
      have F_recordCount_ix := o8_F_recordCount_ix
      have F_runCount_ix := o8_F_runCount_ix
      have F_origin_ix := o8_F_origin_ix
      have A_bl := o8_A_bl
      have A_br := o8_A_br
      have A_bq := o8_A_bq
      have A_bf := o8_A_bf
      refine Go.step (fun t k => st8.trans k) ?_
      show Go _ _ _ _ _ _ _ (T8.setTop (mkF m 67 #[.val (.long qe), .second, .val (.long qp), .second, .val (.int di), .val (.long qq), .second, .val (.int fl), .val (.int (0 : Int32)), .val (.int (0 : Int32)), .val (.ref ix), .val (.int (0 : Int32)), .val (.int (1 : Int32)), .unset, .unset, .unset, .unset] []))
      refine Go.step (fun t k => XS.iload X8.here hx rfl (hb hby at_67) rfl k) ?_
      show Go _ _ _ _ _ _ _ (T8.setTop (mkF m 69 #[.val (.long qe), .second, .val (.long qp), .second, .val (.int di), .val (.long qq), .second, .val (.int fl), .val (.int (0 : Int32)), .val (.int (0 : Int32)), .val (.ref ix), .val (.int (0 : Int32)), .val (.int (1 : Int32)), .unset, .unset, .unset, .unset] [(.int (0 : Int32))]))
      refine Go.step (fun t k => XS.ifYes X8.here hx rfl (pc0 := 69) (pc' := 84) rfl (hb hby at_69) rfl ((if0 _ _).trans (teq (by decide : (0 : Int32) = (0 : Int32))).1) (by decide) (by decide) k) ?_
      show Go _ _ _ _ _ _ _ (T8.setTop (mkF m 84 #[.val (.long qe), .second, .val (.long qp), .second, .val (.int di), .val (.long qq), .second, .val (.int fl), .val (.int (0 : Int32)), .val (.int (0 : Int32)), .val (.ref ix), .val (.int (0 : Int32)), .val (.int (1 : Int32)), .unset, .unset, .unset, .unset] []))
      refine Go.step (fun t k => XS.iload X8.here hx rfl (hb hby at_84) rfl k) ?_
      show Go _ _ _ _ _ _ _ (T8.setTop (mkF m 86 #[.val (.long qe), .second, .val (.long qp), .second, .val (.int di), .val (.long qq), .second, .val (.int fl), .val (.int (0 : Int32)), .val (.int (0 : Int32)), .val (.ref ix), .val (.int (0 : Int32)), .val (.int (1 : Int32)), .unset, .unset, .unset, .unset] [(.int (0 : Int32))]))
      refine Go.step (fun t k => XS.ifYes X8.here hx rfl (pc0 := 86) (pc' := 97) rfl (hb hby at_86) rfl ((if0 _ _).trans (teq (by decide : (0 : Int32) = (0 : Int32))).1) (by decide) (by decide) k) ?_
      show Go _ _ _ _ _ _ _ (T8.setTop (mkF m 97 #[.val (.long qe), .second, .val (.long qp), .second, .val (.int di), .val (.long qq), .second, .val (.int fl), .val (.int (0 : Int32)), .val (.int (0 : Int32)), .val (.ref ix), .val (.int (0 : Int32)), .val (.int (1 : Int32)), .unset, .unset, .unset, .unset] []))
      refine Go.step (fun t k => XS.aload X8.here hx rfl (hb hby at_97) rfl rfl k) ?_
      show Go _ _ _ _ _ _ _ (T8.setTop (mkF m 99 #[.val (.long qe), .second, .val (.long qp), .second, .val (.int di), .val (.long qq), .second, .val (.int fl), .val (.int (0 : Int32)), .val (.int (0 : Int32)), .val (.ref ix), .val (.int (0 : Int32)), .val (.int (1 : Int32)), .unset, .unset, .unset, .unset] [(.ref ix)]))
      obtain ⟨cq9, kq9, q9a, q9b, q9c⟩ := isOf hZ rfl E_ix
      obtain ⟨_, _, ⟨T9, L9, k9, n9⟩, -, X9, ⟨Lc9, hQ9, l9, y9, z9⟩, st9⟩ := X8.virtualBack hx (y := (⟨"com/example/ferrylog/ferrylog/store/LiveIndex", "checkpointed", "()V"⟩ : MethodName)) (z := (⟨"com/example/ferrylog/ferrylog/store/LiveIndex", "checkpointed", "()V"⟩ : MethodName)) hown (mvT hZ (hw _ (List.mem_of_getElem? (i := 60) rfl))) (mvT hZ (hw _ (List.mem_of_getElem? (i := 61) rfl))) (notFace_of_selects (args := #[]) (mvT hZ (hw _ (List.mem_of_getElem? (i := 63) rfl)))) (mvT hZ (hw _ (List.mem_of_getElem? (i := 63) rfl))) (mvT hZ (hw _ (List.mem_of_getElem? (i := 62) rfl))) (by decide) (backOf (W := 0) (rm9 l Z a0 hw [] ix bl br bq bf (1 : Int32) (1 : Int32) qp (up (up (up (up (up (up (up (up (up (up (fun _ => (0 : Int64)) 0 (0 : Int64)) 1 (-1 : Int64)) 3 (4294967295 : Int64)) 4 (0 : Int64)) 5 (-1 : Int64)) 7 (4294967295 : Int64)) 0 qe) 3 (((4294967295 : Int64) &&& (-4294967296 : Int64)) ||| ((0 : Int32).toInt64))) 0 (qe + (1 : Int64))) 2 (qe + (1 : Int64))) (up (up (up (fun _ => (0 : Int32)) 0 ((qp - qp).toInt32)) 1 ((0 : Int32) ||| (-2147483648 : Int32))) 2 ((4294967295 : Int64).toInt32)) (up (fun _ => (0 : Int32)) 0 (0 : Int32)) T8.heap n0 Z8 F_lines_ix F_records_ix F_runRecords_ix F_runFirsts_ix F_topics_ix F_recordCount_ix F_runCount_ix F_origin_ix E_ix g_ix o4_g_bl A_bl A_br A_bq o4_ne_bl_br o4_ne_bl_bq ne_ix_bl) hZ (hw _ (List.mem_of_getElem? (i := 64) rfl)) (hw _ (List.mem_of_getElem? (i := 2) rfl)) (by decide) (by decide)) q9a q9c (g := (mkF m 99 #[.val (.long qe), .second, .val (.long qp), .second, .val (.int di), .val (.long qq), .second, .val (.int fl), .val (.int (0 : Int32)), .val (.int (0 : Int32)), .val (.ref ix), .val (.int (0 : Int32)), .val (.int (1 : Int32)), .unset, .unset, .unset, .unset] [(.ref ix)])) rfl (by rw [hml]; rfl) (Steps.refl _) (argsL := []) (rest := []) (lenOf pd_0_0 rfl) rfl (by show 2 * 0 + _ ≤ _; exact Nat.le_of_eq rfl) (hb hby at_99) (fun _ _ => ⟨rfl, rfl, (by decide : 5 + 0 ≤ _), (by decide : 3272 + 0 ≤ _)⟩)
      dsimp only [Pt.U, Pt.locs, Pt.cells, Pt.slots] at X9 l9 y9 z9 st9 hQ9
      subst l9 y9 z9
      obtain ⟨rfl, N9q, K9q, o9_F_lines_ix, o9_F_records_ix, o9_F_runRecords_ix, o9_F_runFirsts_ix, o9_F_topics_ix, o9_F_recordCount_ix, o9_F_runCount_ix, o9_F_origin_ix, o9_A_bl⟩ := hQ9
      have N9 := Fr.app N8 N9q
      replace E_ix := E_ix.keep K9q
      replace A_br := A_br.keep K9q (ninS ne_br_ix (ninS (Ne.symm o4_ne_bl_br) nin0))
      replace A_bq := A_bq.keep K9q (ninS ne_bq_ix (ninS (Ne.symm o4_ne_bl_bq) nin0))
      replace A_bf := A_bf.keep K9q (ninS ne_bf_ix (ninS (Ne.symm o4_ne_bl_bf) nin0))
      have Z9 := Nat.le_trans Z8 K9q.1
      have F_lines_ix := o9_F_lines_ix
      have F_records_ix := o9_F_records_ix
      have F_runRecords_ix := o9_F_runRecords_ix
      have F_runFirsts_ix := o9_F_runFirsts_ix
      have F_topics_ix := o9_F_topics_ix
      have F_recordCount_ix := o9_F_recordCount_ix
      have F_runCount_ix := o9_F_runCount_ix
      have F_origin_ix := o9_F_origin_ix
      have A_bl := o9_A_bl
      refine Go.step (fun t k => st9.trans k) ?_
      show Go _ _ _ _ _ _ _ (T9.setTop (mkF m 102 #[.val (.long qe), .second, .val (.long qp), .second, .val (.int di), .val (.long qq), .second, .val (.int fl), .val (.int (0 : Int32)), .val (.int (0 : Int32)), .val (.ref ix), .val (.int (0 : Int32)), .val (.int (1 : Int32)), .unset, .unset, .unset, .unset] []))
      refine Go.step (fun t k => XS.aload X9.here hx rfl (hb hby at_102) rfl rfl k) ?_
      show Go _ _ _ _ _ _ _ (T9.setTop (mkF m 104 #[.val (.long qe), .second, .val (.long qp), .second, .val (.int di), .val (.long qq), .second, .val (.int fl), .val (.int (0 : Int32)), .val (.int (0 : Int32)), .val (.ref ix), .val (.int (0 : Int32)), .val (.int (1 : Int32)), .unset, .unset, .unset, .unset] [(.ref ix)]))
      refine Go.step (fun t k => XS.iload X9.here hx rfl (hb hby at_104) rfl k) ?_
      show Go _ _ _ _ _ _ _ (T9.setTop (mkF m 106 #[.val (.long qe), .second, .val (.long qp), .second, .val (.int di), .val (.long qq), .second, .val (.int fl), .val (.int (0 : Int32)), .val (.int (0 : Int32)), .val (.ref ix), .val (.int (0 : Int32)), .val (.int (1 : Int32)), .unset, .unset, .unset, .unset] [(.int (0 : Int32)), (.ref ix)]))
      obtain ⟨cq10, kq10, q10a, q10b, q10c⟩ := isOf hZ rfl E_ix
      obtain ⟨_, _, ⟨T10, L10, k10, n10⟩, -, X10, ⟨Lc10, hQ10, l10, y10, z10⟩, st10⟩ := X9.virtualBack hx (y := (⟨"com/example/ferrylog/ferrylog/store/LiveIndex", "last", "(I)I"⟩ : MethodName)) (z := (⟨"com/example/ferrylog/ferrylog/store/LiveIndex", "last", "(I)I"⟩ : MethodName)) hown (mvT hZ (hw _ (List.mem_of_getElem? (i := 65) rfl))) (mvT hZ (hw _ (List.mem_of_getElem? (i := 66) rfl))) (notFace_of_selects (args := #[]) (mvT hZ (hw _ (List.mem_of_getElem? (i := 68) rfl)))) (mvT hZ (hw _ (List.mem_of_getElem? (i := 68) rfl))) (mvT hZ (hw _ (List.mem_of_getElem? (i := 67) rfl))) (by decide) (backOf (W := 0) (rm10 l Z a0 hw [] ix (0 : Int32) bl (up (up (up (up (up (up (up (up (up (up (up (up (fun _ => (0 : Int64)) 0 (0 : Int64)) 1 (-1 : Int64)) 3 (4294967295 : Int64)) 4 (0 : Int64)) 5 (-1 : Int64)) 7 (4294967295 : Int64)) 0 qe) 3 (((4294967295 : Int64) &&& (-4294967296 : Int64)) ||| ((0 : Int32).toInt64))) 0 (qe + (1 : Int64))) 2 (qe + (1 : Int64))) 3 ((((4294967295 : Int64) &&& (-4294967296 : Int64)) ||| ((0 : Int32).toInt64)) ||| (4294967295 : Int64))) 7 ((4294967295 : Int64) ||| (4294967295 : Int64))) 0 T9.heap n0 Z9 F_lines_ix A_bl ne_ix_bl rfl (by decide)) hZ (hw _ (List.mem_of_getElem? (i := 69) rfl)) (hw _ (List.mem_of_getElem? (i := 2) rfl)) (by decide) (by decide)) q10a q10c (g := (mkF m 106 #[.val (.long qe), .second, .val (.long qp), .second, .val (.int di), .val (.long qq), .second, .val (.int fl), .val (.int (0 : Int32)), .val (.int (0 : Int32)), .val (.ref ix), .val (.int (0 : Int32)), .val (.int (1 : Int32)), .unset, .unset, .unset, .unset] [(.int (0 : Int32)), (.ref ix)])) rfl (by rw [hml]; rfl) (Steps.refl _) (argsL := [(.int (0 : Int32))]) (rest := []) (lenOf pd_0_3 rfl) rfl (by show 2 * 0 + _ ≤ _; exact Nat.le_of_eq rfl) (hb hby at_106) (fun _ _ => ⟨rfl, rfl, (by decide : 5 + 0 ≤ _), (by decide : 3272 + 0 ≤ _)⟩)
      dsimp only [Pt.U, Pt.locs, Pt.cells, Pt.slots] at X10 l10 y10 z10 st10 hQ10
      subst l10 y10 z10
      obtain ⟨rfl, N10q, K10q⟩ := hQ10
      have N10 := Fr.app N9 N10q
      refine Go.step (fun t k => st10.trans k) ?_
      show Go _ _ _ _ _ _ _ (T10.setTop (mkF m 109 #[.val (.long qe), .second, .val (.long qp), .second, .val (.int di), .val (.long qq), .second, .val (.int fl), .val (.int (0 : Int32)), .val (.int (0 : Int32)), .val (.ref ix), .val (.int (0 : Int32)), .val (.int (1 : Int32)), .unset, .unset, .unset, .unset] [(.int (((((4294967295 : Int64) &&& (-4294967296 : Int64)) ||| ((0 : Int32).toInt64)) ||| (4294967295 : Int64)).toInt32))]))
      refine Go.step (fun t k => XS.iconst X10.here hx rfl (hb hby at_109) k) ?_
      show Go _ _ _ _ _ _ _ (T10.setTop (mkF m 110 #[.val (.long qe), .second, .val (.long qp), .second, .val (.int di), .val (.long qq), .second, .val (.int fl), .val (.int (0 : Int32)), .val (.int (0 : Int32)), .val (.ref ix), .val (.int (0 : Int32)), .val (.int (1 : Int32)), .unset, .unset, .unset, .unset] [(.int (-1 : Int32)), (.int (((((4294967295 : Int64) &&& (-4294967296 : Int64)) ||| ((0 : Int32).toInt64)) ||| (4294967295 : Int64)).toInt32))]))
      refine Go.step (fun t k => XS.icmpYes X10.here hx rfl (pc0 := 110) (pc' := 115) rfl (hb hby at_110) rfl (teq ((by decide +kernel) : (((((4294967295 : Int64) &&& (-4294967296 : Int64)) ||| ((0 : Int32).toInt64)) ||| (4294967295 : Int64)).toInt32) = (-1 : Int32))).1 (by decide) (by decide) k) ?_
      show Go _ _ _ _ _ _ _ (T10.setTop (mkF m 115 #[.val (.long qe), .second, .val (.long qp), .second, .val (.int di), .val (.long qq), .second, .val (.int fl), .val (.int (0 : Int32)), .val (.int (0 : Int32)), .val (.ref ix), .val (.int (0 : Int32)), .val (.int (1 : Int32)), .unset, .unset, .unset, .unset] []))
      refine Go.step (fun t k => XS.aload X10.here hx rfl (hb hby at_115) rfl rfl k) ?_
      show Go _ _ _ _ _ _ _ (T10.setTop (mkF m 117 #[.val (.long qe), .second, .val (.long qp), .second, .val (.int di), .val (.long qq), .second, .val (.int fl), .val (.int (0 : Int32)), .val (.int (0 : Int32)), .val (.ref ix), .val (.int (0 : Int32)), .val (.int (1 : Int32)), .unset, .unset, .unset, .unset] [(.ref ix)]))
      refine Go.step (fun t k => XS.iload X10.here hx rfl (hb hby at_117) rfl k) ?_
      show Go _ _ _ _ _ _ _ (T10.setTop (mkF m 119 #[.val (.long qe), .second, .val (.long qp), .second, .val (.int di), .val (.long qq), .second, .val (.int fl), .val (.int (0 : Int32)), .val (.int (0 : Int32)), .val (.ref ix), .val (.int (0 : Int32)), .val (.int (1 : Int32)), .unset, .unset, .unset, .unset] [(.int (0 : Int32)), (.ref ix)]))
      obtain ⟨cq11, kq11, q11a, q11b, q11c⟩ := isOf hZ K10q E_ix
      obtain ⟨_, _, ⟨T11, L11, k11, n11⟩, -, X11, ⟨Lc11, hQ11, l11, y11, z11⟩, st11⟩ := X10.virtualBack hx (y := (⟨"com/example/ferrylog/ferrylog/store/LiveIndex", "giveOffset", "(I)J"⟩ : MethodName)) (z := (⟨"com/example/ferrylog/ferrylog/store/LiveIndex", "giveOffset", "(I)J"⟩ : MethodName)) hown (mvT hZ (hw _ (List.mem_of_getElem? (i := 54) rfl))) (mvT hZ (hw _ (List.mem_of_getElem? (i := 55) rfl))) (notFace_of_selects (args := #[]) (mvT hZ (hw _ (List.mem_of_getElem? (i := 57) rfl)))) (mvT hZ (hw _ (List.mem_of_getElem? (i := 57) rfl))) (mvT hZ (hw _ (List.mem_of_getElem? (i := 56) rfl))) (by decide) (backOf (W := 0) (rm8 l Z a0 hw [] ix (0 : Int32) bl (up (up (up (up (up (up (up (up (up (up (up (up (fun _ => (0 : Int64)) 0 (0 : Int64)) 1 (-1 : Int64)) 3 (4294967295 : Int64)) 4 (0 : Int64)) 5 (-1 : Int64)) 7 (4294967295 : Int64)) 0 qe) 3 (((4294967295 : Int64) &&& (-4294967296 : Int64)) ||| ((0 : Int32).toInt64))) 0 (qe + (1 : Int64))) 2 (qe + (1 : Int64))) 3 ((((4294967295 : Int64) &&& (-4294967296 : Int64)) ||| ((0 : Int32).toInt64)) ||| (4294967295 : Int64))) 7 ((4294967295 : Int64) ||| (4294967295 : Int64))) 0 T9.heap n0 Z9 F_lines_ix A_bl ne_ix_bl o4_g_bl rfl (by decide)) hZ (hw _ (List.mem_of_getElem? (i := 58) rfl)) (hw _ (List.mem_of_getElem? (i := 2) rfl)) (by decide) (by decide)) q11a q11c (g := (mkF m 119 #[.val (.long qe), .second, .val (.long qp), .second, .val (.int di), .val (.long qq), .second, .val (.int fl), .val (.int (0 : Int32)), .val (.int (0 : Int32)), .val (.ref ix), .val (.int (0 : Int32)), .val (.int (1 : Int32)), .unset, .unset, .unset, .unset] [(.int (0 : Int32)), (.ref ix)])) rfl (by rw [hml]; rfl) (Steps.refl _) (argsL := [(.int (0 : Int32))]) (rest := []) (lenOf pd_0_4 rfl) rfl (by show 2 * 0 + _ ≤ _; exact Nat.le_of_eq rfl) (hb hby at_119) (fun _ _ => ⟨rfl, K10q, (by decide : 5 + 0 ≤ _), (by decide : 3272 + 0 ≤ _)⟩)
      dsimp only [Pt.U, Pt.locs, Pt.cells, Pt.slots] at X11 l11 y11 z11 st11 hQ11
      subst l11 y11 z11
      obtain ⟨rfl, N11q, K11q, o11_A_bl⟩ := hQ11
      have N11 := Fr.app N10 N11q
      replace E_ix := E_ix.keep K11q
      replace A_br := A_br.keep K11q (ninS (Ne.symm o4_ne_bl_br) nin0)
      replace A_bq := A_bq.keep K11q (ninS (Ne.symm o4_ne_bl_bq) nin0)
      replace A_bf := A_bf.keep K11q (ninS (Ne.symm o4_ne_bl_bf) nin0)
      replace F_lines_ix := F_lines_ix.keep K11q (ninS ne_ix_bl nin0)
      replace F_records_ix := F_records_ix.keep K11q (ninS ne_ix_bl nin0)
      replace F_runRecords_ix := F_runRecords_ix.keep K11q (ninS ne_ix_bl nin0)
      replace F_runFirsts_ix := F_runFirsts_ix.keep K11q (ninS ne_ix_bl nin0)
      replace F_topics_ix := F_topics_ix.keep K11q (ninS ne_ix_bl nin0)
      replace F_recordCount_ix := F_recordCount_ix.keep K11q (ninS ne_ix_bl nin0)
      replace F_runCount_ix := F_runCount_ix.keep K11q (ninS ne_ix_bl nin0)
      replace F_origin_ix := F_origin_ix.keep K11q (ninS ne_ix_bl nin0)
      have Z11 := Nat.le_trans Z9 K11q.1
      have A_bl := o11_A_bl
      refine Go.step (fun t k => st11.trans k) ?_
      show Go _ _ _ _ _ _ _ (T11.setTop (mkF m 122 #[.val (.long qe), .second, .val (.long qp), .second, .val (.int di), .val (.long qq), .second, .val (.int fl), .val (.int (0 : Int32)), .val (.int (0 : Int32)), .val (.ref ix), .val (.int (0 : Int32)), .val (.int (1 : Int32)), .unset, .unset, .unset, .unset] [(.long ((qe + (1 : Int64)) + ((((((4294967295 : Int64) &&& (-4294967296 : Int64)) ||| ((0 : Int32).toInt64)) ||| (4294967295 : Int64)).toUInt64 >>> ((32 : Int32) &&& 0x3f).toInt64.toUInt64).toInt64)))]))
      refine Go.step (fun t k => XS.lstore X11.here hx rfl (hb hby at_122) rfl (l' := #[.val (.long qe), .second, .val (.long qp), .second, .val (.int di), .val (.long qq), .second, .val (.int fl), .val (.int (0 : Int32)), .val (.int (0 : Int32)), .val (.ref ix), .val (.int (0 : Int32)), .val (.int (1 : Int32)), .val (.long ((qe + (1 : Int64)) + ((((((4294967295 : Int64) &&& (-4294967296 : Int64)) ||| ((0 : Int32).toInt64)) ||| (4294967295 : Int64)).toUInt64 >>> ((32 : Int32) &&& 0x3f).toInt64.toUInt64).toInt64))), .second, .unset, .unset]) rfl k) ?_
      show Go _ _ _ _ _ _ _ (T11.setTop (mkF m 124 #[.val (.long qe), .second, .val (.long qp), .second, .val (.int di), .val (.long qq), .second, .val (.int fl), .val (.int (0 : Int32)), .val (.int (0 : Int32)), .val (.ref ix), .val (.int (0 : Int32)), .val (.int (1 : Int32)), .val (.long ((qe + (1 : Int64)) + ((((((4294967295 : Int64) &&& (-4294967296 : Int64)) ||| ((0 : Int32).toInt64)) ||| (4294967295 : Int64)).toUInt64 >>> ((32 : Int32) &&& 0x3f).toInt64.toUInt64).toInt64))), .second, .unset, .unset] []))
      refine Go.step (fun t k => XS.lload X11.here hx rfl (hb hby at_124) rfl k) ?_
      show Go _ _ _ _ _ _ _ (T11.setTop (mkF m 126 #[.val (.long qe), .second, .val (.long qp), .second, .val (.int di), .val (.long qq), .second, .val (.int fl), .val (.int (0 : Int32)), .val (.int (0 : Int32)), .val (.ref ix), .val (.int (0 : Int32)), .val (.int (1 : Int32)), .val (.long ((qe + (1 : Int64)) + ((((((4294967295 : Int64) &&& (-4294967296 : Int64)) ||| ((0 : Int32).toInt64)) ||| (4294967295 : Int64)).toUInt64 >>> ((32 : Int32) &&& 0x3f).toInt64.toUInt64).toInt64))), .second, .unset, .unset] [(.long ((qe + (1 : Int64)) + ((((((4294967295 : Int64) &&& (-4294967296 : Int64)) ||| ((0 : Int32).toInt64)) ||| (4294967295 : Int64)).toUInt64 >>> ((32 : Int32) &&& 0x3f).toInt64.toUInt64).toInt64)))]))
      refine Go.step (fun t k => XS.lloadN X11.here hx rfl (hb hby at_126) rfl k) ?_
      show Go _ _ _ _ _ _ _ (T11.setTop (mkF m 127 #[.val (.long qe), .second, .val (.long qp), .second, .val (.int di), .val (.long qq), .second, .val (.int fl), .val (.int (0 : Int32)), .val (.int (0 : Int32)), .val (.ref ix), .val (.int (0 : Int32)), .val (.int (1 : Int32)), .val (.long ((qe + (1 : Int64)) + ((((((4294967295 : Int64) &&& (-4294967296 : Int64)) ||| ((0 : Int32).toInt64)) ||| (4294967295 : Int64)).toUInt64 >>> ((32 : Int32) &&& 0x3f).toInt64.toUInt64).toInt64))), .second, .unset, .unset] [(.long qe), (.long ((qe + (1 : Int64)) + ((((((4294967295 : Int64) &&& (-4294967296 : Int64)) ||| ((0 : Int32).toInt64)) ||| (4294967295 : Int64)).toUInt64 >>> ((32 : Int32) &&& 0x3f).toInt64.toUInt64).toInt64)))]))
      refine Go.step (fun t k => XS.lconst X11.here hx rfl (hb hby at_127) k) ?_
      show Go _ _ _ _ _ _ _ (T11.setTop (mkF m 128 #[.val (.long qe), .second, .val (.long qp), .second, .val (.int di), .val (.long qq), .second, .val (.int fl), .val (.int (0 : Int32)), .val (.int (0 : Int32)), .val (.ref ix), .val (.int (0 : Int32)), .val (.int (1 : Int32)), .val (.long ((qe + (1 : Int64)) + ((((((4294967295 : Int64) &&& (-4294967296 : Int64)) ||| ((0 : Int32).toInt64)) ||| (4294967295 : Int64)).toUInt64 >>> ((32 : Int32) &&& 0x3f).toInt64.toUInt64).toInt64))), .second, .unset, .unset] [(.long (1 : Int64)), (.long qe), (.long ((qe + (1 : Int64)) + ((((((4294967295 : Int64) &&& (-4294967296 : Int64)) ||| ((0 : Int32).toInt64)) ||| (4294967295 : Int64)).toUInt64 >>> ((32 : Int32) &&& 0x3f).toInt64.toUInt64).toInt64)))]))
      refine Go.step (fun t k => XS.ladd X11.here hx rfl (hb hby at_128) rfl k) ?_
      show Go _ _ _ _ _ _ _ (T11.setTop (mkF m 129 #[.val (.long qe), .second, .val (.long qp), .second, .val (.int di), .val (.long qq), .second, .val (.int fl), .val (.int (0 : Int32)), .val (.int (0 : Int32)), .val (.ref ix), .val (.int (0 : Int32)), .val (.int (1 : Int32)), .val (.long ((qe + (1 : Int64)) + ((((((4294967295 : Int64) &&& (-4294967296 : Int64)) ||| ((0 : Int32).toInt64)) ||| (4294967295 : Int64)).toUInt64 >>> ((32 : Int32) &&& 0x3f).toInt64.toUInt64).toInt64))), .second, .unset, .unset] [(.long (qe + (1 : Int64))), (.long ((qe + (1 : Int64)) + ((((((4294967295 : Int64) &&& (-4294967296 : Int64)) ||| ((0 : Int32).toInt64)) ||| (4294967295 : Int64)).toUInt64 >>> ((32 : Int32) &&& 0x3f).toInt64.toUInt64).toInt64)))]))
      refine Go.step (fun t k => XS.iload X11.here hx rfl (hb hby at_129) rfl k) ?_
      show Go _ _ _ _ _ _ _ (T11.setTop (mkF m 131 #[.val (.long qe), .second, .val (.long qp), .second, .val (.int di), .val (.long qq), .second, .val (.int fl), .val (.int (0 : Int32)), .val (.int (0 : Int32)), .val (.ref ix), .val (.int (0 : Int32)), .val (.int (1 : Int32)), .val (.long ((qe + (1 : Int64)) + ((((((4294967295 : Int64) &&& (-4294967296 : Int64)) ||| ((0 : Int32).toInt64)) ||| (4294967295 : Int64)).toUInt64 >>> ((32 : Int32) &&& 0x3f).toInt64.toUInt64).toInt64))), .second, .unset, .unset] [(.int (0 : Int32)), (.long (qe + (1 : Int64))), (.long ((qe + (1 : Int64)) + ((((((4294967295 : Int64) &&& (-4294967296 : Int64)) ||| ((0 : Int32).toInt64)) ||| (4294967295 : Int64)).toUInt64 >>> ((32 : Int32) &&& 0x3f).toInt64.toUInt64).toInt64)))]))
      refine Go.step (fun t k => XS.ifYes X11.here hx rfl (pc0 := 131) (pc' := 138) rfl (hb hby at_131) rfl ((if0 _ _).trans (teq (by decide : (0 : Int32) = (0 : Int32))).1) (by decide) (by decide) k) ?_
      show Go _ _ _ _ _ _ _ (T11.setTop (mkF m 138 #[.val (.long qe), .second, .val (.long qp), .second, .val (.int di), .val (.long qq), .second, .val (.int fl), .val (.int (0 : Int32)), .val (.int (0 : Int32)), .val (.ref ix), .val (.int (0 : Int32)), .val (.int (1 : Int32)), .val (.long ((qe + (1 : Int64)) + ((((((4294967295 : Int64) &&& (-4294967296 : Int64)) ||| ((0 : Int32).toInt64)) ||| (4294967295 : Int64)).toUInt64 >>> ((32 : Int32) &&& 0x3f).toInt64.toUInt64).toInt64))), .second, .unset, .unset] [(.long (qe + (1 : Int64))), (.long ((qe + (1 : Int64)) + ((((((4294967295 : Int64) &&& (-4294967296 : Int64)) ||| ((0 : Int32).toInt64)) ||| (4294967295 : Int64)).toUInt64 >>> ((32 : Int32) &&& 0x3f).toInt64.toUInt64).toInt64)))]))
      refine Go.step (fun t k => XS.lconst X11.here hx rfl (hb hby at_138) k) ?_
      show Go _ _ _ _ _ _ _ (T11.setTop (mkF m 139 #[.val (.long qe), .second, .val (.long qp), .second, .val (.int di), .val (.long qq), .second, .val (.int fl), .val (.int (0 : Int32)), .val (.int (0 : Int32)), .val (.ref ix), .val (.int (0 : Int32)), .val (.int (1 : Int32)), .val (.long ((qe + (1 : Int64)) + ((((((4294967295 : Int64) &&& (-4294967296 : Int64)) ||| ((0 : Int32).toInt64)) ||| (4294967295 : Int64)).toUInt64 >>> ((32 : Int32) &&& 0x3f).toInt64.toUInt64).toInt64))), .second, .unset, .unset] [(.long (0 : Int64)), (.long (qe + (1 : Int64))), (.long ((qe + (1 : Int64)) + ((((((4294967295 : Int64) &&& (-4294967296 : Int64)) ||| ((0 : Int32).toInt64)) ||| (4294967295 : Int64)).toUInt64 >>> ((32 : Int32) &&& 0x3f).toInt64.toUInt64).toInt64)))]))
      refine Go.step (fun t k => XS.ladd X11.here hx rfl (hb hby at_139) rfl k) ?_
      show Go _ _ _ _ _ _ _ (T11.setTop (mkF m 140 #[.val (.long qe), .second, .val (.long qp), .second, .val (.int di), .val (.long qq), .second, .val (.int fl), .val (.int (0 : Int32)), .val (.int (0 : Int32)), .val (.ref ix), .val (.int (0 : Int32)), .val (.int (1 : Int32)), .val (.long ((qe + (1 : Int64)) + ((((((4294967295 : Int64) &&& (-4294967296 : Int64)) ||| ((0 : Int32).toInt64)) ||| (4294967295 : Int64)).toUInt64 >>> ((32 : Int32) &&& 0x3f).toInt64.toUInt64).toInt64))), .second, .unset, .unset] [(.long ((qe + (1 : Int64)) + (0 : Int64))), (.long ((qe + (1 : Int64)) + ((((((4294967295 : Int64) &&& (-4294967296 : Int64)) ||| ((0 : Int32).toInt64)) ||| (4294967295 : Int64)).toUInt64 >>> ((32 : Int32) &&& 0x3f).toInt64.toUInt64).toInt64)))]))
      refine Go.step (fun t k => XS.lcmp X11.here hx rfl (hb hby at_140) rfl k) ?_
      show Go _ _ _ _ _ _ _ (T11.setTop (mkF m 141 #[.val (.long qe), .second, .val (.long qp), .second, .val (.int di), .val (.long qq), .second, .val (.int fl), .val (.int (0 : Int32)), .val (.int (0 : Int32)), .val (.ref ix), .val (.int (0 : Int32)), .val (.int (1 : Int32)), .val (.long ((qe + (1 : Int64)) + ((((((4294967295 : Int64) &&& (-4294967296 : Int64)) ||| ((0 : Int32).toInt64)) ||| (4294967295 : Int64)).toUInt64 >>> ((32 : Int32) &&& 0x3f).toInt64.toUInt64).toInt64))), .second, .unset, .unset] [(.int (lcmpW ((qe + (1 : Int64)) + ((((((4294967295 : Int64) &&& (-4294967296 : Int64)) ||| ((0 : Int32).toInt64)) ||| (4294967295 : Int64)).toUInt64 >>> ((32 : Int32) &&& 0x3f).toInt64.toUInt64).toInt64)) ((qe + (1 : Int64)) + (0 : Int64))))]))
      refine Go.step (fun t k => XS.ifYes X11.here hx rfl (pc0 := 141) (pc' := 146) rfl (hb hby at_141) rfl ((if0 _ _).trans (teq (own_lweq (own_a1 (by decide +kernel) : ((qe + (1 : Int64)) + ((((((4294967295 : Int64) &&& (-4294967296 : Int64)) ||| ((0 : Int32).toInt64)) ||| (4294967295 : Int64)).toUInt64 >>> ((32 : Int32) &&& 0x3f).toInt64.toUInt64).toInt64)) = ((qe + (1 : Int64)) + (0 : Int64))))).1) (by decide) (by decide) k) ?_
      show Go _ _ _ _ _ _ _ (T11.setTop (mkF m 146 #[.val (.long qe), .second, .val (.long qp), .second, .val (.int di), .val (.long qq), .second, .val (.int fl), .val (.int (0 : Int32)), .val (.int (0 : Int32)), .val (.ref ix), .val (.int (0 : Int32)), .val (.int (1 : Int32)), .val (.long ((qe + (1 : Int64)) + ((((((4294967295 : Int64) &&& (-4294967296 : Int64)) ||| ((0 : Int32).toInt64)) ||| (4294967295 : Int64)).toUInt64 >>> ((32 : Int32) &&& 0x3f).toInt64.toUInt64).toInt64))), .second, .unset, .unset] []))
      refine Go.step (fun t k => XS.iload X11.here hx rfl (hb hby at_146) rfl k) ?_
      show Go _ _ _ _ _ _ _ (T11.setTop (mkF m 148 #[.val (.long qe), .second, .val (.long qp), .second, .val (.int di), .val (.long qq), .second, .val (.int fl), .val (.int (0 : Int32)), .val (.int (0 : Int32)), .val (.ref ix), .val (.int (0 : Int32)), .val (.int (1 : Int32)), .val (.long ((qe + (1 : Int64)) + ((((((4294967295 : Int64) &&& (-4294967296 : Int64)) ||| ((0 : Int32).toInt64)) ||| (4294967295 : Int64)).toUInt64 >>> ((32 : Int32) &&& 0x3f).toInt64.toUInt64).toInt64))), .second, .unset, .unset] [(.int (0 : Int32))]))
      refine Go.step (fun t k => XS.ifYes X11.here hx rfl (pc0 := 148) (pc' := 155) rfl (hb hby at_148) rfl ((if0 _ _).trans (teq (by decide : (0 : Int32) = (0 : Int32))).1) (by decide) (by decide) k) ?_
      show Go _ _ _ _ _ _ _ (T11.setTop (mkF m 155 #[.val (.long qe), .second, .val (.long qp), .second, .val (.int di), .val (.long qq), .second, .val (.int fl), .val (.int (0 : Int32)), .val (.int (0 : Int32)), .val (.ref ix), .val (.int (0 : Int32)), .val (.int (1 : Int32)), .val (.long ((qe + (1 : Int64)) + ((((((4294967295 : Int64) &&& (-4294967296 : Int64)) ||| ((0 : Int32).toInt64)) ||| (4294967295 : Int64)).toUInt64 >>> ((32 : Int32) &&& 0x3f).toInt64.toUInt64).toInt64))), .second, .unset, .unset] []))
      refine Go.step (fun t k => XS.lconst X11.here hx rfl (hb hby at_155) k) ?_
      show Go _ _ _ _ _ _ _ (T11.setTop (mkF m 156 #[.val (.long qe), .second, .val (.long qp), .second, .val (.int di), .val (.long qq), .second, .val (.int fl), .val (.int (0 : Int32)), .val (.int (0 : Int32)), .val (.ref ix), .val (.int (0 : Int32)), .val (.int (1 : Int32)), .val (.long ((qe + (1 : Int64)) + ((((((4294967295 : Int64) &&& (-4294967296 : Int64)) ||| ((0 : Int32).toInt64)) ||| (4294967295 : Int64)).toUInt64 >>> ((32 : Int32) &&& 0x3f).toInt64.toUInt64).toInt64))), .second, .unset, .unset] [(.long (0 : Int64))]))
      refine Go.step (fun t k => XS.lstore X11.here hx rfl (hb hby at_156) rfl (l' := #[.val (.long qe), .second, .val (.long qp), .second, .val (.int di), .val (.long qq), .second, .val (.int fl), .val (.int (0 : Int32)), .val (.int (0 : Int32)), .val (.ref ix), .val (.int (0 : Int32)), .val (.int (1 : Int32)), .val (.long ((qe + (1 : Int64)) + ((((((4294967295 : Int64) &&& (-4294967296 : Int64)) ||| ((0 : Int32).toInt64)) ||| (4294967295 : Int64)).toUInt64 >>> ((32 : Int32) &&& 0x3f).toInt64.toUInt64).toInt64))), .second, .val (.long (0 : Int64)), .second]) rfl k) ?_
      show Go _ _ _ _ _ _ _ (T11.setTop (mkF m 158 #[.val (.long qe), .second, .val (.long qp), .second, .val (.int di), .val (.long qq), .second, .val (.int fl), .val (.int (0 : Int32)), .val (.int (0 : Int32)), .val (.ref ix), .val (.int (0 : Int32)), .val (.int (1 : Int32)), .val (.long ((qe + (1 : Int64)) + ((((((4294967295 : Int64) &&& (-4294967296 : Int64)) ||| ((0 : Int32).toInt64)) ||| (4294967295 : Int64)).toUInt64 >>> ((32 : Int32) &&& 0x3f).toInt64.toUInt64).toInt64))), .second, .val (.long (0 : Int64)), .second] []))
      refine Go.step (fun t k => XS.aload X11.here hx rfl (hb hby at_158) rfl rfl k) ?_
      show Go _ _ _ _ _ _ _ (T11.setTop (mkF m 160 #[.val (.long qe), .second, .val (.long qp), .second, .val (.int di), .val (.long qq), .second, .val (.int fl), .val (.int (0 : Int32)), .val (.int (0 : Int32)), .val (.ref ix), .val (.int (0 : Int32)), .val (.int (1 : Int32)), .val (.long ((qe + (1 : Int64)) + ((((((4294967295 : Int64) &&& (-4294967296 : Int64)) ||| ((0 : Int32).toInt64)) ||| (4294967295 : Int64)).toUInt64 >>> ((32 : Int32) &&& 0x3f).toInt64.toUInt64).toInt64))), .second, .val (.long (0 : Int64)), .second] [(.ref ix)]))
      refine Go.step (fun t k => XS.iload X11.here hx rfl (hb hby at_160) rfl k) ?_
      show Go _ _ _ _ _ _ _ (T11.setTop (mkF m 162 #[.val (.long qe), .second, .val (.long qp), .second, .val (.int di), .val (.long qq), .second, .val (.int fl), .val (.int (0 : Int32)), .val (.int (0 : Int32)), .val (.ref ix), .val (.int (0 : Int32)), .val (.int (1 : Int32)), .val (.long ((qe + (1 : Int64)) + ((((((4294967295 : Int64) &&& (-4294967296 : Int64)) ||| ((0 : Int32).toInt64)) ||| (4294967295 : Int64)).toUInt64 >>> ((32 : Int32) &&& 0x3f).toInt64.toUInt64).toInt64))), .second, .val (.long (0 : Int64)), .second] [(.int (1 : Int32)), (.ref ix)]))
      refine Go.step (fun t k => XS.lload X11.here hx rfl (hb hby at_162) rfl k) ?_
      show Go _ _ _ _ _ _ _ (T11.setTop (mkF m 164 #[.val (.long qe), .second, .val (.long qp), .second, .val (.int di), .val (.long qq), .second, .val (.int fl), .val (.int (0 : Int32)), .val (.int (0 : Int32)), .val (.ref ix), .val (.int (0 : Int32)), .val (.int (1 : Int32)), .val (.long ((qe + (1 : Int64)) + ((((((4294967295 : Int64) &&& (-4294967296 : Int64)) ||| ((0 : Int32).toInt64)) ||| (4294967295 : Int64)).toUInt64 >>> ((32 : Int32) &&& 0x3f).toInt64.toUInt64).toInt64))), .second, .val (.long (0 : Int64)), .second] [(.long qq), (.int (1 : Int32)), (.ref ix)]))
      obtain ⟨cq12, kq12, q12a, q12b, q12c⟩ := isOf hZ rfl E_ix
      obtain ⟨_, _, ⟨T12, L12, k12, n12⟩, -, X12, ⟨Lc12, hQ12, l12, y12, z12⟩, st12⟩ := X11.virtualBack hx (y := (⟨"com/example/ferrylog/ferrylog/store/LiveIndex", "addRecord", "(IJ)V"⟩ : MethodName)) (z := (⟨"com/example/ferrylog/ferrylog/store/LiveIndex", "addRecord", "(IJ)V"⟩ : MethodName)) hown (mvT hZ (hw _ (List.mem_of_getElem? (i := 33) rfl))) (mvT hZ (hw _ (List.mem_of_getElem? (i := 34) rfl))) (notFace_of_selects (args := #[]) (mvT hZ (hw _ (List.mem_of_getElem? (i := 36) rfl)))) (mvT hZ (hw _ (List.mem_of_getElem? (i := 36) rfl))) (mvT hZ (hw _ (List.mem_of_getElem? (i := 35) rfl))) (by decide) (backOf (W := 0) (rm5_0 l Z a0 hw [] ix (1 : Int32) qq bl br bq bf (2 : Int32) (0 : Int32) qp 1 0 (up (up (up (up (up (up (up (up (up (up (up (up (up (fun _ => (0 : Int64)) 0 (0 : Int64)) 1 (-1 : Int64)) 3 (4294967295 : Int64)) 4 (0 : Int64)) 5 (-1 : Int64)) 7 (4294967295 : Int64)) 0 qe) 3 (((4294967295 : Int64) &&& (-4294967296 : Int64)) ||| ((0 : Int32).toInt64))) 0 (qe + (1 : Int64))) 2 (qe + (1 : Int64))) 3 ((((4294967295 : Int64) &&& (-4294967296 : Int64)) ||| ((0 : Int32).toInt64)) ||| (4294967295 : Int64))) 7 ((4294967295 : Int64) ||| (4294967295 : Int64))) 3 (((((4294967295 : Int64) &&& (-4294967296 : Int64)) ||| ((0 : Int32).toInt64)) ||| (4294967295 : Int64)) + (4294967296 : Int64))) (up (up (up (fun _ => (0 : Int32)) 0 ((qp - qp).toInt32)) 1 ((0 : Int32) ||| (-2147483648 : Int32))) 2 ((4294967295 : Int64).toInt32)) (up (fun _ => (0 : Int32)) 0 (0 : Int32)) (up (fun _ => (0 : Int64)) 0 qe) T11.heap n0 Z11 F_lines_ix F_records_ix F_runRecords_ix F_runFirsts_ix F_topics_ix F_recordCount_ix F_runCount_ix F_origin_ix E_ix g_ix o4_g_bl o4_g_br o4_g_bq o4_g_bf o4_ne_bl_br o4_ne_bl_bq o4_ne_bl_bf o4_ne_br_bq o4_ne_br_bf o4_ne_bq_bf A_bl A_br A_bq A_bf rfl (by decide) rfl (by decide) (show (((4294967295 : Int64) ||| (4294967295 : Int64)).toInt32) < (0 : Int32) by decide +kernel) (own_pp qq)) hZ (hw _ (List.mem_of_getElem? (i := 37) rfl)) (hw _ (List.mem_of_getElem? (i := 2) rfl)) (by decide) (by decide)) q12a q12c (g := (mkF m 164 #[.val (.long qe), .second, .val (.long qp), .second, .val (.int di), .val (.long qq), .second, .val (.int fl), .val (.int (0 : Int32)), .val (.int (0 : Int32)), .val (.ref ix), .val (.int (0 : Int32)), .val (.int (1 : Int32)), .val (.long ((qe + (1 : Int64)) + ((((((4294967295 : Int64) &&& (-4294967296 : Int64)) ||| ((0 : Int32).toInt64)) ||| (4294967295 : Int64)).toUInt64 >>> ((32 : Int32) &&& 0x3f).toInt64.toUInt64).toInt64))), .second, .val (.long (0 : Int64)), .second] [(.long qq), (.int (1 : Int32)), (.ref ix)])) rfl (by rw [hml]; rfl) (Steps.refl _) (argsL := [(.int (1 : Int32)), (.long qq)]) (rest := []) (lenOf pd_0_2 rfl) rfl (by show 2 * 0 + _ ≤ _; exact Nat.le_of_eq rfl) (hb hby at_164) (fun _ _ => ⟨rfl, rfl, (by decide : 5 + 0 ≤ _), (by decide : 3272 + 0 ≤ _)⟩)
      dsimp only [Pt.U, Pt.locs, Pt.cells, Pt.slots] at X12 l12 y12 z12 st12 hQ12
      subst l12 y12 z12
      obtain ⟨rfl, N12q, K12q, o12_F_lines_ix, o12_F_records_ix, o12_F_runRecords_ix, o12_F_runFirsts_ix, o12_F_topics_ix, o12_F_recordCount_ix, o12_F_runCount_ix, o12_F_origin_ix, o12_A_bl, o12_A_br, o12_A_bq, o12_A_bf⟩ := hQ12
      have N12 := Fr.app N11 N12q
      replace E_ix := E_ix.keep K12q
      have Z12 := Nat.le_trans Z11 K12q.1
      have F_lines_ix := o12_F_lines_ix
      have F_records_ix := o12_F_records_ix
      have F_runRecords_ix := o12_F_runRecords_ix
      have F_runFirsts_ix := o12_F_runFirsts_ix
      have F_topics_ix := o12_F_topics_ix
      have F_recordCount_ix := o12_F_recordCount_ix
      have F_runCount_ix := o12_F_runCount_ix
      have F_origin_ix := o12_F_origin_ix
      have A_bl := o12_A_bl
      have A_br := o12_A_br
      have A_bq := o12_A_bq
      have A_bf := o12_A_bf
      refine Go.step (fun t k => st12.trans k) ?_
      show Go _ _ _ _ _ _ _ (T12.setTop (mkF m 167 #[.val (.long qe), .second, .val (.long qp), .second, .val (.int di), .val (.long qq), .second, .val (.int fl), .val (.int (0 : Int32)), .val (.int (0 : Int32)), .val (.ref ix), .val (.int (0 : Int32)), .val (.int (1 : Int32)), .val (.long ((qe + (1 : Int64)) + ((((((4294967295 : Int64) &&& (-4294967296 : Int64)) ||| ((0 : Int32).toInt64)) ||| (4294967295 : Int64)).toUInt64 >>> ((32 : Int32) &&& 0x3f).toInt64.toUInt64).toInt64))), .second, .val (.long (0 : Int64)), .second] []))
      refine Go.step (fun t k => XS.aload X12.here hx rfl (hb hby at_167) rfl rfl k) ?_
      show Go _ _ _ _ _ _ _ (T12.setTop (mkF m 169 #[.val (.long qe), .second, .val (.long qp), .second, .val (.int di), .val (.long qq), .second, .val (.int fl), .val (.int (0 : Int32)), .val (.int (0 : Int32)), .val (.ref ix), .val (.int (0 : Int32)), .val (.int (1 : Int32)), .val (.long ((qe + (1 : Int64)) + ((((((4294967295 : Int64) &&& (-4294967296 : Int64)) ||| ((0 : Int32).toInt64)) ||| (4294967295 : Int64)).toUInt64 >>> ((32 : Int32) &&& 0x3f).toInt64.toUInt64).toInt64))), .second, .val (.long (0 : Int64)), .second] [(.ref ix)]))
      refine Go.step (fun t k => XS.iload X12.here hx rfl (hb hby at_169) rfl k) ?_
      show Go _ _ _ _ _ _ _ (T12.setTop (mkF m 171 #[.val (.long qe), .second, .val (.long qp), .second, .val (.int di), .val (.long qq), .second, .val (.int fl), .val (.int (0 : Int32)), .val (.int (0 : Int32)), .val (.ref ix), .val (.int (0 : Int32)), .val (.int (1 : Int32)), .val (.long ((qe + (1 : Int64)) + ((((((4294967295 : Int64) &&& (-4294967296 : Int64)) ||| ((0 : Int32).toInt64)) ||| (4294967295 : Int64)).toUInt64 >>> ((32 : Int32) &&& 0x3f).toInt64.toUInt64).toInt64))), .second, .val (.long (0 : Int64)), .second] [(.int (1 : Int32)), (.ref ix)]))
      obtain ⟨cq13, kq13, q13a, q13b, q13c⟩ := isOf hZ rfl E_ix
      obtain ⟨_, _, ⟨T13, L13, k13, n13⟩, -, X13, ⟨Lc13, hQ13, l13, y13, z13⟩, st13⟩ := X12.virtualBack hx (y := (⟨"com/example/ferrylog/ferrylog/store/LiveIndex", "last", "(I)I"⟩ : MethodName)) (z := (⟨"com/example/ferrylog/ferrylog/store/LiveIndex", "last", "(I)I"⟩ : MethodName)) hown (mvT hZ (hw _ (List.mem_of_getElem? (i := 65) rfl))) (mvT hZ (hw _ (List.mem_of_getElem? (i := 66) rfl))) (notFace_of_selects (args := #[]) (mvT hZ (hw _ (List.mem_of_getElem? (i := 68) rfl)))) (mvT hZ (hw _ (List.mem_of_getElem? (i := 68) rfl))) (mvT hZ (hw _ (List.mem_of_getElem? (i := 67) rfl))) (by decide) (backOf (W := 0) (rm10 l Z a0 hw [] ix (1 : Int32) bl (up (up (up (up (up (up (up (up (up (up (up (up (up (up (up (up (fun _ => (0 : Int64)) 0 (0 : Int64)) 1 (-1 : Int64)) 3 (4294967295 : Int64)) 4 (0 : Int64)) 5 (-1 : Int64)) 7 (4294967295 : Int64)) 0 qe) 3 (((4294967295 : Int64) &&& (-4294967296 : Int64)) ||| ((0 : Int32).toInt64))) 0 (qe + (1 : Int64))) 2 (qe + (1 : Int64))) 3 ((((4294967295 : Int64) &&& (-4294967296 : Int64)) ||| ((0 : Int32).toInt64)) ||| (4294967295 : Int64))) 7 ((4294967295 : Int64) ||| (4294967295 : Int64))) 3 (((((4294967295 : Int64) &&& (-4294967296 : Int64)) ||| ((0 : Int32).toInt64)) ||| (4294967295 : Int64)) + (4294967296 : Int64))) 7 ((((4294967295 : Int64) ||| (4294967295 : Int64)) &&& (-4294967296 : Int64)) ||| ((0 : Int32).toInt64))) 4 ((0 : Int64) + (1 : Int64))) 6 ((0 : Int64) + (1 : Int64))) 1 T12.heap n0 Z12 F_lines_ix A_bl ne_ix_bl rfl (by decide)) hZ (hw _ (List.mem_of_getElem? (i := 69) rfl)) (hw _ (List.mem_of_getElem? (i := 2) rfl)) (by decide) (by decide)) q13a q13c (g := (mkF m 171 #[.val (.long qe), .second, .val (.long qp), .second, .val (.int di), .val (.long qq), .second, .val (.int fl), .val (.int (0 : Int32)), .val (.int (0 : Int32)), .val (.ref ix), .val (.int (0 : Int32)), .val (.int (1 : Int32)), .val (.long ((qe + (1 : Int64)) + ((((((4294967295 : Int64) &&& (-4294967296 : Int64)) ||| ((0 : Int32).toInt64)) ||| (4294967295 : Int64)).toUInt64 >>> ((32 : Int32) &&& 0x3f).toInt64.toUInt64).toInt64))), .second, .val (.long (0 : Int64)), .second] [(.int (1 : Int32)), (.ref ix)])) rfl (by rw [hml]; rfl) (Steps.refl _) (argsL := [(.int (1 : Int32))]) (rest := []) (lenOf pd_0_3 rfl) rfl (by show 2 * 0 + _ ≤ _; exact Nat.le_of_eq rfl) (hb hby at_171) (fun _ _ => ⟨rfl, rfl, (by decide : 5 + 0 ≤ _), (by decide : 3272 + 0 ≤ _)⟩)
      dsimp only [Pt.U, Pt.locs, Pt.cells, Pt.slots] at X13 l13 y13 z13 st13 hQ13
      subst l13 y13 z13
      obtain ⟨rfl, N13q, K13q⟩ := hQ13
      have N13 := Fr.app N12 N13q
      refine Go.step (fun t k => st13.trans k) ?_
      show Go _ _ _ _ _ _ _ (T13.setTop (mkF m 174 #[.val (.long qe), .second, .val (.long qp), .second, .val (.int di), .val (.long qq), .second, .val (.int fl), .val (.int (0 : Int32)), .val (.int (0 : Int32)), .val (.ref ix), .val (.int (0 : Int32)), .val (.int (1 : Int32)), .val (.long ((qe + (1 : Int64)) + ((((((4294967295 : Int64) &&& (-4294967296 : Int64)) ||| ((0 : Int32).toInt64)) ||| (4294967295 : Int64)).toUInt64 >>> ((32 : Int32) &&& 0x3f).toInt64.toUInt64).toInt64))), .second, .val (.long (0 : Int64)), .second] [(.int (((((4294967295 : Int64) ||| (4294967295 : Int64)) &&& (-4294967296 : Int64)) ||| ((0 : Int32).toInt64)).toInt32))]))
      refine Go.step (fun t k => XS.ifYes X13.here hx rfl (pc0 := 174) (pc' := 179) rfl (hb hby at_174) rfl ((if0 _ _).trans (teq ((by decide +kernel) : (((((4294967295 : Int64) ||| (4294967295 : Int64)) &&& (-4294967296 : Int64)) ||| ((0 : Int32).toInt64)).toInt32) = (0 : Int32))).1) (by decide) (by decide) k) ?_
      show Go _ _ _ _ _ _ _ (T13.setTop (mkF m 179 #[.val (.long qe), .second, .val (.long qp), .second, .val (.int di), .val (.long qq), .second, .val (.int fl), .val (.int (0 : Int32)), .val (.int (0 : Int32)), .val (.ref ix), .val (.int (0 : Int32)), .val (.int (1 : Int32)), .val (.long ((qe + (1 : Int64)) + ((((((4294967295 : Int64) &&& (-4294967296 : Int64)) ||| ((0 : Int32).toInt64)) ||| (4294967295 : Int64)).toUInt64 >>> ((32 : Int32) &&& 0x3f).toInt64.toUInt64).toInt64))), .second, .val (.long (0 : Int64)), .second] []))
      refine Go.step (fun t k => XS.aload X13.here hx rfl (hb hby at_179) rfl rfl k) ?_
      show Go _ _ _ _ _ _ _ (T13.setTop (mkF m 181 #[.val (.long qe), .second, .val (.long qp), .second, .val (.int di), .val (.long qq), .second, .val (.int fl), .val (.int (0 : Int32)), .val (.int (0 : Int32)), .val (.ref ix), .val (.int (0 : Int32)), .val (.int (1 : Int32)), .val (.long ((qe + (1 : Int64)) + ((((((4294967295 : Int64) &&& (-4294967296 : Int64)) ||| ((0 : Int32).toInt64)) ||| (4294967295 : Int64)).toUInt64 >>> ((32 : Int32) &&& 0x3f).toInt64.toUInt64).toInt64))), .second, .val (.long (0 : Int64)), .second] [(.ref ix)]))
      refine Go.step (fun t k => XS.iconst X13.here hx rfl (hb hby at_181) k) ?_
      show Go _ _ _ _ _ _ _ (T13.setTop (mkF m 182 #[.val (.long qe), .second, .val (.long qp), .second, .val (.int di), .val (.long qq), .second, .val (.int fl), .val (.int (0 : Int32)), .val (.int (0 : Int32)), .val (.ref ix), .val (.int (0 : Int32)), .val (.int (1 : Int32)), .val (.long ((qe + (1 : Int64)) + ((((((4294967295 : Int64) &&& (-4294967296 : Int64)) ||| ((0 : Int32).toInt64)) ||| (4294967295 : Int64)).toUInt64 >>> ((32 : Int32) &&& 0x3f).toInt64.toUInt64).toInt64))), .second, .val (.long (0 : Int64)), .second] [(.int (0 : Int32)), (.ref ix)]))
      obtain ⟨cq14, kq14, q14a, q14b, q14c⟩ := isOf hZ K13q E_ix
      obtain ⟨_, _, ⟨T14, L14, k14, n14⟩, -, X14, ⟨Lc14, hQ14, l14, y14, z14⟩, st14⟩ := X13.virtualBack hx (y := (⟨"com/example/ferrylog/ferrylog/store/LiveIndex", "before", "(I)I"⟩ : MethodName)) (z := (⟨"com/example/ferrylog/ferrylog/store/LiveIndex", "before", "(I)I"⟩ : MethodName)) hown (mvT hZ (hw _ (List.mem_of_getElem? (i := 70) rfl))) (mvT hZ (hw _ (List.mem_of_getElem? (i := 71) rfl))) (notFace_of_selects (args := #[]) (mvT hZ (hw _ (List.mem_of_getElem? (i := 73) rfl)))) (mvT hZ (hw _ (List.mem_of_getElem? (i := 73) rfl))) (mvT hZ (hw _ (List.mem_of_getElem? (i := 72) rfl))) (by decide) (backOf (W := 0) (rm11 l Z a0 hw [] ix br (up (up (up (up (up (up (fun _ => (0 : Int32)) 0 ((qp - qp).toInt32)) 1 ((0 : Int32) ||| (-2147483648 : Int32))) 2 ((4294967295 : Int64).toInt32)) 0 ((qq - qq).toInt32)) 1 ((1 : Int32) ||| (-2147483648 : Int32))) 2 (((4294967295 : Int64) ||| (4294967295 : Int64)).toInt32)) T12.heap n0 Z12 F_records_ix A_br) hZ (hw _ (List.mem_of_getElem? (i := 74) rfl)) (hw _ (List.mem_of_getElem? (i := 2) rfl)) (by decide) (by decide)) q14a q14c (g := (mkF m 182 #[.val (.long qe), .second, .val (.long qp), .second, .val (.int di), .val (.long qq), .second, .val (.int fl), .val (.int (0 : Int32)), .val (.int (0 : Int32)), .val (.ref ix), .val (.int (0 : Int32)), .val (.int (1 : Int32)), .val (.long ((qe + (1 : Int64)) + ((((((4294967295 : Int64) &&& (-4294967296 : Int64)) ||| ((0 : Int32).toInt64)) ||| (4294967295 : Int64)).toUInt64 >>> ((32 : Int32) &&& 0x3f).toInt64.toUInt64).toInt64))), .second, .val (.long (0 : Int64)), .second] [(.int (0 : Int32)), (.ref ix)])) rfl (by rw [hml]; rfl) (Steps.refl _) (argsL := [(.int (0 : Int32))]) (rest := []) (lenOf pd_0_3 rfl) rfl (by show 2 * 0 + _ ≤ _; exact Nat.le_of_eq rfl) (hb hby at_182) (fun _ _ => ⟨rfl, K13q, (by decide : 5 + 0 ≤ _), (by decide : 3272 + 0 ≤ _)⟩)
      dsimp only [Pt.U, Pt.locs, Pt.cells, Pt.slots] at X14 l14 y14 z14 st14 hQ14
      subst l14 y14 z14
      obtain ⟨rfl, N14q, K14q⟩ := hQ14
      have N14 := Fr.app N13 N14q
      refine Go.step (fun t k => st14.trans k) ?_
      show Go _ _ _ _ _ _ _ (T14.setTop (mkF m 185 #[.val (.long qe), .second, .val (.long qp), .second, .val (.int di), .val (.long qq), .second, .val (.int fl), .val (.int (0 : Int32)), .val (.int (0 : Int32)), .val (.ref ix), .val (.int (0 : Int32)), .val (.int (1 : Int32)), .val (.long ((qe + (1 : Int64)) + ((((((4294967295 : Int64) &&& (-4294967296 : Int64)) ||| ((0 : Int32).toInt64)) ||| (4294967295 : Int64)).toUInt64 >>> ((32 : Int32) &&& 0x3f).toInt64.toUInt64).toInt64))), .second, .val (.long (0 : Int64)), .second] [(.int (((4294967295 : Int64) ||| (4294967295 : Int64)).toInt32))]))
      refine Go.step (fun t k => XS.iconst X14.here hx rfl (hb hby at_185) k) ?_
      show Go _ _ _ _ _ _ _ (T14.setTop (mkF m 186 #[.val (.long qe), .second, .val (.long qp), .second, .val (.int di), .val (.long qq), .second, .val (.int fl), .val (.int (0 : Int32)), .val (.int (0 : Int32)), .val (.ref ix), .val (.int (0 : Int32)), .val (.int (1 : Int32)), .val (.long ((qe + (1 : Int64)) + ((((((4294967295 : Int64) &&& (-4294967296 : Int64)) ||| ((0 : Int32).toInt64)) ||| (4294967295 : Int64)).toUInt64 >>> ((32 : Int32) &&& 0x3f).toInt64.toUInt64).toInt64))), .second, .val (.long (0 : Int64)), .second] [(.int (-1 : Int32)), (.int (((4294967295 : Int64) ||| (4294967295 : Int64)).toInt32))]))
      refine Go.step (fun t k => XS.icmpYes X14.here hx rfl (pc0 := 186) (pc' := 191) rfl (hb hby at_186) rfl (teq ((by decide +kernel) : (((4294967295 : Int64) ||| (4294967295 : Int64)).toInt32) = (-1 : Int32))).1 (by decide) (by decide) k) ?_
      show Go _ _ _ _ _ _ _ (T14.setTop (mkF m 191 #[.val (.long qe), .second, .val (.long qp), .second, .val (.int di), .val (.long qq), .second, .val (.int fl), .val (.int (0 : Int32)), .val (.int (0 : Int32)), .val (.ref ix), .val (.int (0 : Int32)), .val (.int (1 : Int32)), .val (.long ((qe + (1 : Int64)) + ((((((4294967295 : Int64) &&& (-4294967296 : Int64)) ||| ((0 : Int32).toInt64)) ||| (4294967295 : Int64)).toUInt64 >>> ((32 : Int32) &&& 0x3f).toInt64.toUInt64).toInt64))), .second, .val (.long (0 : Int64)), .second] []))
      refine Go.step (fun t k => XS.aload X14.here hx rfl (hb hby at_191) rfl rfl k) ?_
      show Go _ _ _ _ _ _ _ (T14.setTop (mkF m 193 #[.val (.long qe), .second, .val (.long qp), .second, .val (.int di), .val (.long qq), .second, .val (.int fl), .val (.int (0 : Int32)), .val (.int (0 : Int32)), .val (.ref ix), .val (.int (0 : Int32)), .val (.int (1 : Int32)), .val (.long ((qe + (1 : Int64)) + ((((((4294967295 : Int64) &&& (-4294967296 : Int64)) ||| ((0 : Int32).toInt64)) ||| (4294967295 : Int64)).toUInt64 >>> ((32 : Int32) &&& 0x3f).toInt64.toUInt64).toInt64))), .second, .val (.long (0 : Int64)), .second] [(.ref ix)]))
      refine Go.step (fun t k => XS.iconst X14.here hx rfl (hb hby at_193) k) ?_
      show Go _ _ _ _ _ _ _ (T14.setTop (mkF m 194 #[.val (.long qe), .second, .val (.long qp), .second, .val (.int di), .val (.long qq), .second, .val (.int fl), .val (.int (0 : Int32)), .val (.int (0 : Int32)), .val (.ref ix), .val (.int (0 : Int32)), .val (.int (1 : Int32)), .val (.long ((qe + (1 : Int64)) + ((((((4294967295 : Int64) &&& (-4294967296 : Int64)) ||| ((0 : Int32).toInt64)) ||| (4294967295 : Int64)).toUInt64 >>> ((32 : Int32) &&& 0x3f).toInt64.toUInt64).toInt64))), .second, .val (.long (0 : Int64)), .second] [(.int (0 : Int32)), (.ref ix)]))
      obtain ⟨cq15, kq15, q15a, q15b, q15c⟩ := isOf hZ K14q E_ix
      obtain ⟨_, _, ⟨T15, L15, k15, n15⟩, -, X15, ⟨Lc15, hQ15, l15, y15, z15⟩, st15⟩ := X14.virtualBack hx (y := (⟨"com/example/ferrylog/ferrylog/store/LiveIndex", "runFirst", "(I)J"⟩ : MethodName)) (z := (⟨"com/example/ferrylog/ferrylog/store/LiveIndex", "runFirst", "(I)J"⟩ : MethodName)) hown (mvT hZ (hw _ (List.mem_of_getElem? (i := 75) rfl))) (mvT hZ (hw _ (List.mem_of_getElem? (i := 76) rfl))) (notFace_of_selects (args := #[]) (mvT hZ (hw _ (List.mem_of_getElem? (i := 78) rfl)))) (mvT hZ (hw _ (List.mem_of_getElem? (i := 78) rfl))) (mvT hZ (hw _ (List.mem_of_getElem? (i := 77) rfl))) (by decide) (backOf (W := 0) (rm12 l Z a0 hw [] ix bq bf (up (up (fun _ => (0 : Int32)) 0 (0 : Int32)) 0 (0 : Int32)) (up (up (fun _ => (0 : Int64)) 0 qe) 0 (0 : Int64)) T12.heap n0 Z12 F_runFirsts_ix F_runRecords_ix F_runCount_ix A_bq A_bf rfl) hZ (hw _ (List.mem_of_getElem? (i := 79) rfl)) (hw _ (List.mem_of_getElem? (i := 2) rfl)) (by decide) (by decide)) q15a q15c (g := (mkF m 194 #[.val (.long qe), .second, .val (.long qp), .second, .val (.int di), .val (.long qq), .second, .val (.int fl), .val (.int (0 : Int32)), .val (.int (0 : Int32)), .val (.ref ix), .val (.int (0 : Int32)), .val (.int (1 : Int32)), .val (.long ((qe + (1 : Int64)) + ((((((4294967295 : Int64) &&& (-4294967296 : Int64)) ||| ((0 : Int32).toInt64)) ||| (4294967295 : Int64)).toUInt64 >>> ((32 : Int32) &&& 0x3f).toInt64.toUInt64).toInt64))), .second, .val (.long (0 : Int64)), .second] [(.int (0 : Int32)), (.ref ix)])) rfl (by rw [hml]; rfl) (Steps.refl _) (argsL := [(.int (0 : Int32))]) (rest := []) (lenOf pd_0_4 rfl) rfl (by show 2 * 0 + _ ≤ _; exact Nat.le_of_eq rfl) (hb hby at_194) (fun _ _ => ⟨rfl, K14q, (by decide : 5 + 0 ≤ _), (by decide : 3272 + 0 ≤ _)⟩)
      dsimp only [Pt.U, Pt.locs, Pt.cells, Pt.slots] at X15 l15 y15 z15 st15 hQ15
      subst l15 y15 z15
      obtain ⟨rfl, N15q, K15q⟩ := hQ15
      have N15 := Fr.app N14 N15q
      refine Go.step (fun t k => st15.trans k) ?_
      show Go _ _ _ _ _ _ _ (T15.setTop (mkF m 197 #[.val (.long qe), .second, .val (.long qp), .second, .val (.int di), .val (.long qq), .second, .val (.int fl), .val (.int (0 : Int32)), .val (.int (0 : Int32)), .val (.ref ix), .val (.int (0 : Int32)), .val (.int (1 : Int32)), .val (.long ((qe + (1 : Int64)) + ((((((4294967295 : Int64) &&& (-4294967296 : Int64)) ||| ((0 : Int32).toInt64)) ||| (4294967295 : Int64)).toUInt64 >>> ((32 : Int32) &&& 0x3f).toInt64.toUInt64).toInt64))), .second, .val (.long (0 : Int64)), .second] [(.long (0 : Int64))]))
      refine Go.step (fun t k => XS.lload X15.here hx rfl (hb hby at_197) rfl k) ?_
      show Go _ _ _ _ _ _ _ (T15.setTop (mkF m 199 #[.val (.long qe), .second, .val (.long qp), .second, .val (.int di), .val (.long qq), .second, .val (.int fl), .val (.int (0 : Int32)), .val (.int (0 : Int32)), .val (.ref ix), .val (.int (0 : Int32)), .val (.int (1 : Int32)), .val (.long ((qe + (1 : Int64)) + ((((((4294967295 : Int64) &&& (-4294967296 : Int64)) ||| ((0 : Int32).toInt64)) ||| (4294967295 : Int64)).toUInt64 >>> ((32 : Int32) &&& 0x3f).toInt64.toUInt64).toInt64))), .second, .val (.long (0 : Int64)), .second] [(.long (0 : Int64)), (.long (0 : Int64))]))
      refine Go.step (fun t k => XS.lcmp X15.here hx rfl (hb hby at_199) rfl k) ?_
      show Go _ _ _ _ _ _ _ (T15.setTop (mkF m 200 #[.val (.long qe), .second, .val (.long qp), .second, .val (.int di), .val (.long qq), .second, .val (.int fl), .val (.int (0 : Int32)), .val (.int (0 : Int32)), .val (.ref ix), .val (.int (0 : Int32)), .val (.int (1 : Int32)), .val (.long ((qe + (1 : Int64)) + ((((((4294967295 : Int64) &&& (-4294967296 : Int64)) ||| ((0 : Int32).toInt64)) ||| (4294967295 : Int64)).toUInt64 >>> ((32 : Int32) &&& 0x3f).toInt64.toUInt64).toInt64))), .second, .val (.long (0 : Int64)), .second] [(.int (lcmpW (0 : Int64) (0 : Int64)))]))
      refine Go.step (fun t k => XS.ifNo X15.here hx rfl (hb hby at_200) rfl ((if0 _ _).trans (teq (own_lweq ((by decide +kernel) : (0 : Int64) = (0 : Int64)))).2) k) ?_
      show Go _ _ _ _ _ _ _ (T15.setTop (mkF m 203 #[.val (.long qe), .second, .val (.long qp), .second, .val (.int di), .val (.long qq), .second, .val (.int fl), .val (.int (0 : Int32)), .val (.int (0 : Int32)), .val (.ref ix), .val (.int (0 : Int32)), .val (.int (1 : Int32)), .val (.long ((qe + (1 : Int64)) + ((((((4294967295 : Int64) &&& (-4294967296 : Int64)) ||| ((0 : Int32).toInt64)) ||| (4294967295 : Int64)).toUInt64 >>> ((32 : Int32) &&& 0x3f).toInt64.toUInt64).toInt64))), .second, .val (.long (0 : Int64)), .second] []))
      refine Go.step (fun t k => XS.iconst X15.here hx rfl (hb hby at_203) k) ?_
      show Go _ _ _ _ _ _ _ (T15.setTop (mkF m 204 #[.val (.long qe), .second, .val (.long qp), .second, .val (.int di), .val (.long qq), .second, .val (.int fl), .val (.int (0 : Int32)), .val (.int (0 : Int32)), .val (.ref ix), .val (.int (0 : Int32)), .val (.int (1 : Int32)), .val (.long ((qe + (1 : Int64)) + ((((((4294967295 : Int64) &&& (-4294967296 : Int64)) ||| ((0 : Int32).toInt64)) ||| (4294967295 : Int64)).toUInt64 >>> ((32 : Int32) &&& 0x3f).toInt64.toUInt64).toInt64))), .second, .val (.long (0 : Int64)), .second] [(.int (1 : Int32))]))
      refine Go.step (fun t k => XS.goto X15.here hx rfl (pc0 := 204) (pc' := 208) rfl (hb hby at_204) (by decide) (by decide) k) ?_
      show Go _ _ _ _ _ _ _ (T15.setTop (mkF m 208 #[.val (.long qe), .second, .val (.long qp), .second, .val (.int di), .val (.long qq), .second, .val (.int fl), .val (.int (0 : Int32)), .val (.int (0 : Int32)), .val (.ref ix), .val (.int (0 : Int32)), .val (.int (1 : Int32)), .val (.long ((qe + (1 : Int64)) + ((((((4294967295 : Int64) &&& (-4294967296 : Int64)) ||| ((0 : Int32).toInt64)) ||| (4294967295 : Int64)).toUInt64 >>> ((32 : Int32) &&& 0x3f).toInt64.toUInt64).toInt64))), .second, .val (.long (0 : Int64)), .second] [(.int (1 : Int32))]))
      refine Go.retN X15 Bd.notSynchronized hx (t := .boolean) Bd.returns (by simp) (hb hby at_208) (by decide) (by decide) (1 : Int32) rfl ?_
      rw [K15q]
      exact ⟨rfl, N15⟩
    · refine Go.step (fun t k => XS.ifNo X0.here hx rfl (hb hby at_18) rfl ((if0 _ _).trans (feq hc18_2).1) k) ?_
      show Go _ _ _ _ _ _ _ (s₁.setTop (mkF m 21 #[.val (.long qe), .second, .val (.long qp), .second, .val (.int di), .val (.long qq), .second, .val (.int fl), .val (.int (0 : Int32)), .unset, .unset, .unset, .unset, .unset, .unset, .unset, .unset] []))
      refine Go.step (fun t k => XS.iconst X0.here hx rfl (hb hby at_21) k) ?_
      show Go _ _ _ _ _ _ _ (s₁.setTop (mkF m 22 #[.val (.long qe), .second, .val (.long qp), .second, .val (.int di), .val (.long qq), .second, .val (.int fl), .val (.int (0 : Int32)), .unset, .unset, .unset, .unset, .unset, .unset, .unset, .unset] [(.int (1 : Int32))]))
      refine Go.step (fun t k => XS.goto X0.here hx rfl (pc0 := 22) (pc' := 26) rfl (hb hby at_22) (by decide) (by decide) k) ?_
      show Go _ _ _ _ _ _ _ (s₁.setTop (mkF m 26 #[.val (.long qe), .second, .val (.long qp), .second, .val (.int di), .val (.long qq), .second, .val (.int fl), .val (.int (0 : Int32)), .unset, .unset, .unset, .unset, .unset, .unset, .unset, .unset] [(.int (1 : Int32))]))
      refine Go.step (fun t k => XS.istore X0.here hx rfl (hb hby at_26) rfl (l' := #[.val (.long qe), .second, .val (.long qp), .second, .val (.int di), .val (.long qq), .second, .val (.int fl), .val (.int (0 : Int32)), .val (.int (1 : Int32)), .unset, .unset, .unset, .unset, .unset, .unset, .unset]) rfl k) ?_
      show Go _ _ _ _ _ _ _ (s₁.setTop (mkF m 28 #[.val (.long qe), .second, .val (.long qp), .second, .val (.int di), .val (.long qq), .second, .val (.int fl), .val (.int (0 : Int32)), .val (.int (1 : Int32)), .unset, .unset, .unset, .unset, .unset, .unset, .unset] []))
      obtain ⟨T16, h16, X16, e16, E16, A16, D16, -, st16⟩ := newO X0 hx hZ hown (hw _ (List.mem_of_getElem? (i := 0) rfl)) (hw _ (List.mem_of_getElem? (i := 1) rfl)) (hw _ (List.mem_of_getElem? (i := 2) rfl)) e0 (g := (mkF m 28 #[.val (.long qe), .second, .val (.long qp), .second, .val (.int di), .val (.long qq), .second, .val (.int fl), .val (.int (0 : Int32)), .val (.int (1 : Int32)), .unset, .unset, .unset, .unset, .unset, .unset, .unset] [])) rfl (hb hby at_28) (by decide) (by decide)
      obtain ⟨ix, gz16⟩ : ∃ z, z = h0.size := ⟨_, rfl⟩
      have g_ix : n0 ≤ ix := Nat.le_trans Z0 (Nat.le_of_eq gz16.symm)
      rw [← gz16] at A16 D16 st16
      have Z16 := Nat.le_trans Z0 E16.1
      have E_ix := A16
      have F_lines_ix : Fld Z h16 ix "com/example/ferrylog/ferrylog/store/LiveIndex" "lines" "[J" .null := D16 (Or.inl (hw _ (List.mem_of_getElem? (i := 11) rfl))) (ty := (.array .long)) (by decide)
      have F_records_ix : Fld Z h16 ix "com/example/ferrylog/ferrylog/store/LiveIndex" "records" "[I" .null := D16 (Or.inl (hw _ (List.mem_of_getElem? (i := 14) rfl))) (ty := (.array .int)) (by decide)
      have F_runRecords_ix : Fld Z h16 ix "com/example/ferrylog/ferrylog/store/LiveIndex" "runRecords" "[I" .null := D16 (Or.inl (hw _ (List.mem_of_getElem? (i := 16) rfl))) (ty := (.array .int)) (by decide)
      have F_runFirsts_ix : Fld Z h16 ix "com/example/ferrylog/ferrylog/store/LiveIndex" "runFirsts" "[J" .null := D16 (Or.inl (hw _ (List.mem_of_getElem? (i := 18) rfl))) (ty := (.array .long)) (by decide)
      have F_topics_ix : Fld Z h16 ix "com/example/ferrylog/ferrylog/store/LiveIndex" "topics" "I" (.int (0 : Int32)) := D16 (Or.inl (hw _ (List.mem_of_getElem? (i := 25) rfl))) (ty := .int) (by decide)
      have F_recordCount_ix : Fld Z h16 ix "com/example/ferrylog/ferrylog/store/LiveIndex" "recordCount" "I" (.int (0 : Int32)) := D16 (Or.inl (hw _ (List.mem_of_getElem? (i := 39) rfl))) (ty := .int) (by decide)
      have F_origin_ix : Fld Z h16 ix "com/example/ferrylog/ferrylog/store/LiveIndex" "origin" "J" (.long (0 : Int64)) := D16 (Or.inl (hw _ (List.mem_of_getElem? (i := 41) rfl))) (ty := .long) (by decide)
      have F_runCount_ix : Fld Z h16 ix "com/example/ferrylog/ferrylog/store/LiveIndex" "runCount" "I" (.int (0 : Int32)) := D16 (Or.inl (hw _ (List.mem_of_getElem? (i := 52) rfl))) (ty := .int) (by decide)
      refine Go.step st16 ?_
      show Go _ _ _ _ _ _ _ (T16.setTop (mkF m 31 #[.val (.long qe), .second, .val (.long qp), .second, .val (.int di), .val (.long qq), .second, .val (.int fl), .val (.int (0 : Int32)), .val (.int (1 : Int32)), .unset, .unset, .unset, .unset, .unset, .unset, .unset] [(.ref ix)]))
      refine Go.step (fun t k => XS.dup X16.here hx rfl (hb hby at_31) rfl rfl k) ?_
      show Go _ _ _ _ _ _ _ (T16.setTop (mkF m 32 #[.val (.long qe), .second, .val (.long qp), .second, .val (.int di), .val (.long qq), .second, .val (.int fl), .val (.int (0 : Int32)), .val (.int (1 : Int32)), .unset, .unset, .unset, .unset, .unset, .unset, .unset] [(.ref ix), (.ref ix)]))
      obtain ⟨_, _, ⟨T17, L17, k17, n17⟩, -, X17, ⟨Lc17, hQ17, l17, y17, z17⟩, st17⟩ := X16.specialBack hx (y := (⟨"com/example/ferrylog/ferrylog/store/LiveIndex", "<init>", "()V"⟩ : MethodName)) rfl hown (mvT hZ (hw _ (List.mem_of_getElem? (i := 3) rfl))) (mvT hZ (hw _ (List.mem_of_getElem? (i := 4) rfl))) (mvT hZ (hw _ (List.mem_of_getElem? (i := 5) rfl))) (by decide) (backOf (W := 1) (rm1 l Z a0 hw [] ix h16 n0 Z16 F_lines_ix F_records_ix F_runRecords_ix F_runFirsts_ix F_topics_ix F_recordCount_ix F_runCount_ix F_origin_ix E_ix g_ix) hZ (hw _ (List.mem_of_getElem? (i := 5) rfl)) (hw _ (List.mem_of_getElem? (i := 2) rfl)) (by decide) (by decide)) (g := (mkF m 32 #[.val (.long qe), .second, .val (.long qp), .second, .val (.int di), .val (.long qq), .second, .val (.int fl), .val (.int (0 : Int32)), .val (.int (1 : Int32)), .unset, .unset, .unset, .unset, .unset, .unset, .unset] [(.ref ix), (.ref ix)])) rfl (by rw [hml]; rfl) (Steps.refl _) (a := ix) (argsL := []) (rest := [(.ref ix)]) (lenOf pd_0_0 rfl) rfl (by show 2 * 0 + _ ≤ _; exact Nat.le_of_eq rfl) (hb hby at_32) (fun _ _ => ⟨rfl, e16, (by decide : 1 + 4 ≤ _), (by decide : 8 + 3264 ≤ _)⟩)
      dsimp only [Pt.U, Pt.locs, Pt.cells, Pt.slots] at X17 l17 y17 z17 st17 hQ17
      subst l17 y17 z17
      obtain ⟨bl, br, bq, bf, rfl, N17q, K17q, o17_F_lines_ix, o17_F_records_ix, o17_F_runRecords_ix, o17_F_runFirsts_ix, o17_F_topics_ix, o17_F_recordCount_ix, o17_F_runCount_ix, o17_F_origin_ix, o17_A_bl, o17_A_br, o17_A_bq, o17_A_bf, o17_g_bl, o17_g_br, o17_g_bq, o17_g_bf, o17_ne_bl_br, o17_ne_bl_bq, o17_ne_bl_bf, o17_ne_br_bq, o17_ne_br_bf, o17_ne_bq_bf⟩ := hQ17
      have N17 := Fr.app N0 N17q
      replace E_ix := E_ix.keep K17q
      have Z17 := Nat.le_trans Z16 K17q.1
      have F_lines_ix := o17_F_lines_ix
      have F_records_ix := o17_F_records_ix
      have F_runRecords_ix := o17_F_runRecords_ix
      have F_runFirsts_ix := o17_F_runFirsts_ix
      have F_topics_ix := o17_F_topics_ix
      have F_recordCount_ix := o17_F_recordCount_ix
      have F_runCount_ix := o17_F_runCount_ix
      have F_origin_ix := o17_F_origin_ix
      have A_bl := o17_A_bl
      have A_br := o17_A_br
      have A_bq := o17_A_bq
      have A_bf := o17_A_bf
      refine Go.step (fun t k => st17.trans k) ?_
      show Go _ _ _ _ _ _ _ (T17.setTop (mkF m 35 #[.val (.long qe), .second, .val (.long qp), .second, .val (.int di), .val (.long qq), .second, .val (.int fl), .val (.int (0 : Int32)), .val (.int (1 : Int32)), .unset, .unset, .unset, .unset, .unset, .unset, .unset] [(.ref ix)]))
      refine Go.step (fun t k => XS.astore X17.here hx rfl (hb hby at_35) rfl rfl (l' := #[.val (.long qe), .second, .val (.long qp), .second, .val (.int di), .val (.long qq), .second, .val (.int fl), .val (.int (0 : Int32)), .val (.int (1 : Int32)), .val (.ref ix), .unset, .unset, .unset, .unset, .unset, .unset]) rfl k) ?_
      show Go _ _ _ _ _ _ _ (T17.setTop (mkF m 37 #[.val (.long qe), .second, .val (.long qp), .second, .val (.int di), .val (.long qq), .second, .val (.int fl), .val (.int (0 : Int32)), .val (.int (1 : Int32)), .val (.ref ix), .unset, .unset, .unset, .unset, .unset, .unset] []))
      refine Go.step (fun t k => XS.aload X17.here hx rfl (hb hby at_37) rfl rfl k) ?_
      show Go _ _ _ _ _ _ _ (T17.setTop (mkF m 39 #[.val (.long qe), .second, .val (.long qp), .second, .val (.int di), .val (.long qq), .second, .val (.int fl), .val (.int (0 : Int32)), .val (.int (1 : Int32)), .val (.ref ix), .unset, .unset, .unset, .unset, .unset, .unset] [(.ref ix)]))
      obtain ⟨cq18, kq18, q18a, q18b, q18c⟩ := isOf hZ rfl E_ix
      obtain ⟨_, _, ⟨T18, L18, k18, n18⟩, -, X18, ⟨Lc18, hQ18, l18, y18, z18⟩, st18⟩ := X17.virtualBack hx (y := (⟨"com/example/ferrylog/ferrylog/store/LiveIndex", "addTopic", "()I"⟩ : MethodName)) (z := (⟨"com/example/ferrylog/ferrylog/store/LiveIndex", "addTopic", "()I"⟩ : MethodName)) hown (mvT hZ (hw _ (List.mem_of_getElem? (i := 19) rfl))) (mvT hZ (hw _ (List.mem_of_getElem? (i := 20) rfl))) (notFace_of_selects (args := #[]) (mvT hZ (hw _ (List.mem_of_getElem? (i := 22) rfl)))) (mvT hZ (hw _ (List.mem_of_getElem? (i := 22) rfl))) (mvT hZ (hw _ (List.mem_of_getElem? (i := 21) rfl))) (by decide) (backOf (W := 0) (rm3 l Z a0 hw [] ix (0 : Int32) 0 bl br bq bf (0 : Int32) (0 : Int32) (0 : Int64) (fun _ => (0 : Int64)) T17.heap n0 Z17 F_lines_ix F_records_ix F_runRecords_ix F_runFirsts_ix F_topics_ix F_recordCount_ix F_runCount_ix F_origin_ix E_ix g_ix o17_g_bl A_bl rfl (by decide)) hZ (hw _ (List.mem_of_getElem? (i := 23) rfl)) (hw _ (List.mem_of_getElem? (i := 2) rfl)) (by decide) (by decide)) q18a q18c (g := (mkF m 39 #[.val (.long qe), .second, .val (.long qp), .second, .val (.int di), .val (.long qq), .second, .val (.int fl), .val (.int (0 : Int32)), .val (.int (1 : Int32)), .val (.ref ix), .unset, .unset, .unset, .unset, .unset, .unset] [(.ref ix)])) rfl (by rw [hml]; rfl) (Steps.refl _) (argsL := []) (rest := []) (lenOf pd_0_1 rfl) rfl (by show 2 * 0 + _ ≤ _; exact Nat.le_of_eq rfl) (hb hby at_39) (fun _ _ => ⟨rfl, rfl, (by decide : 5 + 0 ≤ _), (by decide : 3272 + 0 ≤ _)⟩)
      dsimp only [Pt.U, Pt.locs, Pt.cells, Pt.slots] at X18 l18 y18 z18 st18 hQ18
      subst l18 y18 z18
      obtain ⟨rfl, N18q, K18q, o18_F_lines_ix, o18_F_records_ix, o18_F_runRecords_ix, o18_F_runFirsts_ix, o18_F_topics_ix, o18_F_recordCount_ix, o18_F_runCount_ix, o18_F_origin_ix, o18_A_bl⟩ := hQ18
      have N18 := Fr.app N17 N18q
      have ne_br_ix : br ≠ ix := (Ne.symm (own_neA E_ix (hw _ (List.mem_of_getElem? (i := 1) rfl)) A_br))
      have ne_bq_ix : bq ≠ ix := (Ne.symm (own_neA E_ix (hw _ (List.mem_of_getElem? (i := 1) rfl)) A_bq))
      have ne_bf_ix : bf ≠ ix := (Ne.symm (own_neA E_ix (hw _ (List.mem_of_getElem? (i := 1) rfl)) A_bf))
      replace E_ix := E_ix.keep K18q
      replace A_br := A_br.keep K18q (ninS ne_br_ix (ninS (Ne.symm o17_ne_bl_br) nin0))
      replace A_bq := A_bq.keep K18q (ninS ne_bq_ix (ninS (Ne.symm o17_ne_bl_bq) nin0))
      replace A_bf := A_bf.keep K18q (ninS ne_bf_ix (ninS (Ne.symm o17_ne_bl_bf) nin0))
      have Z18 := Nat.le_trans Z17 K18q.1
      have F_lines_ix := o18_F_lines_ix
      have F_records_ix := o18_F_records_ix
      have F_runRecords_ix := o18_F_runRecords_ix
      have F_runFirsts_ix := o18_F_runFirsts_ix
      have F_topics_ix := o18_F_topics_ix
      have F_recordCount_ix := o18_F_recordCount_ix
      have F_runCount_ix := o18_F_runCount_ix
      have F_origin_ix := o18_F_origin_ix
      have A_bl := o18_A_bl
      refine Go.step (fun t k => st18.trans k) ?_
      show Go _ _ _ _ _ _ _ (T18.setTop (mkF m 42 #[.val (.long qe), .second, .val (.long qp), .second, .val (.int di), .val (.long qq), .second, .val (.int fl), .val (.int (0 : Int32)), .val (.int (1 : Int32)), .val (.ref ix), .unset, .unset, .unset, .unset, .unset, .unset] [(.int (0 : Int32))]))
      refine Go.step (fun t k => XS.istore X18.here hx rfl (hb hby at_42) rfl (l' := #[.val (.long qe), .second, .val (.long qp), .second, .val (.int di), .val (.long qq), .second, .val (.int fl), .val (.int (0 : Int32)), .val (.int (1 : Int32)), .val (.ref ix), .val (.int (0 : Int32)), .unset, .unset, .unset, .unset, .unset]) rfl k) ?_
      show Go _ _ _ _ _ _ _ (T18.setTop (mkF m 44 #[.val (.long qe), .second, .val (.long qp), .second, .val (.int di), .val (.long qq), .second, .val (.int fl), .val (.int (0 : Int32)), .val (.int (1 : Int32)), .val (.ref ix), .val (.int (0 : Int32)), .unset, .unset, .unset, .unset, .unset] []))
      refine Go.step (fun t k => XS.aload X18.here hx rfl (hb hby at_44) rfl rfl k) ?_
      show Go _ _ _ _ _ _ _ (T18.setTop (mkF m 46 #[.val (.long qe), .second, .val (.long qp), .second, .val (.int di), .val (.long qq), .second, .val (.int fl), .val (.int (0 : Int32)), .val (.int (1 : Int32)), .val (.ref ix), .val (.int (0 : Int32)), .unset, .unset, .unset, .unset, .unset] [(.ref ix)]))
      obtain ⟨cq19, kq19, q19a, q19b, q19c⟩ := isOf hZ rfl E_ix
      obtain ⟨_, _, ⟨T19, L19, k19, n19⟩, -, X19, ⟨Lc19, hQ19, l19, y19, z19⟩, st19⟩ := X18.virtualBack hx (y := (⟨"com/example/ferrylog/ferrylog/store/LiveIndex", "addTopic", "()I"⟩ : MethodName)) (z := (⟨"com/example/ferrylog/ferrylog/store/LiveIndex", "addTopic", "()I"⟩ : MethodName)) hown (mvT hZ (hw _ (List.mem_of_getElem? (i := 19) rfl))) (mvT hZ (hw _ (List.mem_of_getElem? (i := 20) rfl))) (notFace_of_selects (args := #[]) (mvT hZ (hw _ (List.mem_of_getElem? (i := 22) rfl)))) (mvT hZ (hw _ (List.mem_of_getElem? (i := 22) rfl))) (mvT hZ (hw _ (List.mem_of_getElem? (i := 21) rfl))) (by decide) (backOf (W := 0) (rm3 l Z a0 hw [] ix (1 : Int32) 1 bl br bq bf (0 : Int32) (0 : Int32) (0 : Int64) (up (up (up (fun _ => (0 : Int64)) 0 (0 : Int64)) 1 (-1 : Int64)) 3 (4294967295 : Int64)) T18.heap n0 Z18 F_lines_ix F_records_ix F_runRecords_ix F_runFirsts_ix F_topics_ix F_recordCount_ix F_runCount_ix F_origin_ix E_ix g_ix o17_g_bl A_bl rfl (by decide)) hZ (hw _ (List.mem_of_getElem? (i := 23) rfl)) (hw _ (List.mem_of_getElem? (i := 2) rfl)) (by decide) (by decide)) q19a q19c (g := (mkF m 46 #[.val (.long qe), .second, .val (.long qp), .second, .val (.int di), .val (.long qq), .second, .val (.int fl), .val (.int (0 : Int32)), .val (.int (1 : Int32)), .val (.ref ix), .val (.int (0 : Int32)), .unset, .unset, .unset, .unset, .unset] [(.ref ix)])) rfl (by rw [hml]; rfl) (Steps.refl _) (argsL := []) (rest := []) (lenOf pd_0_1 rfl) rfl (by show 2 * 0 + _ ≤ _; exact Nat.le_of_eq rfl) (hb hby at_46) (fun _ _ => ⟨rfl, rfl, (by decide : 5 + 0 ≤ _), (by decide : 3272 + 0 ≤ _)⟩)
      dsimp only [Pt.U, Pt.locs, Pt.cells, Pt.slots] at X19 l19 y19 z19 st19 hQ19
      subst l19 y19 z19
      obtain ⟨rfl, N19q, K19q, o19_F_lines_ix, o19_F_records_ix, o19_F_runRecords_ix, o19_F_runFirsts_ix, o19_F_topics_ix, o19_F_recordCount_ix, o19_F_runCount_ix, o19_F_origin_ix, o19_A_bl⟩ := hQ19
      have N19 := Fr.app N18 N19q
      replace E_ix := E_ix.keep K19q
      replace A_br := A_br.keep K19q (ninS ne_br_ix (ninS (Ne.symm o17_ne_bl_br) nin0))
      replace A_bq := A_bq.keep K19q (ninS ne_bq_ix (ninS (Ne.symm o17_ne_bl_bq) nin0))
      replace A_bf := A_bf.keep K19q (ninS ne_bf_ix (ninS (Ne.symm o17_ne_bl_bf) nin0))
      have Z19 := Nat.le_trans Z18 K19q.1
      have F_lines_ix := o19_F_lines_ix
      have F_records_ix := o19_F_records_ix
      have F_runRecords_ix := o19_F_runRecords_ix
      have F_runFirsts_ix := o19_F_runFirsts_ix
      have F_topics_ix := o19_F_topics_ix
      have F_recordCount_ix := o19_F_recordCount_ix
      have F_runCount_ix := o19_F_runCount_ix
      have F_origin_ix := o19_F_origin_ix
      have A_bl := o19_A_bl
      refine Go.step (fun t k => st19.trans k) ?_
      show Go _ _ _ _ _ _ _ (T19.setTop (mkF m 49 #[.val (.long qe), .second, .val (.long qp), .second, .val (.int di), .val (.long qq), .second, .val (.int fl), .val (.int (0 : Int32)), .val (.int (1 : Int32)), .val (.ref ix), .val (.int (0 : Int32)), .unset, .unset, .unset, .unset, .unset] [(.int (1 : Int32))]))
      refine Go.step (fun t k => XS.istore X19.here hx rfl (hb hby at_49) rfl (l' := #[.val (.long qe), .second, .val (.long qp), .second, .val (.int di), .val (.long qq), .second, .val (.int fl), .val (.int (0 : Int32)), .val (.int (1 : Int32)), .val (.ref ix), .val (.int (0 : Int32)), .val (.int (1 : Int32)), .unset, .unset, .unset, .unset]) rfl k) ?_
      show Go _ _ _ _ _ _ _ (T19.setTop (mkF m 51 #[.val (.long qe), .second, .val (.long qp), .second, .val (.int di), .val (.long qq), .second, .val (.int fl), .val (.int (0 : Int32)), .val (.int (1 : Int32)), .val (.ref ix), .val (.int (0 : Int32)), .val (.int (1 : Int32)), .unset, .unset, .unset, .unset] []))
      refine Go.step (fun t k => XS.aload X19.here hx rfl (hb hby at_51) rfl rfl k) ?_
      show Go _ _ _ _ _ _ _ (T19.setTop (mkF m 53 #[.val (.long qe), .second, .val (.long qp), .second, .val (.int di), .val (.long qq), .second, .val (.int fl), .val (.int (0 : Int32)), .val (.int (1 : Int32)), .val (.ref ix), .val (.int (0 : Int32)), .val (.int (1 : Int32)), .unset, .unset, .unset, .unset] [(.ref ix)]))
      refine Go.step (fun t k => XS.iload X19.here hx rfl (hb hby at_53) rfl k) ?_
      show Go _ _ _ _ _ _ _ (T19.setTop (mkF m 55 #[.val (.long qe), .second, .val (.long qp), .second, .val (.int di), .val (.long qq), .second, .val (.int fl), .val (.int (0 : Int32)), .val (.int (1 : Int32)), .val (.ref ix), .val (.int (0 : Int32)), .val (.int (1 : Int32)), .unset, .unset, .unset, .unset] [(.int (0 : Int32)), (.ref ix)]))
      refine Go.step (fun t k => XS.lloadN X19.here hx rfl (hb hby at_55) rfl k) ?_
      show Go _ _ _ _ _ _ _ (T19.setTop (mkF m 56 #[.val (.long qe), .second, .val (.long qp), .second, .val (.int di), .val (.long qq), .second, .val (.int fl), .val (.int (0 : Int32)), .val (.int (1 : Int32)), .val (.ref ix), .val (.int (0 : Int32)), .val (.int (1 : Int32)), .unset, .unset, .unset, .unset] [(.long qe), (.int (0 : Int32)), (.ref ix)]))
      obtain ⟨cq20, kq20, q20a, q20b, q20c⟩ := isOf hZ rfl E_ix
      obtain ⟨_, _, ⟨T20, L20, k20, n20⟩, -, X20, ⟨Lc20, hQ20, l20, y20, z20⟩, st20⟩ := X19.virtualBack hx (y := (⟨"com/example/ferrylog/ferrylog/store/LiveIndex", "setEnd", "(IJ)V"⟩ : MethodName)) (z := (⟨"com/example/ferrylog/ferrylog/store/LiveIndex", "setEnd", "(IJ)V"⟩ : MethodName)) hown (mvT hZ (hw _ (List.mem_of_getElem? (i := 28) rfl))) (mvT hZ (hw _ (List.mem_of_getElem? (i := 29) rfl))) (notFace_of_selects (args := #[]) (mvT hZ (hw _ (List.mem_of_getElem? (i := 31) rfl)))) (mvT hZ (hw _ (List.mem_of_getElem? (i := 31) rfl))) (mvT hZ (hw _ (List.mem_of_getElem? (i := 30) rfl))) (by decide) (backOf (W := 0) (rm4 l Z a0 hw [] ix (0 : Int32) qe bl (up (up (up (up (up (up (fun _ => (0 : Int64)) 0 (0 : Int64)) 1 (-1 : Int64)) 3 (4294967295 : Int64)) 4 (0 : Int64)) 5 (-1 : Int64)) 7 (4294967295 : Int64)) 0 T19.heap n0 Z19 F_lines_ix A_bl (own_neA E_ix (hw _ (List.mem_of_getElem? (i := 1) rfl)) A_bl) o17_g_bl rfl (by decide)) hZ (hw _ (List.mem_of_getElem? (i := 32) rfl)) (hw _ (List.mem_of_getElem? (i := 2) rfl)) (by decide) (by decide)) q20a q20c (g := (mkF m 56 #[.val (.long qe), .second, .val (.long qp), .second, .val (.int di), .val (.long qq), .second, .val (.int fl), .val (.int (0 : Int32)), .val (.int (1 : Int32)), .val (.ref ix), .val (.int (0 : Int32)), .val (.int (1 : Int32)), .unset, .unset, .unset, .unset] [(.long qe), (.int (0 : Int32)), (.ref ix)])) rfl (by rw [hml]; rfl) (Steps.refl _) (argsL := [(.int (0 : Int32)), (.long qe)]) (rest := []) (lenOf pd_0_2 rfl) rfl (by show 2 * 0 + _ ≤ _; exact Nat.le_of_eq rfl) (hb hby at_56) (fun _ _ => ⟨rfl, rfl, (by decide : 5 + 0 ≤ _), (by decide : 3272 + 0 ≤ _)⟩)
      dsimp only [Pt.U, Pt.locs, Pt.cells, Pt.slots] at X20 l20 y20 z20 st20 hQ20
      subst l20 y20 z20
      obtain ⟨rfl, N20q, K20q, o20_A_bl⟩ := hQ20
      have N20 := Fr.app N19 N20q
      have ne_ix_bl : ix ≠ bl := (own_neA E_ix (hw _ (List.mem_of_getElem? (i := 1) rfl)) A_bl)
      replace E_ix := E_ix.keep K20q
      replace A_br := A_br.keep K20q (ninS (Ne.symm o17_ne_bl_br) nin0)
      replace A_bq := A_bq.keep K20q (ninS (Ne.symm o17_ne_bl_bq) nin0)
      replace A_bf := A_bf.keep K20q (ninS (Ne.symm o17_ne_bl_bf) nin0)
      replace F_lines_ix := F_lines_ix.keep K20q (ninS ne_ix_bl nin0)
      replace F_records_ix := F_records_ix.keep K20q (ninS ne_ix_bl nin0)
      replace F_runRecords_ix := F_runRecords_ix.keep K20q (ninS ne_ix_bl nin0)
      replace F_runFirsts_ix := F_runFirsts_ix.keep K20q (ninS ne_ix_bl nin0)
      replace F_topics_ix := F_topics_ix.keep K20q (ninS ne_ix_bl nin0)
      replace F_recordCount_ix := F_recordCount_ix.keep K20q (ninS ne_ix_bl nin0)
      replace F_runCount_ix := F_runCount_ix.keep K20q (ninS ne_ix_bl nin0)
      replace F_origin_ix := F_origin_ix.keep K20q (ninS ne_ix_bl nin0)
      have Z20 := Nat.le_trans Z19 K20q.1
      have A_bl := o20_A_bl
      refine Go.step (fun t k => st20.trans k) ?_
      show Go _ _ _ _ _ _ _ (T20.setTop (mkF m 59 #[.val (.long qe), .second, .val (.long qp), .second, .val (.int di), .val (.long qq), .second, .val (.int fl), .val (.int (0 : Int32)), .val (.int (1 : Int32)), .val (.ref ix), .val (.int (0 : Int32)), .val (.int (1 : Int32)), .unset, .unset, .unset, .unset] []))
      refine Go.step (fun t k => XS.aload X20.here hx rfl (hb hby at_59) rfl rfl k) ?_
      show Go _ _ _ _ _ _ _ (T20.setTop (mkF m 61 #[.val (.long qe), .second, .val (.long qp), .second, .val (.int di), .val (.long qq), .second, .val (.int fl), .val (.int (0 : Int32)), .val (.int (1 : Int32)), .val (.ref ix), .val (.int (0 : Int32)), .val (.int (1 : Int32)), .unset, .unset, .unset, .unset] [(.ref ix)]))
      refine Go.step (fun t k => XS.iload X20.here hx rfl (hb hby at_61) rfl k) ?_
      show Go _ _ _ _ _ _ _ (T20.setTop (mkF m 63 #[.val (.long qe), .second, .val (.long qp), .second, .val (.int di), .val (.long qq), .second, .val (.int fl), .val (.int (0 : Int32)), .val (.int (1 : Int32)), .val (.ref ix), .val (.int (0 : Int32)), .val (.int (1 : Int32)), .unset, .unset, .unset, .unset] [(.int (0 : Int32)), (.ref ix)]))
      refine Go.step (fun t k => XS.lloadN X20.here hx rfl (hb hby at_63) rfl k) ?_
      show Go _ _ _ _ _ _ _ (T20.setTop (mkF m 64 #[.val (.long qe), .second, .val (.long qp), .second, .val (.int di), .val (.long qq), .second, .val (.int fl), .val (.int (0 : Int32)), .val (.int (1 : Int32)), .val (.ref ix), .val (.int (0 : Int32)), .val (.int (1 : Int32)), .unset, .unset, .unset, .unset] [(.long qp), (.int (0 : Int32)), (.ref ix)]))
      obtain ⟨cq21, kq21, q21a, q21b, q21c⟩ := isOf hZ rfl E_ix
      obtain ⟨_, _, ⟨T21, L21, k21, n21⟩, -, X21, ⟨Lc21, hQ21, l21, y21, z21⟩, st21⟩ := X20.virtualBack hx (y := (⟨"com/example/ferrylog/ferrylog/store/LiveIndex", "addRecord", "(IJ)V"⟩ : MethodName)) (z := (⟨"com/example/ferrylog/ferrylog/store/LiveIndex", "addRecord", "(IJ)V"⟩ : MethodName)) hown (mvT hZ (hw _ (List.mem_of_getElem? (i := 33) rfl))) (mvT hZ (hw _ (List.mem_of_getElem? (i := 34) rfl))) (notFace_of_selects (args := #[]) (mvT hZ (hw _ (List.mem_of_getElem? (i := 36) rfl)))) (mvT hZ (hw _ (List.mem_of_getElem? (i := 36) rfl))) (mvT hZ (hw _ (List.mem_of_getElem? (i := 35) rfl))) (by decide) (backOf (W := 0) (rm5_0 l Z a0 hw [] ix (0 : Int32) qp bl br bq bf (2 : Int32) (0 : Int32) (0 : Int64) 0 0 (up (up (up (up (up (up (up (fun _ => (0 : Int64)) 0 (0 : Int64)) 1 (-1 : Int64)) 3 (4294967295 : Int64)) 4 (0 : Int64)) 5 (-1 : Int64)) 7 (4294967295 : Int64)) 0 qe) (fun _ => (0 : Int32)) (fun _ => (0 : Int32)) (fun _ => (0 : Int64)) T20.heap n0 Z20 F_lines_ix F_records_ix F_runRecords_ix F_runFirsts_ix F_topics_ix F_recordCount_ix F_runCount_ix F_origin_ix E_ix g_ix o17_g_bl o17_g_br o17_g_bq o17_g_bf o17_ne_bl_br o17_ne_bl_bq o17_ne_bl_bf o17_ne_br_bq o17_ne_br_bf o17_ne_bq_bf A_bl A_br A_bq A_bf rfl (by decide) rfl (by decide) (show ((4294967295 : Int64).toInt32) < (0 : Int32) by decide +kernel) (own_pp qp)) hZ (hw _ (List.mem_of_getElem? (i := 37) rfl)) (hw _ (List.mem_of_getElem? (i := 2) rfl)) (by decide) (by decide)) q21a q21c (g := (mkF m 64 #[.val (.long qe), .second, .val (.long qp), .second, .val (.int di), .val (.long qq), .second, .val (.int fl), .val (.int (0 : Int32)), .val (.int (1 : Int32)), .val (.ref ix), .val (.int (0 : Int32)), .val (.int (1 : Int32)), .unset, .unset, .unset, .unset] [(.long qp), (.int (0 : Int32)), (.ref ix)])) rfl (by rw [hml]; rfl) (Steps.refl _) (argsL := [(.int (0 : Int32)), (.long qp)]) (rest := []) (lenOf pd_0_2 rfl) rfl (by show 2 * 0 + _ ≤ _; exact Nat.le_of_eq rfl) (hb hby at_64) (fun _ _ => ⟨rfl, rfl, (by decide : 5 + 0 ≤ _), (by decide : 3272 + 0 ≤ _)⟩)
      dsimp only [Pt.U, Pt.locs, Pt.cells, Pt.slots] at X21 l21 y21 z21 st21 hQ21
      subst l21 y21 z21
      obtain ⟨rfl, N21q, K21q, o21_F_lines_ix, o21_F_records_ix, o21_F_runRecords_ix, o21_F_runFirsts_ix, o21_F_topics_ix, o21_F_recordCount_ix, o21_F_runCount_ix, o21_F_origin_ix, o21_A_bl, o21_A_br, o21_A_bq, o21_A_bf⟩ := hQ21
      have N21 := Fr.app N20 N21q
      replace E_ix := E_ix.keep K21q
      have Z21 := Nat.le_trans Z20 K21q.1
      have F_lines_ix := o21_F_lines_ix
      have F_records_ix := o21_F_records_ix
      have F_runRecords_ix := o21_F_runRecords_ix
      have F_runFirsts_ix := o21_F_runFirsts_ix
      have F_topics_ix := o21_F_topics_ix
      have F_recordCount_ix := o21_F_recordCount_ix
      have F_runCount_ix := o21_F_runCount_ix
      have F_origin_ix := o21_F_origin_ix
      have A_bl := o21_A_bl
      have A_br := o21_A_br
      have A_bq := o21_A_bq
      have A_bf := o21_A_bf
      refine Go.step (fun t k => st21.trans k) ?_
      show Go _ _ _ _ _ _ _ (T21.setTop (mkF m 67 #[.val (.long qe), .second, .val (.long qp), .second, .val (.int di), .val (.long qq), .second, .val (.int fl), .val (.int (0 : Int32)), .val (.int (1 : Int32)), .val (.ref ix), .val (.int (0 : Int32)), .val (.int (1 : Int32)), .unset, .unset, .unset, .unset] []))
      refine Go.step (fun t k => XS.iload X21.here hx rfl (hb hby at_67) rfl k) ?_
      show Go _ _ _ _ _ _ _ (T21.setTop (mkF m 69 #[.val (.long qe), .second, .val (.long qp), .second, .val (.int di), .val (.long qq), .second, .val (.int fl), .val (.int (0 : Int32)), .val (.int (1 : Int32)), .val (.ref ix), .val (.int (0 : Int32)), .val (.int (1 : Int32)), .unset, .unset, .unset, .unset] [(.int (0 : Int32))]))
      refine Go.step (fun t k => XS.ifYes X21.here hx rfl (pc0 := 69) (pc' := 84) rfl (hb hby at_69) rfl ((if0 _ _).trans (teq (by decide : (0 : Int32) = (0 : Int32))).1) (by decide) (by decide) k) ?_
      show Go _ _ _ _ _ _ _ (T21.setTop (mkF m 84 #[.val (.long qe), .second, .val (.long qp), .second, .val (.int di), .val (.long qq), .second, .val (.int fl), .val (.int (0 : Int32)), .val (.int (1 : Int32)), .val (.ref ix), .val (.int (0 : Int32)), .val (.int (1 : Int32)), .unset, .unset, .unset, .unset] []))
      refine Go.step (fun t k => XS.iload X21.here hx rfl (hb hby at_84) rfl k) ?_
      show Go _ _ _ _ _ _ _ (T21.setTop (mkF m 86 #[.val (.long qe), .second, .val (.long qp), .second, .val (.int di), .val (.long qq), .second, .val (.int fl), .val (.int (0 : Int32)), .val (.int (1 : Int32)), .val (.ref ix), .val (.int (0 : Int32)), .val (.int (1 : Int32)), .unset, .unset, .unset, .unset] [(.int (1 : Int32))]))
      refine Go.step (fun t k => XS.ifNo X21.here hx rfl (hb hby at_86) rfl ((if0 _ _).trans (feq (by decide : ¬ (1 : Int32) = (0 : Int32))).1) k) ?_
      show Go _ _ _ _ _ _ _ (T21.setTop (mkF m 89 #[.val (.long qe), .second, .val (.long qp), .second, .val (.int di), .val (.long qq), .second, .val (.int fl), .val (.int (0 : Int32)), .val (.int (1 : Int32)), .val (.ref ix), .val (.int (0 : Int32)), .val (.int (1 : Int32)), .unset, .unset, .unset, .unset] []))
      refine Go.step (fun t k => XS.aload X21.here hx rfl (hb hby at_89) rfl rfl k) ?_
      show Go _ _ _ _ _ _ _ (T21.setTop (mkF m 91 #[.val (.long qe), .second, .val (.long qp), .second, .val (.int di), .val (.long qq), .second, .val (.int fl), .val (.int (0 : Int32)), .val (.int (1 : Int32)), .val (.ref ix), .val (.int (0 : Int32)), .val (.int (1 : Int32)), .unset, .unset, .unset, .unset] [(.ref ix)]))
      refine Go.step (fun t k => XS.iload X21.here hx rfl (hb hby at_91) rfl k) ?_
      show Go _ _ _ _ _ _ _ (T21.setTop (mkF m 93 #[.val (.long qe), .second, .val (.long qp), .second, .val (.int di), .val (.long qq), .second, .val (.int fl), .val (.int (0 : Int32)), .val (.int (1 : Int32)), .val (.ref ix), .val (.int (0 : Int32)), .val (.int (1 : Int32)), .unset, .unset, .unset, .unset] [(.int (0 : Int32)), (.ref ix)]))
      obtain ⟨cq22, kq22, q22a, q22b, q22c⟩ := isOf hZ rfl E_ix
      obtain ⟨_, _, ⟨T22, L22, k22, n22⟩, -, X22, ⟨Lc22, hQ22, l22, y22, z22⟩, st22⟩ := X21.virtualBack hx (y := (⟨"com/example/ferrylog/ferrylog/store/LiveIndex", "giveOffset", "(I)J"⟩ : MethodName)) (z := (⟨"com/example/ferrylog/ferrylog/store/LiveIndex", "giveOffset", "(I)J"⟩ : MethodName)) hown (mvT hZ (hw _ (List.mem_of_getElem? (i := 54) rfl))) (mvT hZ (hw _ (List.mem_of_getElem? (i := 55) rfl))) (notFace_of_selects (args := #[]) (mvT hZ (hw _ (List.mem_of_getElem? (i := 57) rfl)))) (mvT hZ (hw _ (List.mem_of_getElem? (i := 57) rfl))) (mvT hZ (hw _ (List.mem_of_getElem? (i := 56) rfl))) (by decide) (backOf (W := 0) (rm8 l Z a0 hw [] ix (0 : Int32) bl (up (up (up (up (up (up (up (up (up (up (fun _ => (0 : Int64)) 0 (0 : Int64)) 1 (-1 : Int64)) 3 (4294967295 : Int64)) 4 (0 : Int64)) 5 (-1 : Int64)) 7 (4294967295 : Int64)) 0 qe) 3 (((4294967295 : Int64) &&& (-4294967296 : Int64)) ||| ((0 : Int32).toInt64))) 0 (qe + (1 : Int64))) 2 (qe + (1 : Int64))) 0 T21.heap n0 Z21 F_lines_ix A_bl ne_ix_bl o17_g_bl rfl (by decide)) hZ (hw _ (List.mem_of_getElem? (i := 58) rfl)) (hw _ (List.mem_of_getElem? (i := 2) rfl)) (by decide) (by decide)) q22a q22c (g := (mkF m 93 #[.val (.long qe), .second, .val (.long qp), .second, .val (.int di), .val (.long qq), .second, .val (.int fl), .val (.int (0 : Int32)), .val (.int (1 : Int32)), .val (.ref ix), .val (.int (0 : Int32)), .val (.int (1 : Int32)), .unset, .unset, .unset, .unset] [(.int (0 : Int32)), (.ref ix)])) rfl (by rw [hml]; rfl) (Steps.refl _) (argsL := [(.int (0 : Int32))]) (rest := []) (lenOf pd_0_4 rfl) rfl (by show 2 * 0 + _ ≤ _; exact Nat.le_of_eq rfl) (hb hby at_93) (fun _ _ => ⟨rfl, rfl, (by decide : 5 + 0 ≤ _), (by decide : 3272 + 0 ≤ _)⟩)
      dsimp only [Pt.U, Pt.locs, Pt.cells, Pt.slots] at X22 l22 y22 z22 st22 hQ22
      subst l22 y22 z22
      obtain ⟨rfl, N22q, K22q, o22_A_bl⟩ := hQ22
      have N22 := Fr.app N21 N22q
      replace E_ix := E_ix.keep K22q
      replace F_lines_ix := F_lines_ix.keep K22q (ninS ne_ix_bl nin0)
      replace F_records_ix := F_records_ix.keep K22q (ninS ne_ix_bl nin0)
      replace F_runRecords_ix := F_runRecords_ix.keep K22q (ninS ne_ix_bl nin0)
      replace F_runFirsts_ix := F_runFirsts_ix.keep K22q (ninS ne_ix_bl nin0)
      replace F_topics_ix := F_topics_ix.keep K22q (ninS ne_ix_bl nin0)
      replace F_recordCount_ix := F_recordCount_ix.keep K22q (ninS ne_ix_bl nin0)
      replace F_runCount_ix := F_runCount_ix.keep K22q (ninS ne_ix_bl nin0)
      replace F_origin_ix := F_origin_ix.keep K22q (ninS ne_ix_bl nin0)
      replace A_br := A_br.keep K22q (ninS (Ne.symm o17_ne_bl_br) nin0)
      replace A_bq := A_bq.keep K22q (ninS (Ne.symm o17_ne_bl_bq) nin0)
      replace A_bf := A_bf.keep K22q (ninS (Ne.symm o17_ne_bl_bf) nin0)
      have Z22 := Nat.le_trans Z21 K22q.1
      have A_bl := o22_A_bl
      refine Go.step (fun t k => st22.trans k) ?_
      show Go _ _ _ _ _ _ _ (T22.setTop (mkF m 96 #[.val (.long qe), .second, .val (.long qp), .second, .val (.int di), .val (.long qq), .second, .val (.int fl), .val (.int (0 : Int32)), .val (.int (1 : Int32)), .val (.ref ix), .val (.int (0 : Int32)), .val (.int (1 : Int32)), .unset, .unset, .unset, .unset] [(.long ((qe + (1 : Int64)) + (((((4294967295 : Int64) &&& (-4294967296 : Int64)) ||| ((0 : Int32).toInt64)).toUInt64 >>> ((32 : Int32) &&& 0x3f).toInt64.toUInt64).toInt64)))]))
      refine Go.step (σ' := T22.setTop (mkF m 97 #[.val (.long qe), .second, .val (.long qp), .second, .val (.int di), .val (.long qq), .second, .val (.int fl), .val (.int (0 : Int32)), .val (.int (1 : Int32)), .val (.ref ix), .val (.int (0 : Int32)), .val (.int (1 : Int32)), .unset, .unset, .unset, .unset] [])) (fun t k => by jvm_step X22.here [X22.here.top, hx, (hb hby at_96), Value.category]; exact k) ?_
      show Go _ _ _ _ _ _ _ (T22.setTop (mkF m 97 #[.val (.long qe), .second, .val (.long qp), .second, .val (.int di), .val (.long qq), .second, .val (.int fl), .val (.int (0 : Int32)), .val (.int (1 : Int32)), .val (.ref ix), .val (.int (0 : Int32)), .val (.int (1 : Int32)), .unset, .unset, .unset, .unset] []))
      refine Go.step (fun t k => XS.aload X22.here hx rfl (hb hby at_97) rfl rfl k) ?_
      show Go _ _ _ _ _ _ _ (T22.setTop (mkF m 99 #[.val (.long qe), .second, .val (.long qp), .second, .val (.int di), .val (.long qq), .second, .val (.int fl), .val (.int (0 : Int32)), .val (.int (1 : Int32)), .val (.ref ix), .val (.int (0 : Int32)), .val (.int (1 : Int32)), .unset, .unset, .unset, .unset] [(.ref ix)]))
      obtain ⟨cq23, kq23, q23a, q23b, q23c⟩ := isOf hZ rfl E_ix
      obtain ⟨_, _, ⟨T23, L23, k23, n23⟩, -, X23, ⟨Lc23, hQ23, l23, y23, z23⟩, st23⟩ := X22.virtualBack hx (y := (⟨"com/example/ferrylog/ferrylog/store/LiveIndex", "checkpointed", "()V"⟩ : MethodName)) (z := (⟨"com/example/ferrylog/ferrylog/store/LiveIndex", "checkpointed", "()V"⟩ : MethodName)) hown (mvT hZ (hw _ (List.mem_of_getElem? (i := 60) rfl))) (mvT hZ (hw _ (List.mem_of_getElem? (i := 61) rfl))) (notFace_of_selects (args := #[]) (mvT hZ (hw _ (List.mem_of_getElem? (i := 63) rfl)))) (mvT hZ (hw _ (List.mem_of_getElem? (i := 63) rfl))) (mvT hZ (hw _ (List.mem_of_getElem? (i := 62) rfl))) (by decide) (backOf (W := 0) (rm9 l Z a0 hw [] ix bl br bq bf (1 : Int32) (1 : Int32) qp (up (up (up (up (up (up (up (up (up (up (up (fun _ => (0 : Int64)) 0 (0 : Int64)) 1 (-1 : Int64)) 3 (4294967295 : Int64)) 4 (0 : Int64)) 5 (-1 : Int64)) 7 (4294967295 : Int64)) 0 qe) 3 (((4294967295 : Int64) &&& (-4294967296 : Int64)) ||| ((0 : Int32).toInt64))) 0 (qe + (1 : Int64))) 2 (qe + (1 : Int64))) 3 ((((4294967295 : Int64) &&& (-4294967296 : Int64)) ||| ((0 : Int32).toInt64)) + (4294967296 : Int64))) (up (up (up (fun _ => (0 : Int32)) 0 ((qp - qp).toInt32)) 1 ((0 : Int32) ||| (-2147483648 : Int32))) 2 ((4294967295 : Int64).toInt32)) (up (fun _ => (0 : Int32)) 0 (0 : Int32)) T22.heap n0 Z22 F_lines_ix F_records_ix F_runRecords_ix F_runFirsts_ix F_topics_ix F_recordCount_ix F_runCount_ix F_origin_ix E_ix g_ix o17_g_bl A_bl A_br A_bq o17_ne_bl_br o17_ne_bl_bq ne_ix_bl) hZ (hw _ (List.mem_of_getElem? (i := 64) rfl)) (hw _ (List.mem_of_getElem? (i := 2) rfl)) (by decide) (by decide)) q23a q23c (g := (mkF m 99 #[.val (.long qe), .second, .val (.long qp), .second, .val (.int di), .val (.long qq), .second, .val (.int fl), .val (.int (0 : Int32)), .val (.int (1 : Int32)), .val (.ref ix), .val (.int (0 : Int32)), .val (.int (1 : Int32)), .unset, .unset, .unset, .unset] [(.ref ix)])) rfl (by rw [hml]; rfl) (Steps.refl _) (argsL := []) (rest := []) (lenOf pd_0_0 rfl) rfl (by show 2 * 0 + _ ≤ _; exact Nat.le_of_eq rfl) (hb hby at_99) (fun _ _ => ⟨rfl, rfl, (by decide : 5 + 0 ≤ _), (by decide : 3272 + 0 ≤ _)⟩)
      dsimp only [Pt.U, Pt.locs, Pt.cells, Pt.slots] at X23 l23 y23 z23 st23 hQ23
      subst l23 y23 z23
      obtain ⟨rfl, N23q, K23q, o23_F_lines_ix, o23_F_records_ix, o23_F_runRecords_ix, o23_F_runFirsts_ix, o23_F_topics_ix, o23_F_recordCount_ix, o23_F_runCount_ix, o23_F_origin_ix, o23_A_bl⟩ := hQ23
      have N23 := Fr.app N22 N23q
      replace E_ix := E_ix.keep K23q
      replace A_br := A_br.keep K23q (ninS ne_br_ix (ninS (Ne.symm o17_ne_bl_br) nin0))
      replace A_bq := A_bq.keep K23q (ninS ne_bq_ix (ninS (Ne.symm o17_ne_bl_bq) nin0))
      replace A_bf := A_bf.keep K23q (ninS ne_bf_ix (ninS (Ne.symm o17_ne_bl_bf) nin0))
      have Z23 := Nat.le_trans Z22 K23q.1
      have F_lines_ix := o23_F_lines_ix
      have F_records_ix := o23_F_records_ix
      have F_runRecords_ix := o23_F_runRecords_ix
      have F_runFirsts_ix := o23_F_runFirsts_ix
      have F_topics_ix := o23_F_topics_ix
      have F_recordCount_ix := o23_F_recordCount_ix
      have F_runCount_ix := o23_F_runCount_ix
      have F_origin_ix := o23_F_origin_ix
      have A_bl := o23_A_bl
      refine Go.step (fun t k => st23.trans k) ?_
      show Go _ _ _ _ _ _ _ (T23.setTop (mkF m 102 #[.val (.long qe), .second, .val (.long qp), .second, .val (.int di), .val (.long qq), .second, .val (.int fl), .val (.int (0 : Int32)), .val (.int (1 : Int32)), .val (.ref ix), .val (.int (0 : Int32)), .val (.int (1 : Int32)), .unset, .unset, .unset, .unset] []))
      refine Go.step (fun t k => XS.aload X23.here hx rfl (hb hby at_102) rfl rfl k) ?_
      show Go _ _ _ _ _ _ _ (T23.setTop (mkF m 104 #[.val (.long qe), .second, .val (.long qp), .second, .val (.int di), .val (.long qq), .second, .val (.int fl), .val (.int (0 : Int32)), .val (.int (1 : Int32)), .val (.ref ix), .val (.int (0 : Int32)), .val (.int (1 : Int32)), .unset, .unset, .unset, .unset] [(.ref ix)]))
      refine Go.step (fun t k => XS.iload X23.here hx rfl (hb hby at_104) rfl k) ?_
      show Go _ _ _ _ _ _ _ (T23.setTop (mkF m 106 #[.val (.long qe), .second, .val (.long qp), .second, .val (.int di), .val (.long qq), .second, .val (.int fl), .val (.int (0 : Int32)), .val (.int (1 : Int32)), .val (.ref ix), .val (.int (0 : Int32)), .val (.int (1 : Int32)), .unset, .unset, .unset, .unset] [(.int (0 : Int32)), (.ref ix)]))
      obtain ⟨cq24, kq24, q24a, q24b, q24c⟩ := isOf hZ rfl E_ix
      obtain ⟨_, _, ⟨T24, L24, k24, n24⟩, -, X24, ⟨Lc24, hQ24, l24, y24, z24⟩, st24⟩ := X23.virtualBack hx (y := (⟨"com/example/ferrylog/ferrylog/store/LiveIndex", "last", "(I)I"⟩ : MethodName)) (z := (⟨"com/example/ferrylog/ferrylog/store/LiveIndex", "last", "(I)I"⟩ : MethodName)) hown (mvT hZ (hw _ (List.mem_of_getElem? (i := 65) rfl))) (mvT hZ (hw _ (List.mem_of_getElem? (i := 66) rfl))) (notFace_of_selects (args := #[]) (mvT hZ (hw _ (List.mem_of_getElem? (i := 68) rfl)))) (mvT hZ (hw _ (List.mem_of_getElem? (i := 68) rfl))) (mvT hZ (hw _ (List.mem_of_getElem? (i := 67) rfl))) (by decide) (backOf (W := 0) (rm10 l Z a0 hw [] ix (0 : Int32) bl (up (up (up (up (up (up (up (up (up (up (up (up (up (fun _ => (0 : Int64)) 0 (0 : Int64)) 1 (-1 : Int64)) 3 (4294967295 : Int64)) 4 (0 : Int64)) 5 (-1 : Int64)) 7 (4294967295 : Int64)) 0 qe) 3 (((4294967295 : Int64) &&& (-4294967296 : Int64)) ||| ((0 : Int32).toInt64))) 0 (qe + (1 : Int64))) 2 (qe + (1 : Int64))) 3 ((((4294967295 : Int64) &&& (-4294967296 : Int64)) ||| ((0 : Int32).toInt64)) + (4294967296 : Int64))) 3 (((((4294967295 : Int64) &&& (-4294967296 : Int64)) ||| ((0 : Int32).toInt64)) + (4294967296 : Int64)) ||| (4294967295 : Int64))) 7 ((4294967295 : Int64) ||| (4294967295 : Int64))) 0 T23.heap n0 Z23 F_lines_ix A_bl ne_ix_bl rfl (by decide)) hZ (hw _ (List.mem_of_getElem? (i := 69) rfl)) (hw _ (List.mem_of_getElem? (i := 2) rfl)) (by decide) (by decide)) q24a q24c (g := (mkF m 106 #[.val (.long qe), .second, .val (.long qp), .second, .val (.int di), .val (.long qq), .second, .val (.int fl), .val (.int (0 : Int32)), .val (.int (1 : Int32)), .val (.ref ix), .val (.int (0 : Int32)), .val (.int (1 : Int32)), .unset, .unset, .unset, .unset] [(.int (0 : Int32)), (.ref ix)])) rfl (by rw [hml]; rfl) (Steps.refl _) (argsL := [(.int (0 : Int32))]) (rest := []) (lenOf pd_0_3 rfl) rfl (by show 2 * 0 + _ ≤ _; exact Nat.le_of_eq rfl) (hb hby at_106) (fun _ _ => ⟨rfl, rfl, (by decide : 5 + 0 ≤ _), (by decide : 3272 + 0 ≤ _)⟩)
      dsimp only [Pt.U, Pt.locs, Pt.cells, Pt.slots] at X24 l24 y24 z24 st24 hQ24
      subst l24 y24 z24
      obtain ⟨rfl, N24q, K24q⟩ := hQ24
      have N24 := Fr.app N23 N24q
      refine Go.step (fun t k => st24.trans k) ?_
      show Go _ _ _ _ _ _ _ (T24.setTop (mkF m 109 #[.val (.long qe), .second, .val (.long qp), .second, .val (.int di), .val (.long qq), .second, .val (.int fl), .val (.int (0 : Int32)), .val (.int (1 : Int32)), .val (.ref ix), .val (.int (0 : Int32)), .val (.int (1 : Int32)), .unset, .unset, .unset, .unset] [(.int ((((((4294967295 : Int64) &&& (-4294967296 : Int64)) ||| ((0 : Int32).toInt64)) + (4294967296 : Int64)) ||| (4294967295 : Int64)).toInt32))]))
      refine Go.step (fun t k => XS.iconst X24.here hx rfl (hb hby at_109) k) ?_
      show Go _ _ _ _ _ _ _ (T24.setTop (mkF m 110 #[.val (.long qe), .second, .val (.long qp), .second, .val (.int di), .val (.long qq), .second, .val (.int fl), .val (.int (0 : Int32)), .val (.int (1 : Int32)), .val (.ref ix), .val (.int (0 : Int32)), .val (.int (1 : Int32)), .unset, .unset, .unset, .unset] [(.int (-1 : Int32)), (.int ((((((4294967295 : Int64) &&& (-4294967296 : Int64)) ||| ((0 : Int32).toInt64)) + (4294967296 : Int64)) ||| (4294967295 : Int64)).toInt32))]))
      refine Go.step (fun t k => XS.icmpYes X24.here hx rfl (pc0 := 110) (pc' := 115) rfl (hb hby at_110) rfl (teq ((by decide +kernel) : ((((((4294967295 : Int64) &&& (-4294967296 : Int64)) ||| ((0 : Int32).toInt64)) + (4294967296 : Int64)) ||| (4294967295 : Int64)).toInt32) = (-1 : Int32))).1 (by decide) (by decide) k) ?_
      show Go _ _ _ _ _ _ _ (T24.setTop (mkF m 115 #[.val (.long qe), .second, .val (.long qp), .second, .val (.int di), .val (.long qq), .second, .val (.int fl), .val (.int (0 : Int32)), .val (.int (1 : Int32)), .val (.ref ix), .val (.int (0 : Int32)), .val (.int (1 : Int32)), .unset, .unset, .unset, .unset] []))
      refine Go.step (fun t k => XS.aload X24.here hx rfl (hb hby at_115) rfl rfl k) ?_
      show Go _ _ _ _ _ _ _ (T24.setTop (mkF m 117 #[.val (.long qe), .second, .val (.long qp), .second, .val (.int di), .val (.long qq), .second, .val (.int fl), .val (.int (0 : Int32)), .val (.int (1 : Int32)), .val (.ref ix), .val (.int (0 : Int32)), .val (.int (1 : Int32)), .unset, .unset, .unset, .unset] [(.ref ix)]))
      refine Go.step (fun t k => XS.iload X24.here hx rfl (hb hby at_117) rfl k) ?_
      show Go _ _ _ _ _ _ _ (T24.setTop (mkF m 119 #[.val (.long qe), .second, .val (.long qp), .second, .val (.int di), .val (.long qq), .second, .val (.int fl), .val (.int (0 : Int32)), .val (.int (1 : Int32)), .val (.ref ix), .val (.int (0 : Int32)), .val (.int (1 : Int32)), .unset, .unset, .unset, .unset] [(.int (0 : Int32)), (.ref ix)]))
      obtain ⟨cq25, kq25, q25a, q25b, q25c⟩ := isOf hZ K24q E_ix
      obtain ⟨_, _, ⟨T25, L25, k25, n25⟩, -, X25, ⟨Lc25, hQ25, l25, y25, z25⟩, st25⟩ := X24.virtualBack hx (y := (⟨"com/example/ferrylog/ferrylog/store/LiveIndex", "giveOffset", "(I)J"⟩ : MethodName)) (z := (⟨"com/example/ferrylog/ferrylog/store/LiveIndex", "giveOffset", "(I)J"⟩ : MethodName)) hown (mvT hZ (hw _ (List.mem_of_getElem? (i := 54) rfl))) (mvT hZ (hw _ (List.mem_of_getElem? (i := 55) rfl))) (notFace_of_selects (args := #[]) (mvT hZ (hw _ (List.mem_of_getElem? (i := 57) rfl)))) (mvT hZ (hw _ (List.mem_of_getElem? (i := 57) rfl))) (mvT hZ (hw _ (List.mem_of_getElem? (i := 56) rfl))) (by decide) (backOf (W := 0) (rm8 l Z a0 hw [] ix (0 : Int32) bl (up (up (up (up (up (up (up (up (up (up (up (up (up (fun _ => (0 : Int64)) 0 (0 : Int64)) 1 (-1 : Int64)) 3 (4294967295 : Int64)) 4 (0 : Int64)) 5 (-1 : Int64)) 7 (4294967295 : Int64)) 0 qe) 3 (((4294967295 : Int64) &&& (-4294967296 : Int64)) ||| ((0 : Int32).toInt64))) 0 (qe + (1 : Int64))) 2 (qe + (1 : Int64))) 3 ((((4294967295 : Int64) &&& (-4294967296 : Int64)) ||| ((0 : Int32).toInt64)) + (4294967296 : Int64))) 3 (((((4294967295 : Int64) &&& (-4294967296 : Int64)) ||| ((0 : Int32).toInt64)) + (4294967296 : Int64)) ||| (4294967295 : Int64))) 7 ((4294967295 : Int64) ||| (4294967295 : Int64))) 0 T23.heap n0 Z23 F_lines_ix A_bl ne_ix_bl o17_g_bl rfl (by decide)) hZ (hw _ (List.mem_of_getElem? (i := 58) rfl)) (hw _ (List.mem_of_getElem? (i := 2) rfl)) (by decide) (by decide)) q25a q25c (g := (mkF m 119 #[.val (.long qe), .second, .val (.long qp), .second, .val (.int di), .val (.long qq), .second, .val (.int fl), .val (.int (0 : Int32)), .val (.int (1 : Int32)), .val (.ref ix), .val (.int (0 : Int32)), .val (.int (1 : Int32)), .unset, .unset, .unset, .unset] [(.int (0 : Int32)), (.ref ix)])) rfl (by rw [hml]; rfl) (Steps.refl _) (argsL := [(.int (0 : Int32))]) (rest := []) (lenOf pd_0_4 rfl) rfl (by show 2 * 0 + _ ≤ _; exact Nat.le_of_eq rfl) (hb hby at_119) (fun _ _ => ⟨rfl, K24q, (by decide : 5 + 0 ≤ _), (by decide : 3272 + 0 ≤ _)⟩)
      dsimp only [Pt.U, Pt.locs, Pt.cells, Pt.slots] at X25 l25 y25 z25 st25 hQ25
      subst l25 y25 z25
      obtain ⟨rfl, N25q, K25q, o25_A_bl⟩ := hQ25
      have N25 := Fr.app N24 N25q
      replace E_ix := E_ix.keep K25q
      replace A_br := A_br.keep K25q (ninS (Ne.symm o17_ne_bl_br) nin0)
      replace A_bq := A_bq.keep K25q (ninS (Ne.symm o17_ne_bl_bq) nin0)
      replace A_bf := A_bf.keep K25q (ninS (Ne.symm o17_ne_bl_bf) nin0)
      replace F_lines_ix := F_lines_ix.keep K25q (ninS ne_ix_bl nin0)
      replace F_records_ix := F_records_ix.keep K25q (ninS ne_ix_bl nin0)
      replace F_runRecords_ix := F_runRecords_ix.keep K25q (ninS ne_ix_bl nin0)
      replace F_runFirsts_ix := F_runFirsts_ix.keep K25q (ninS ne_ix_bl nin0)
      replace F_topics_ix := F_topics_ix.keep K25q (ninS ne_ix_bl nin0)
      replace F_recordCount_ix := F_recordCount_ix.keep K25q (ninS ne_ix_bl nin0)
      replace F_runCount_ix := F_runCount_ix.keep K25q (ninS ne_ix_bl nin0)
      replace F_origin_ix := F_origin_ix.keep K25q (ninS ne_ix_bl nin0)
      have Z25 := Nat.le_trans Z23 K25q.1
      have A_bl := o25_A_bl
      refine Go.step (fun t k => st25.trans k) ?_
      show Go _ _ _ _ _ _ _ (T25.setTop (mkF m 122 #[.val (.long qe), .second, .val (.long qp), .second, .val (.int di), .val (.long qq), .second, .val (.int fl), .val (.int (0 : Int32)), .val (.int (1 : Int32)), .val (.ref ix), .val (.int (0 : Int32)), .val (.int (1 : Int32)), .unset, .unset, .unset, .unset] [(.long ((qe + (1 : Int64)) + (((((((4294967295 : Int64) &&& (-4294967296 : Int64)) ||| ((0 : Int32).toInt64)) + (4294967296 : Int64)) ||| (4294967295 : Int64)).toUInt64 >>> ((32 : Int32) &&& 0x3f).toInt64.toUInt64).toInt64)))]))
      refine Go.step (fun t k => XS.lstore X25.here hx rfl (hb hby at_122) rfl (l' := #[.val (.long qe), .second, .val (.long qp), .second, .val (.int di), .val (.long qq), .second, .val (.int fl), .val (.int (0 : Int32)), .val (.int (1 : Int32)), .val (.ref ix), .val (.int (0 : Int32)), .val (.int (1 : Int32)), .val (.long ((qe + (1 : Int64)) + (((((((4294967295 : Int64) &&& (-4294967296 : Int64)) ||| ((0 : Int32).toInt64)) + (4294967296 : Int64)) ||| (4294967295 : Int64)).toUInt64 >>> ((32 : Int32) &&& 0x3f).toInt64.toUInt64).toInt64))), .second, .unset, .unset]) rfl k) ?_
      show Go _ _ _ _ _ _ _ (T25.setTop (mkF m 124 #[.val (.long qe), .second, .val (.long qp), .second, .val (.int di), .val (.long qq), .second, .val (.int fl), .val (.int (0 : Int32)), .val (.int (1 : Int32)), .val (.ref ix), .val (.int (0 : Int32)), .val (.int (1 : Int32)), .val (.long ((qe + (1 : Int64)) + (((((((4294967295 : Int64) &&& (-4294967296 : Int64)) ||| ((0 : Int32).toInt64)) + (4294967296 : Int64)) ||| (4294967295 : Int64)).toUInt64 >>> ((32 : Int32) &&& 0x3f).toInt64.toUInt64).toInt64))), .second, .unset, .unset] []))
      refine Go.step (fun t k => XS.lload X25.here hx rfl (hb hby at_124) rfl k) ?_
      show Go _ _ _ _ _ _ _ (T25.setTop (mkF m 126 #[.val (.long qe), .second, .val (.long qp), .second, .val (.int di), .val (.long qq), .second, .val (.int fl), .val (.int (0 : Int32)), .val (.int (1 : Int32)), .val (.ref ix), .val (.int (0 : Int32)), .val (.int (1 : Int32)), .val (.long ((qe + (1 : Int64)) + (((((((4294967295 : Int64) &&& (-4294967296 : Int64)) ||| ((0 : Int32).toInt64)) + (4294967296 : Int64)) ||| (4294967295 : Int64)).toUInt64 >>> ((32 : Int32) &&& 0x3f).toInt64.toUInt64).toInt64))), .second, .unset, .unset] [(.long ((qe + (1 : Int64)) + (((((((4294967295 : Int64) &&& (-4294967296 : Int64)) ||| ((0 : Int32).toInt64)) + (4294967296 : Int64)) ||| (4294967295 : Int64)).toUInt64 >>> ((32 : Int32) &&& 0x3f).toInt64.toUInt64).toInt64)))]))
      refine Go.step (fun t k => XS.lloadN X25.here hx rfl (hb hby at_126) rfl k) ?_
      show Go _ _ _ _ _ _ _ (T25.setTop (mkF m 127 #[.val (.long qe), .second, .val (.long qp), .second, .val (.int di), .val (.long qq), .second, .val (.int fl), .val (.int (0 : Int32)), .val (.int (1 : Int32)), .val (.ref ix), .val (.int (0 : Int32)), .val (.int (1 : Int32)), .val (.long ((qe + (1 : Int64)) + (((((((4294967295 : Int64) &&& (-4294967296 : Int64)) ||| ((0 : Int32).toInt64)) + (4294967296 : Int64)) ||| (4294967295 : Int64)).toUInt64 >>> ((32 : Int32) &&& 0x3f).toInt64.toUInt64).toInt64))), .second, .unset, .unset] [(.long qe), (.long ((qe + (1 : Int64)) + (((((((4294967295 : Int64) &&& (-4294967296 : Int64)) ||| ((0 : Int32).toInt64)) + (4294967296 : Int64)) ||| (4294967295 : Int64)).toUInt64 >>> ((32 : Int32) &&& 0x3f).toInt64.toUInt64).toInt64)))]))
      refine Go.step (fun t k => XS.lconst X25.here hx rfl (hb hby at_127) k) ?_
      show Go _ _ _ _ _ _ _ (T25.setTop (mkF m 128 #[.val (.long qe), .second, .val (.long qp), .second, .val (.int di), .val (.long qq), .second, .val (.int fl), .val (.int (0 : Int32)), .val (.int (1 : Int32)), .val (.ref ix), .val (.int (0 : Int32)), .val (.int (1 : Int32)), .val (.long ((qe + (1 : Int64)) + (((((((4294967295 : Int64) &&& (-4294967296 : Int64)) ||| ((0 : Int32).toInt64)) + (4294967296 : Int64)) ||| (4294967295 : Int64)).toUInt64 >>> ((32 : Int32) &&& 0x3f).toInt64.toUInt64).toInt64))), .second, .unset, .unset] [(.long (1 : Int64)), (.long qe), (.long ((qe + (1 : Int64)) + (((((((4294967295 : Int64) &&& (-4294967296 : Int64)) ||| ((0 : Int32).toInt64)) + (4294967296 : Int64)) ||| (4294967295 : Int64)).toUInt64 >>> ((32 : Int32) &&& 0x3f).toInt64.toUInt64).toInt64)))]))
      refine Go.step (fun t k => XS.ladd X25.here hx rfl (hb hby at_128) rfl k) ?_
      show Go _ _ _ _ _ _ _ (T25.setTop (mkF m 129 #[.val (.long qe), .second, .val (.long qp), .second, .val (.int di), .val (.long qq), .second, .val (.int fl), .val (.int (0 : Int32)), .val (.int (1 : Int32)), .val (.ref ix), .val (.int (0 : Int32)), .val (.int (1 : Int32)), .val (.long ((qe + (1 : Int64)) + (((((((4294967295 : Int64) &&& (-4294967296 : Int64)) ||| ((0 : Int32).toInt64)) + (4294967296 : Int64)) ||| (4294967295 : Int64)).toUInt64 >>> ((32 : Int32) &&& 0x3f).toInt64.toUInt64).toInt64))), .second, .unset, .unset] [(.long (qe + (1 : Int64))), (.long ((qe + (1 : Int64)) + (((((((4294967295 : Int64) &&& (-4294967296 : Int64)) ||| ((0 : Int32).toInt64)) + (4294967296 : Int64)) ||| (4294967295 : Int64)).toUInt64 >>> ((32 : Int32) &&& 0x3f).toInt64.toUInt64).toInt64)))]))
      refine Go.step (fun t k => XS.iload X25.here hx rfl (hb hby at_129) rfl k) ?_
      show Go _ _ _ _ _ _ _ (T25.setTop (mkF m 131 #[.val (.long qe), .second, .val (.long qp), .second, .val (.int di), .val (.long qq), .second, .val (.int fl), .val (.int (0 : Int32)), .val (.int (1 : Int32)), .val (.ref ix), .val (.int (0 : Int32)), .val (.int (1 : Int32)), .val (.long ((qe + (1 : Int64)) + (((((((4294967295 : Int64) &&& (-4294967296 : Int64)) ||| ((0 : Int32).toInt64)) + (4294967296 : Int64)) ||| (4294967295 : Int64)).toUInt64 >>> ((32 : Int32) &&& 0x3f).toInt64.toUInt64).toInt64))), .second, .unset, .unset] [(.int (1 : Int32)), (.long (qe + (1 : Int64))), (.long ((qe + (1 : Int64)) + (((((((4294967295 : Int64) &&& (-4294967296 : Int64)) ||| ((0 : Int32).toInt64)) + (4294967296 : Int64)) ||| (4294967295 : Int64)).toUInt64 >>> ((32 : Int32) &&& 0x3f).toInt64.toUInt64).toInt64)))]))
      refine Go.step (fun t k => XS.ifNo X25.here hx rfl (hb hby at_131) rfl ((if0 _ _).trans (feq (by decide : ¬ (1 : Int32) = (0 : Int32))).1) k) ?_
      show Go _ _ _ _ _ _ _ (T25.setTop (mkF m 134 #[.val (.long qe), .second, .val (.long qp), .second, .val (.int di), .val (.long qq), .second, .val (.int fl), .val (.int (0 : Int32)), .val (.int (1 : Int32)), .val (.ref ix), .val (.int (0 : Int32)), .val (.int (1 : Int32)), .val (.long ((qe + (1 : Int64)) + (((((((4294967295 : Int64) &&& (-4294967296 : Int64)) ||| ((0 : Int32).toInt64)) + (4294967296 : Int64)) ||| (4294967295 : Int64)).toUInt64 >>> ((32 : Int32) &&& 0x3f).toInt64.toUInt64).toInt64))), .second, .unset, .unset] [(.long (qe + (1 : Int64))), (.long ((qe + (1 : Int64)) + (((((((4294967295 : Int64) &&& (-4294967296 : Int64)) ||| ((0 : Int32).toInt64)) + (4294967296 : Int64)) ||| (4294967295 : Int64)).toUInt64 >>> ((32 : Int32) &&& 0x3f).toInt64.toUInt64).toInt64)))]))
      refine Go.step (fun t k => XS.lconst X25.here hx rfl (hb hby at_134) k) ?_
      show Go _ _ _ _ _ _ _ (T25.setTop (mkF m 135 #[.val (.long qe), .second, .val (.long qp), .second, .val (.int di), .val (.long qq), .second, .val (.int fl), .val (.int (0 : Int32)), .val (.int (1 : Int32)), .val (.ref ix), .val (.int (0 : Int32)), .val (.int (1 : Int32)), .val (.long ((qe + (1 : Int64)) + (((((((4294967295 : Int64) &&& (-4294967296 : Int64)) ||| ((0 : Int32).toInt64)) + (4294967296 : Int64)) ||| (4294967295 : Int64)).toUInt64 >>> ((32 : Int32) &&& 0x3f).toInt64.toUInt64).toInt64))), .second, .unset, .unset] [(.long (1 : Int64)), (.long (qe + (1 : Int64))), (.long ((qe + (1 : Int64)) + (((((((4294967295 : Int64) &&& (-4294967296 : Int64)) ||| ((0 : Int32).toInt64)) + (4294967296 : Int64)) ||| (4294967295 : Int64)).toUInt64 >>> ((32 : Int32) &&& 0x3f).toInt64.toUInt64).toInt64)))]))
      refine Go.step (fun t k => XS.goto X25.here hx rfl (pc0 := 135) (pc' := 139) rfl (hb hby at_135) (by decide) (by decide) k) ?_
      show Go _ _ _ _ _ _ _ (T25.setTop (mkF m 139 #[.val (.long qe), .second, .val (.long qp), .second, .val (.int di), .val (.long qq), .second, .val (.int fl), .val (.int (0 : Int32)), .val (.int (1 : Int32)), .val (.ref ix), .val (.int (0 : Int32)), .val (.int (1 : Int32)), .val (.long ((qe + (1 : Int64)) + (((((((4294967295 : Int64) &&& (-4294967296 : Int64)) ||| ((0 : Int32).toInt64)) + (4294967296 : Int64)) ||| (4294967295 : Int64)).toUInt64 >>> ((32 : Int32) &&& 0x3f).toInt64.toUInt64).toInt64))), .second, .unset, .unset] [(.long (1 : Int64)), (.long (qe + (1 : Int64))), (.long ((qe + (1 : Int64)) + (((((((4294967295 : Int64) &&& (-4294967296 : Int64)) ||| ((0 : Int32).toInt64)) + (4294967296 : Int64)) ||| (4294967295 : Int64)).toUInt64 >>> ((32 : Int32) &&& 0x3f).toInt64.toUInt64).toInt64)))]))
      refine Go.step (fun t k => XS.ladd X25.here hx rfl (hb hby at_139) rfl k) ?_
      show Go _ _ _ _ _ _ _ (T25.setTop (mkF m 140 #[.val (.long qe), .second, .val (.long qp), .second, .val (.int di), .val (.long qq), .second, .val (.int fl), .val (.int (0 : Int32)), .val (.int (1 : Int32)), .val (.ref ix), .val (.int (0 : Int32)), .val (.int (1 : Int32)), .val (.long ((qe + (1 : Int64)) + (((((((4294967295 : Int64) &&& (-4294967296 : Int64)) ||| ((0 : Int32).toInt64)) + (4294967296 : Int64)) ||| (4294967295 : Int64)).toUInt64 >>> ((32 : Int32) &&& 0x3f).toInt64.toUInt64).toInt64))), .second, .unset, .unset] [(.long ((qe + (1 : Int64)) + (1 : Int64))), (.long ((qe + (1 : Int64)) + (((((((4294967295 : Int64) &&& (-4294967296 : Int64)) ||| ((0 : Int32).toInt64)) + (4294967296 : Int64)) ||| (4294967295 : Int64)).toUInt64 >>> ((32 : Int32) &&& 0x3f).toInt64.toUInt64).toInt64)))]))
      refine Go.step (fun t k => XS.lcmp X25.here hx rfl (hb hby at_140) rfl k) ?_
      show Go _ _ _ _ _ _ _ (T25.setTop (mkF m 141 #[.val (.long qe), .second, .val (.long qp), .second, .val (.int di), .val (.long qq), .second, .val (.int fl), .val (.int (0 : Int32)), .val (.int (1 : Int32)), .val (.ref ix), .val (.int (0 : Int32)), .val (.int (1 : Int32)), .val (.long ((qe + (1 : Int64)) + (((((((4294967295 : Int64) &&& (-4294967296 : Int64)) ||| ((0 : Int32).toInt64)) + (4294967296 : Int64)) ||| (4294967295 : Int64)).toUInt64 >>> ((32 : Int32) &&& 0x3f).toInt64.toUInt64).toInt64))), .second, .unset, .unset] [(.int (lcmpW ((qe + (1 : Int64)) + (((((((4294967295 : Int64) &&& (-4294967296 : Int64)) ||| ((0 : Int32).toInt64)) + (4294967296 : Int64)) ||| (4294967295 : Int64)).toUInt64 >>> ((32 : Int32) &&& 0x3f).toInt64.toUInt64).toInt64)) ((qe + (1 : Int64)) + (1 : Int64))))]))
      refine Go.step (fun t k => XS.ifYes X25.here hx rfl (pc0 := 141) (pc' := 146) rfl (hb hby at_141) rfl ((if0 _ _).trans (teq (own_lweq (own_a1 (by decide +kernel) : ((qe + (1 : Int64)) + (((((((4294967295 : Int64) &&& (-4294967296 : Int64)) ||| ((0 : Int32).toInt64)) + (4294967296 : Int64)) ||| (4294967295 : Int64)).toUInt64 >>> ((32 : Int32) &&& 0x3f).toInt64.toUInt64).toInt64)) = ((qe + (1 : Int64)) + (1 : Int64))))).1) (by decide) (by decide) k) ?_
      show Go _ _ _ _ _ _ _ (T25.setTop (mkF m 146 #[.val (.long qe), .second, .val (.long qp), .second, .val (.int di), .val (.long qq), .second, .val (.int fl), .val (.int (0 : Int32)), .val (.int (1 : Int32)), .val (.ref ix), .val (.int (0 : Int32)), .val (.int (1 : Int32)), .val (.long ((qe + (1 : Int64)) + (((((((4294967295 : Int64) &&& (-4294967296 : Int64)) ||| ((0 : Int32).toInt64)) + (4294967296 : Int64)) ||| (4294967295 : Int64)).toUInt64 >>> ((32 : Int32) &&& 0x3f).toInt64.toUInt64).toInt64))), .second, .unset, .unset] []))
      refine Go.step (fun t k => XS.iload X25.here hx rfl (hb hby at_146) rfl k) ?_
      show Go _ _ _ _ _ _ _ (T25.setTop (mkF m 148 #[.val (.long qe), .second, .val (.long qp), .second, .val (.int di), .val (.long qq), .second, .val (.int fl), .val (.int (0 : Int32)), .val (.int (1 : Int32)), .val (.ref ix), .val (.int (0 : Int32)), .val (.int (1 : Int32)), .val (.long ((qe + (1 : Int64)) + (((((((4294967295 : Int64) &&& (-4294967296 : Int64)) ||| ((0 : Int32).toInt64)) + (4294967296 : Int64)) ||| (4294967295 : Int64)).toUInt64 >>> ((32 : Int32) &&& 0x3f).toInt64.toUInt64).toInt64))), .second, .unset, .unset] [(.int (0 : Int32))]))
      refine Go.step (fun t k => XS.ifYes X25.here hx rfl (pc0 := 148) (pc' := 155) rfl (hb hby at_148) rfl ((if0 _ _).trans (teq (by decide : (0 : Int32) = (0 : Int32))).1) (by decide) (by decide) k) ?_
      show Go _ _ _ _ _ _ _ (T25.setTop (mkF m 155 #[.val (.long qe), .second, .val (.long qp), .second, .val (.int di), .val (.long qq), .second, .val (.int fl), .val (.int (0 : Int32)), .val (.int (1 : Int32)), .val (.ref ix), .val (.int (0 : Int32)), .val (.int (1 : Int32)), .val (.long ((qe + (1 : Int64)) + (((((((4294967295 : Int64) &&& (-4294967296 : Int64)) ||| ((0 : Int32).toInt64)) + (4294967296 : Int64)) ||| (4294967295 : Int64)).toUInt64 >>> ((32 : Int32) &&& 0x3f).toInt64.toUInt64).toInt64))), .second, .unset, .unset] []))
      refine Go.step (fun t k => XS.lconst X25.here hx rfl (hb hby at_155) k) ?_
      show Go _ _ _ _ _ _ _ (T25.setTop (mkF m 156 #[.val (.long qe), .second, .val (.long qp), .second, .val (.int di), .val (.long qq), .second, .val (.int fl), .val (.int (0 : Int32)), .val (.int (1 : Int32)), .val (.ref ix), .val (.int (0 : Int32)), .val (.int (1 : Int32)), .val (.long ((qe + (1 : Int64)) + (((((((4294967295 : Int64) &&& (-4294967296 : Int64)) ||| ((0 : Int32).toInt64)) + (4294967296 : Int64)) ||| (4294967295 : Int64)).toUInt64 >>> ((32 : Int32) &&& 0x3f).toInt64.toUInt64).toInt64))), .second, .unset, .unset] [(.long (0 : Int64))]))
      refine Go.step (fun t k => XS.lstore X25.here hx rfl (hb hby at_156) rfl (l' := #[.val (.long qe), .second, .val (.long qp), .second, .val (.int di), .val (.long qq), .second, .val (.int fl), .val (.int (0 : Int32)), .val (.int (1 : Int32)), .val (.ref ix), .val (.int (0 : Int32)), .val (.int (1 : Int32)), .val (.long ((qe + (1 : Int64)) + (((((((4294967295 : Int64) &&& (-4294967296 : Int64)) ||| ((0 : Int32).toInt64)) + (4294967296 : Int64)) ||| (4294967295 : Int64)).toUInt64 >>> ((32 : Int32) &&& 0x3f).toInt64.toUInt64).toInt64))), .second, .val (.long (0 : Int64)), .second]) rfl k) ?_
      show Go _ _ _ _ _ _ _ (T25.setTop (mkF m 158 #[.val (.long qe), .second, .val (.long qp), .second, .val (.int di), .val (.long qq), .second, .val (.int fl), .val (.int (0 : Int32)), .val (.int (1 : Int32)), .val (.ref ix), .val (.int (0 : Int32)), .val (.int (1 : Int32)), .val (.long ((qe + (1 : Int64)) + (((((((4294967295 : Int64) &&& (-4294967296 : Int64)) ||| ((0 : Int32).toInt64)) + (4294967296 : Int64)) ||| (4294967295 : Int64)).toUInt64 >>> ((32 : Int32) &&& 0x3f).toInt64.toUInt64).toInt64))), .second, .val (.long (0 : Int64)), .second] []))
      refine Go.step (fun t k => XS.aload X25.here hx rfl (hb hby at_158) rfl rfl k) ?_
      show Go _ _ _ _ _ _ _ (T25.setTop (mkF m 160 #[.val (.long qe), .second, .val (.long qp), .second, .val (.int di), .val (.long qq), .second, .val (.int fl), .val (.int (0 : Int32)), .val (.int (1 : Int32)), .val (.ref ix), .val (.int (0 : Int32)), .val (.int (1 : Int32)), .val (.long ((qe + (1 : Int64)) + (((((((4294967295 : Int64) &&& (-4294967296 : Int64)) ||| ((0 : Int32).toInt64)) + (4294967296 : Int64)) ||| (4294967295 : Int64)).toUInt64 >>> ((32 : Int32) &&& 0x3f).toInt64.toUInt64).toInt64))), .second, .val (.long (0 : Int64)), .second] [(.ref ix)]))
      refine Go.step (fun t k => XS.iload X25.here hx rfl (hb hby at_160) rfl k) ?_
      show Go _ _ _ _ _ _ _ (T25.setTop (mkF m 162 #[.val (.long qe), .second, .val (.long qp), .second, .val (.int di), .val (.long qq), .second, .val (.int fl), .val (.int (0 : Int32)), .val (.int (1 : Int32)), .val (.ref ix), .val (.int (0 : Int32)), .val (.int (1 : Int32)), .val (.long ((qe + (1 : Int64)) + (((((((4294967295 : Int64) &&& (-4294967296 : Int64)) ||| ((0 : Int32).toInt64)) + (4294967296 : Int64)) ||| (4294967295 : Int64)).toUInt64 >>> ((32 : Int32) &&& 0x3f).toInt64.toUInt64).toInt64))), .second, .val (.long (0 : Int64)), .second] [(.int (1 : Int32)), (.ref ix)]))
      refine Go.step (fun t k => XS.lload X25.here hx rfl (hb hby at_162) rfl k) ?_
      show Go _ _ _ _ _ _ _ (T25.setTop (mkF m 164 #[.val (.long qe), .second, .val (.long qp), .second, .val (.int di), .val (.long qq), .second, .val (.int fl), .val (.int (0 : Int32)), .val (.int (1 : Int32)), .val (.ref ix), .val (.int (0 : Int32)), .val (.int (1 : Int32)), .val (.long ((qe + (1 : Int64)) + (((((((4294967295 : Int64) &&& (-4294967296 : Int64)) ||| ((0 : Int32).toInt64)) + (4294967296 : Int64)) ||| (4294967295 : Int64)).toUInt64 >>> ((32 : Int32) &&& 0x3f).toInt64.toUInt64).toInt64))), .second, .val (.long (0 : Int64)), .second] [(.long qq), (.int (1 : Int32)), (.ref ix)]))
      obtain ⟨cq26, kq26, q26a, q26b, q26c⟩ := isOf hZ rfl E_ix
      obtain ⟨_, _, ⟨T26, L26, k26, n26⟩, -, X26, ⟨Lc26, hQ26, l26, y26, z26⟩, st26⟩ := X25.virtualBack hx (y := (⟨"com/example/ferrylog/ferrylog/store/LiveIndex", "addRecord", "(IJ)V"⟩ : MethodName)) (z := (⟨"com/example/ferrylog/ferrylog/store/LiveIndex", "addRecord", "(IJ)V"⟩ : MethodName)) hown (mvT hZ (hw _ (List.mem_of_getElem? (i := 33) rfl))) (mvT hZ (hw _ (List.mem_of_getElem? (i := 34) rfl))) (notFace_of_selects (args := #[]) (mvT hZ (hw _ (List.mem_of_getElem? (i := 36) rfl)))) (mvT hZ (hw _ (List.mem_of_getElem? (i := 36) rfl))) (mvT hZ (hw _ (List.mem_of_getElem? (i := 35) rfl))) (by decide) (backOf (W := 0) (rm5_0 l Z a0 hw [] ix (1 : Int32) qq bl br bq bf (2 : Int32) (0 : Int32) qp 1 0 (up (up (up (up (up (up (up (up (up (up (up (up (up (up (fun _ => (0 : Int64)) 0 (0 : Int64)) 1 (-1 : Int64)) 3 (4294967295 : Int64)) 4 (0 : Int64)) 5 (-1 : Int64)) 7 (4294967295 : Int64)) 0 qe) 3 (((4294967295 : Int64) &&& (-4294967296 : Int64)) ||| ((0 : Int32).toInt64))) 0 (qe + (1 : Int64))) 2 (qe + (1 : Int64))) 3 ((((4294967295 : Int64) &&& (-4294967296 : Int64)) ||| ((0 : Int32).toInt64)) + (4294967296 : Int64))) 3 (((((4294967295 : Int64) &&& (-4294967296 : Int64)) ||| ((0 : Int32).toInt64)) + (4294967296 : Int64)) ||| (4294967295 : Int64))) 7 ((4294967295 : Int64) ||| (4294967295 : Int64))) 3 ((((((4294967295 : Int64) &&& (-4294967296 : Int64)) ||| ((0 : Int32).toInt64)) + (4294967296 : Int64)) ||| (4294967295 : Int64)) + (4294967296 : Int64))) (up (up (up (fun _ => (0 : Int32)) 0 ((qp - qp).toInt32)) 1 ((0 : Int32) ||| (-2147483648 : Int32))) 2 ((4294967295 : Int64).toInt32)) (up (fun _ => (0 : Int32)) 0 (0 : Int32)) (up (fun _ => (0 : Int64)) 0 qe) T25.heap n0 Z25 F_lines_ix F_records_ix F_runRecords_ix F_runFirsts_ix F_topics_ix F_recordCount_ix F_runCount_ix F_origin_ix E_ix g_ix o17_g_bl o17_g_br o17_g_bq o17_g_bf o17_ne_bl_br o17_ne_bl_bq o17_ne_bl_bf o17_ne_br_bq o17_ne_br_bf o17_ne_bq_bf A_bl A_br A_bq A_bf rfl (by decide) rfl (by decide) (show (((4294967295 : Int64) ||| (4294967295 : Int64)).toInt32) < (0 : Int32) by decide +kernel) (own_pp qq)) hZ (hw _ (List.mem_of_getElem? (i := 37) rfl)) (hw _ (List.mem_of_getElem? (i := 2) rfl)) (by decide) (by decide)) q26a q26c (g := (mkF m 164 #[.val (.long qe), .second, .val (.long qp), .second, .val (.int di), .val (.long qq), .second, .val (.int fl), .val (.int (0 : Int32)), .val (.int (1 : Int32)), .val (.ref ix), .val (.int (0 : Int32)), .val (.int (1 : Int32)), .val (.long ((qe + (1 : Int64)) + (((((((4294967295 : Int64) &&& (-4294967296 : Int64)) ||| ((0 : Int32).toInt64)) + (4294967296 : Int64)) ||| (4294967295 : Int64)).toUInt64 >>> ((32 : Int32) &&& 0x3f).toInt64.toUInt64).toInt64))), .second, .val (.long (0 : Int64)), .second] [(.long qq), (.int (1 : Int32)), (.ref ix)])) rfl (by rw [hml]; rfl) (Steps.refl _) (argsL := [(.int (1 : Int32)), (.long qq)]) (rest := []) (lenOf pd_0_2 rfl) rfl (by show 2 * 0 + _ ≤ _; exact Nat.le_of_eq rfl) (hb hby at_164) (fun _ _ => ⟨rfl, rfl, (by decide : 5 + 0 ≤ _), (by decide : 3272 + 0 ≤ _)⟩)
      dsimp only [Pt.U, Pt.locs, Pt.cells, Pt.slots] at X26 l26 y26 z26 st26 hQ26
      subst l26 y26 z26
      obtain ⟨rfl, N26q, K26q, o26_F_lines_ix, o26_F_records_ix, o26_F_runRecords_ix, o26_F_runFirsts_ix, o26_F_topics_ix, o26_F_recordCount_ix, o26_F_runCount_ix, o26_F_origin_ix, o26_A_bl, o26_A_br, o26_A_bq, o26_A_bf⟩ := hQ26
      have N26 := Fr.app N25 N26q
      replace E_ix := E_ix.keep K26q
      have Z26 := Nat.le_trans Z25 K26q.1
      have F_lines_ix := o26_F_lines_ix
      have F_records_ix := o26_F_records_ix
      have F_runRecords_ix := o26_F_runRecords_ix
      have F_runFirsts_ix := o26_F_runFirsts_ix
      have F_topics_ix := o26_F_topics_ix
      have F_recordCount_ix := o26_F_recordCount_ix
      have F_runCount_ix := o26_F_runCount_ix
      have F_origin_ix := o26_F_origin_ix
      have A_bl := o26_A_bl
      have A_br := o26_A_br
      have A_bq := o26_A_bq
      have A_bf := o26_A_bf
      refine Go.step (fun t k => st26.trans k) ?_
      show Go _ _ _ _ _ _ _ (T26.setTop (mkF m 167 #[.val (.long qe), .second, .val (.long qp), .second, .val (.int di), .val (.long qq), .second, .val (.int fl), .val (.int (0 : Int32)), .val (.int (1 : Int32)), .val (.ref ix), .val (.int (0 : Int32)), .val (.int (1 : Int32)), .val (.long ((qe + (1 : Int64)) + (((((((4294967295 : Int64) &&& (-4294967296 : Int64)) ||| ((0 : Int32).toInt64)) + (4294967296 : Int64)) ||| (4294967295 : Int64)).toUInt64 >>> ((32 : Int32) &&& 0x3f).toInt64.toUInt64).toInt64))), .second, .val (.long (0 : Int64)), .second] []))
      refine Go.step (fun t k => XS.aload X26.here hx rfl (hb hby at_167) rfl rfl k) ?_
      show Go _ _ _ _ _ _ _ (T26.setTop (mkF m 169 #[.val (.long qe), .second, .val (.long qp), .second, .val (.int di), .val (.long qq), .second, .val (.int fl), .val (.int (0 : Int32)), .val (.int (1 : Int32)), .val (.ref ix), .val (.int (0 : Int32)), .val (.int (1 : Int32)), .val (.long ((qe + (1 : Int64)) + (((((((4294967295 : Int64) &&& (-4294967296 : Int64)) ||| ((0 : Int32).toInt64)) + (4294967296 : Int64)) ||| (4294967295 : Int64)).toUInt64 >>> ((32 : Int32) &&& 0x3f).toInt64.toUInt64).toInt64))), .second, .val (.long (0 : Int64)), .second] [(.ref ix)]))
      refine Go.step (fun t k => XS.iload X26.here hx rfl (hb hby at_169) rfl k) ?_
      show Go _ _ _ _ _ _ _ (T26.setTop (mkF m 171 #[.val (.long qe), .second, .val (.long qp), .second, .val (.int di), .val (.long qq), .second, .val (.int fl), .val (.int (0 : Int32)), .val (.int (1 : Int32)), .val (.ref ix), .val (.int (0 : Int32)), .val (.int (1 : Int32)), .val (.long ((qe + (1 : Int64)) + (((((((4294967295 : Int64) &&& (-4294967296 : Int64)) ||| ((0 : Int32).toInt64)) + (4294967296 : Int64)) ||| (4294967295 : Int64)).toUInt64 >>> ((32 : Int32) &&& 0x3f).toInt64.toUInt64).toInt64))), .second, .val (.long (0 : Int64)), .second] [(.int (1 : Int32)), (.ref ix)]))
      obtain ⟨cq27, kq27, q27a, q27b, q27c⟩ := isOf hZ rfl E_ix
      obtain ⟨_, _, ⟨T27, L27, k27, n27⟩, -, X27, ⟨Lc27, hQ27, l27, y27, z27⟩, st27⟩ := X26.virtualBack hx (y := (⟨"com/example/ferrylog/ferrylog/store/LiveIndex", "last", "(I)I"⟩ : MethodName)) (z := (⟨"com/example/ferrylog/ferrylog/store/LiveIndex", "last", "(I)I"⟩ : MethodName)) hown (mvT hZ (hw _ (List.mem_of_getElem? (i := 65) rfl))) (mvT hZ (hw _ (List.mem_of_getElem? (i := 66) rfl))) (notFace_of_selects (args := #[]) (mvT hZ (hw _ (List.mem_of_getElem? (i := 68) rfl)))) (mvT hZ (hw _ (List.mem_of_getElem? (i := 68) rfl))) (mvT hZ (hw _ (List.mem_of_getElem? (i := 67) rfl))) (by decide) (backOf (W := 0) (rm10 l Z a0 hw [] ix (1 : Int32) bl (up (up (up (up (up (up (up (up (up (up (up (up (up (up (up (up (up (fun _ => (0 : Int64)) 0 (0 : Int64)) 1 (-1 : Int64)) 3 (4294967295 : Int64)) 4 (0 : Int64)) 5 (-1 : Int64)) 7 (4294967295 : Int64)) 0 qe) 3 (((4294967295 : Int64) &&& (-4294967296 : Int64)) ||| ((0 : Int32).toInt64))) 0 (qe + (1 : Int64))) 2 (qe + (1 : Int64))) 3 ((((4294967295 : Int64) &&& (-4294967296 : Int64)) ||| ((0 : Int32).toInt64)) + (4294967296 : Int64))) 3 (((((4294967295 : Int64) &&& (-4294967296 : Int64)) ||| ((0 : Int32).toInt64)) + (4294967296 : Int64)) ||| (4294967295 : Int64))) 7 ((4294967295 : Int64) ||| (4294967295 : Int64))) 3 ((((((4294967295 : Int64) &&& (-4294967296 : Int64)) ||| ((0 : Int32).toInt64)) + (4294967296 : Int64)) ||| (4294967295 : Int64)) + (4294967296 : Int64))) 7 ((((4294967295 : Int64) ||| (4294967295 : Int64)) &&& (-4294967296 : Int64)) ||| ((0 : Int32).toInt64))) 4 ((0 : Int64) + (1 : Int64))) 6 ((0 : Int64) + (1 : Int64))) 1 T26.heap n0 Z26 F_lines_ix A_bl ne_ix_bl rfl (by decide)) hZ (hw _ (List.mem_of_getElem? (i := 69) rfl)) (hw _ (List.mem_of_getElem? (i := 2) rfl)) (by decide) (by decide)) q27a q27c (g := (mkF m 171 #[.val (.long qe), .second, .val (.long qp), .second, .val (.int di), .val (.long qq), .second, .val (.int fl), .val (.int (0 : Int32)), .val (.int (1 : Int32)), .val (.ref ix), .val (.int (0 : Int32)), .val (.int (1 : Int32)), .val (.long ((qe + (1 : Int64)) + (((((((4294967295 : Int64) &&& (-4294967296 : Int64)) ||| ((0 : Int32).toInt64)) + (4294967296 : Int64)) ||| (4294967295 : Int64)).toUInt64 >>> ((32 : Int32) &&& 0x3f).toInt64.toUInt64).toInt64))), .second, .val (.long (0 : Int64)), .second] [(.int (1 : Int32)), (.ref ix)])) rfl (by rw [hml]; rfl) (Steps.refl _) (argsL := [(.int (1 : Int32))]) (rest := []) (lenOf pd_0_3 rfl) rfl (by show 2 * 0 + _ ≤ _; exact Nat.le_of_eq rfl) (hb hby at_171) (fun _ _ => ⟨rfl, rfl, (by decide : 5 + 0 ≤ _), (by decide : 3272 + 0 ≤ _)⟩)
      dsimp only [Pt.U, Pt.locs, Pt.cells, Pt.slots] at X27 l27 y27 z27 st27 hQ27
      subst l27 y27 z27
      obtain ⟨rfl, N27q, K27q⟩ := hQ27
      have N27 := Fr.app N26 N27q
      refine Go.step (fun t k => st27.trans k) ?_
      show Go _ _ _ _ _ _ _ (T27.setTop (mkF m 174 #[.val (.long qe), .second, .val (.long qp), .second, .val (.int di), .val (.long qq), .second, .val (.int fl), .val (.int (0 : Int32)), .val (.int (1 : Int32)), .val (.ref ix), .val (.int (0 : Int32)), .val (.int (1 : Int32)), .val (.long ((qe + (1 : Int64)) + (((((((4294967295 : Int64) &&& (-4294967296 : Int64)) ||| ((0 : Int32).toInt64)) + (4294967296 : Int64)) ||| (4294967295 : Int64)).toUInt64 >>> ((32 : Int32) &&& 0x3f).toInt64.toUInt64).toInt64))), .second, .val (.long (0 : Int64)), .second] [(.int (((((4294967295 : Int64) ||| (4294967295 : Int64)) &&& (-4294967296 : Int64)) ||| ((0 : Int32).toInt64)).toInt32))]))
      refine Go.step (fun t k => XS.ifYes X27.here hx rfl (pc0 := 174) (pc' := 179) rfl (hb hby at_174) rfl ((if0 _ _).trans (teq ((by decide +kernel) : (((((4294967295 : Int64) ||| (4294967295 : Int64)) &&& (-4294967296 : Int64)) ||| ((0 : Int32).toInt64)).toInt32) = (0 : Int32))).1) (by decide) (by decide) k) ?_
      show Go _ _ _ _ _ _ _ (T27.setTop (mkF m 179 #[.val (.long qe), .second, .val (.long qp), .second, .val (.int di), .val (.long qq), .second, .val (.int fl), .val (.int (0 : Int32)), .val (.int (1 : Int32)), .val (.ref ix), .val (.int (0 : Int32)), .val (.int (1 : Int32)), .val (.long ((qe + (1 : Int64)) + (((((((4294967295 : Int64) &&& (-4294967296 : Int64)) ||| ((0 : Int32).toInt64)) + (4294967296 : Int64)) ||| (4294967295 : Int64)).toUInt64 >>> ((32 : Int32) &&& 0x3f).toInt64.toUInt64).toInt64))), .second, .val (.long (0 : Int64)), .second] []))
      refine Go.step (fun t k => XS.aload X27.here hx rfl (hb hby at_179) rfl rfl k) ?_
      show Go _ _ _ _ _ _ _ (T27.setTop (mkF m 181 #[.val (.long qe), .second, .val (.long qp), .second, .val (.int di), .val (.long qq), .second, .val (.int fl), .val (.int (0 : Int32)), .val (.int (1 : Int32)), .val (.ref ix), .val (.int (0 : Int32)), .val (.int (1 : Int32)), .val (.long ((qe + (1 : Int64)) + (((((((4294967295 : Int64) &&& (-4294967296 : Int64)) ||| ((0 : Int32).toInt64)) + (4294967296 : Int64)) ||| (4294967295 : Int64)).toUInt64 >>> ((32 : Int32) &&& 0x3f).toInt64.toUInt64).toInt64))), .second, .val (.long (0 : Int64)), .second] [(.ref ix)]))
      refine Go.step (fun t k => XS.iconst X27.here hx rfl (hb hby at_181) k) ?_
      show Go _ _ _ _ _ _ _ (T27.setTop (mkF m 182 #[.val (.long qe), .second, .val (.long qp), .second, .val (.int di), .val (.long qq), .second, .val (.int fl), .val (.int (0 : Int32)), .val (.int (1 : Int32)), .val (.ref ix), .val (.int (0 : Int32)), .val (.int (1 : Int32)), .val (.long ((qe + (1 : Int64)) + (((((((4294967295 : Int64) &&& (-4294967296 : Int64)) ||| ((0 : Int32).toInt64)) + (4294967296 : Int64)) ||| (4294967295 : Int64)).toUInt64 >>> ((32 : Int32) &&& 0x3f).toInt64.toUInt64).toInt64))), .second, .val (.long (0 : Int64)), .second] [(.int (0 : Int32)), (.ref ix)]))
      obtain ⟨cq28, kq28, q28a, q28b, q28c⟩ := isOf hZ K27q E_ix
      obtain ⟨_, _, ⟨T28, L28, k28, n28⟩, -, X28, ⟨Lc28, hQ28, l28, y28, z28⟩, st28⟩ := X27.virtualBack hx (y := (⟨"com/example/ferrylog/ferrylog/store/LiveIndex", "before", "(I)I"⟩ : MethodName)) (z := (⟨"com/example/ferrylog/ferrylog/store/LiveIndex", "before", "(I)I"⟩ : MethodName)) hown (mvT hZ (hw _ (List.mem_of_getElem? (i := 70) rfl))) (mvT hZ (hw _ (List.mem_of_getElem? (i := 71) rfl))) (notFace_of_selects (args := #[]) (mvT hZ (hw _ (List.mem_of_getElem? (i := 73) rfl)))) (mvT hZ (hw _ (List.mem_of_getElem? (i := 73) rfl))) (mvT hZ (hw _ (List.mem_of_getElem? (i := 72) rfl))) (by decide) (backOf (W := 0) (rm11 l Z a0 hw [] ix br (up (up (up (up (up (up (fun _ => (0 : Int32)) 0 ((qp - qp).toInt32)) 1 ((0 : Int32) ||| (-2147483648 : Int32))) 2 ((4294967295 : Int64).toInt32)) 0 ((qq - qq).toInt32)) 1 ((1 : Int32) ||| (-2147483648 : Int32))) 2 (((4294967295 : Int64) ||| (4294967295 : Int64)).toInt32)) T26.heap n0 Z26 F_records_ix A_br) hZ (hw _ (List.mem_of_getElem? (i := 74) rfl)) (hw _ (List.mem_of_getElem? (i := 2) rfl)) (by decide) (by decide)) q28a q28c (g := (mkF m 182 #[.val (.long qe), .second, .val (.long qp), .second, .val (.int di), .val (.long qq), .second, .val (.int fl), .val (.int (0 : Int32)), .val (.int (1 : Int32)), .val (.ref ix), .val (.int (0 : Int32)), .val (.int (1 : Int32)), .val (.long ((qe + (1 : Int64)) + (((((((4294967295 : Int64) &&& (-4294967296 : Int64)) ||| ((0 : Int32).toInt64)) + (4294967296 : Int64)) ||| (4294967295 : Int64)).toUInt64 >>> ((32 : Int32) &&& 0x3f).toInt64.toUInt64).toInt64))), .second, .val (.long (0 : Int64)), .second] [(.int (0 : Int32)), (.ref ix)])) rfl (by rw [hml]; rfl) (Steps.refl _) (argsL := [(.int (0 : Int32))]) (rest := []) (lenOf pd_0_3 rfl) rfl (by show 2 * 0 + _ ≤ _; exact Nat.le_of_eq rfl) (hb hby at_182) (fun _ _ => ⟨rfl, K27q, (by decide : 5 + 0 ≤ _), (by decide : 3272 + 0 ≤ _)⟩)
      dsimp only [Pt.U, Pt.locs, Pt.cells, Pt.slots] at X28 l28 y28 z28 st28 hQ28
      subst l28 y28 z28
      obtain ⟨rfl, N28q, K28q⟩ := hQ28
      have N28 := Fr.app N27 N28q
      refine Go.step (fun t k => st28.trans k) ?_
      show Go _ _ _ _ _ _ _ (T28.setTop (mkF m 185 #[.val (.long qe), .second, .val (.long qp), .second, .val (.int di), .val (.long qq), .second, .val (.int fl), .val (.int (0 : Int32)), .val (.int (1 : Int32)), .val (.ref ix), .val (.int (0 : Int32)), .val (.int (1 : Int32)), .val (.long ((qe + (1 : Int64)) + (((((((4294967295 : Int64) &&& (-4294967296 : Int64)) ||| ((0 : Int32).toInt64)) + (4294967296 : Int64)) ||| (4294967295 : Int64)).toUInt64 >>> ((32 : Int32) &&& 0x3f).toInt64.toUInt64).toInt64))), .second, .val (.long (0 : Int64)), .second] [(.int (((4294967295 : Int64) ||| (4294967295 : Int64)).toInt32))]))
      refine Go.step (fun t k => XS.iconst X28.here hx rfl (hb hby at_185) k) ?_
      show Go _ _ _ _ _ _ _ (T28.setTop (mkF m 186 #[.val (.long qe), .second, .val (.long qp), .second, .val (.int di), .val (.long qq), .second, .val (.int fl), .val (.int (0 : Int32)), .val (.int (1 : Int32)), .val (.ref ix), .val (.int (0 : Int32)), .val (.int (1 : Int32)), .val (.long ((qe + (1 : Int64)) + (((((((4294967295 : Int64) &&& (-4294967296 : Int64)) ||| ((0 : Int32).toInt64)) + (4294967296 : Int64)) ||| (4294967295 : Int64)).toUInt64 >>> ((32 : Int32) &&& 0x3f).toInt64.toUInt64).toInt64))), .second, .val (.long (0 : Int64)), .second] [(.int (-1 : Int32)), (.int (((4294967295 : Int64) ||| (4294967295 : Int64)).toInt32))]))
      refine Go.step (fun t k => XS.icmpYes X28.here hx rfl (pc0 := 186) (pc' := 191) rfl (hb hby at_186) rfl (teq ((by decide +kernel) : (((4294967295 : Int64) ||| (4294967295 : Int64)).toInt32) = (-1 : Int32))).1 (by decide) (by decide) k) ?_
      show Go _ _ _ _ _ _ _ (T28.setTop (mkF m 191 #[.val (.long qe), .second, .val (.long qp), .second, .val (.int di), .val (.long qq), .second, .val (.int fl), .val (.int (0 : Int32)), .val (.int (1 : Int32)), .val (.ref ix), .val (.int (0 : Int32)), .val (.int (1 : Int32)), .val (.long ((qe + (1 : Int64)) + (((((((4294967295 : Int64) &&& (-4294967296 : Int64)) ||| ((0 : Int32).toInt64)) + (4294967296 : Int64)) ||| (4294967295 : Int64)).toUInt64 >>> ((32 : Int32) &&& 0x3f).toInt64.toUInt64).toInt64))), .second, .val (.long (0 : Int64)), .second] []))
      refine Go.step (fun t k => XS.aload X28.here hx rfl (hb hby at_191) rfl rfl k) ?_
      show Go _ _ _ _ _ _ _ (T28.setTop (mkF m 193 #[.val (.long qe), .second, .val (.long qp), .second, .val (.int di), .val (.long qq), .second, .val (.int fl), .val (.int (0 : Int32)), .val (.int (1 : Int32)), .val (.ref ix), .val (.int (0 : Int32)), .val (.int (1 : Int32)), .val (.long ((qe + (1 : Int64)) + (((((((4294967295 : Int64) &&& (-4294967296 : Int64)) ||| ((0 : Int32).toInt64)) + (4294967296 : Int64)) ||| (4294967295 : Int64)).toUInt64 >>> ((32 : Int32) &&& 0x3f).toInt64.toUInt64).toInt64))), .second, .val (.long (0 : Int64)), .second] [(.ref ix)]))
      refine Go.step (fun t k => XS.iconst X28.here hx rfl (hb hby at_193) k) ?_
      show Go _ _ _ _ _ _ _ (T28.setTop (mkF m 194 #[.val (.long qe), .second, .val (.long qp), .second, .val (.int di), .val (.long qq), .second, .val (.int fl), .val (.int (0 : Int32)), .val (.int (1 : Int32)), .val (.ref ix), .val (.int (0 : Int32)), .val (.int (1 : Int32)), .val (.long ((qe + (1 : Int64)) + (((((((4294967295 : Int64) &&& (-4294967296 : Int64)) ||| ((0 : Int32).toInt64)) + (4294967296 : Int64)) ||| (4294967295 : Int64)).toUInt64 >>> ((32 : Int32) &&& 0x3f).toInt64.toUInt64).toInt64))), .second, .val (.long (0 : Int64)), .second] [(.int (0 : Int32)), (.ref ix)]))
      obtain ⟨cq29, kq29, q29a, q29b, q29c⟩ := isOf hZ K28q E_ix
      obtain ⟨_, _, ⟨T29, L29, k29, n29⟩, -, X29, ⟨Lc29, hQ29, l29, y29, z29⟩, st29⟩ := X28.virtualBack hx (y := (⟨"com/example/ferrylog/ferrylog/store/LiveIndex", "runFirst", "(I)J"⟩ : MethodName)) (z := (⟨"com/example/ferrylog/ferrylog/store/LiveIndex", "runFirst", "(I)J"⟩ : MethodName)) hown (mvT hZ (hw _ (List.mem_of_getElem? (i := 75) rfl))) (mvT hZ (hw _ (List.mem_of_getElem? (i := 76) rfl))) (notFace_of_selects (args := #[]) (mvT hZ (hw _ (List.mem_of_getElem? (i := 78) rfl)))) (mvT hZ (hw _ (List.mem_of_getElem? (i := 78) rfl))) (mvT hZ (hw _ (List.mem_of_getElem? (i := 77) rfl))) (by decide) (backOf (W := 0) (rm12 l Z a0 hw [] ix bq bf (up (up (fun _ => (0 : Int32)) 0 (0 : Int32)) 0 (0 : Int32)) (up (up (fun _ => (0 : Int64)) 0 qe) 0 (0 : Int64)) T26.heap n0 Z26 F_runFirsts_ix F_runRecords_ix F_runCount_ix A_bq A_bf rfl) hZ (hw _ (List.mem_of_getElem? (i := 79) rfl)) (hw _ (List.mem_of_getElem? (i := 2) rfl)) (by decide) (by decide)) q29a q29c (g := (mkF m 194 #[.val (.long qe), .second, .val (.long qp), .second, .val (.int di), .val (.long qq), .second, .val (.int fl), .val (.int (0 : Int32)), .val (.int (1 : Int32)), .val (.ref ix), .val (.int (0 : Int32)), .val (.int (1 : Int32)), .val (.long ((qe + (1 : Int64)) + (((((((4294967295 : Int64) &&& (-4294967296 : Int64)) ||| ((0 : Int32).toInt64)) + (4294967296 : Int64)) ||| (4294967295 : Int64)).toUInt64 >>> ((32 : Int32) &&& 0x3f).toInt64.toUInt64).toInt64))), .second, .val (.long (0 : Int64)), .second] [(.int (0 : Int32)), (.ref ix)])) rfl (by rw [hml]; rfl) (Steps.refl _) (argsL := [(.int (0 : Int32))]) (rest := []) (lenOf pd_0_4 rfl) rfl (by show 2 * 0 + _ ≤ _; exact Nat.le_of_eq rfl) (hb hby at_194) (fun _ _ => ⟨rfl, K28q, (by decide : 5 + 0 ≤ _), (by decide : 3272 + 0 ≤ _)⟩)
      dsimp only [Pt.U, Pt.locs, Pt.cells, Pt.slots] at X29 l29 y29 z29 st29 hQ29
      subst l29 y29 z29
      obtain ⟨rfl, N29q, K29q⟩ := hQ29
      have N29 := Fr.app N28 N29q
      refine Go.step (fun t k => st29.trans k) ?_
      show Go _ _ _ _ _ _ _ (T29.setTop (mkF m 197 #[.val (.long qe), .second, .val (.long qp), .second, .val (.int di), .val (.long qq), .second, .val (.int fl), .val (.int (0 : Int32)), .val (.int (1 : Int32)), .val (.ref ix), .val (.int (0 : Int32)), .val (.int (1 : Int32)), .val (.long ((qe + (1 : Int64)) + (((((((4294967295 : Int64) &&& (-4294967296 : Int64)) ||| ((0 : Int32).toInt64)) + (4294967296 : Int64)) ||| (4294967295 : Int64)).toUInt64 >>> ((32 : Int32) &&& 0x3f).toInt64.toUInt64).toInt64))), .second, .val (.long (0 : Int64)), .second] [(.long (0 : Int64))]))
      refine Go.step (fun t k => XS.lload X29.here hx rfl (hb hby at_197) rfl k) ?_
      show Go _ _ _ _ _ _ _ (T29.setTop (mkF m 199 #[.val (.long qe), .second, .val (.long qp), .second, .val (.int di), .val (.long qq), .second, .val (.int fl), .val (.int (0 : Int32)), .val (.int (1 : Int32)), .val (.ref ix), .val (.int (0 : Int32)), .val (.int (1 : Int32)), .val (.long ((qe + (1 : Int64)) + (((((((4294967295 : Int64) &&& (-4294967296 : Int64)) ||| ((0 : Int32).toInt64)) + (4294967296 : Int64)) ||| (4294967295 : Int64)).toUInt64 >>> ((32 : Int32) &&& 0x3f).toInt64.toUInt64).toInt64))), .second, .val (.long (0 : Int64)), .second] [(.long (0 : Int64)), (.long (0 : Int64))]))
      refine Go.step (fun t k => XS.lcmp X29.here hx rfl (hb hby at_199) rfl k) ?_
      show Go _ _ _ _ _ _ _ (T29.setTop (mkF m 200 #[.val (.long qe), .second, .val (.long qp), .second, .val (.int di), .val (.long qq), .second, .val (.int fl), .val (.int (0 : Int32)), .val (.int (1 : Int32)), .val (.ref ix), .val (.int (0 : Int32)), .val (.int (1 : Int32)), .val (.long ((qe + (1 : Int64)) + (((((((4294967295 : Int64) &&& (-4294967296 : Int64)) ||| ((0 : Int32).toInt64)) + (4294967296 : Int64)) ||| (4294967295 : Int64)).toUInt64 >>> ((32 : Int32) &&& 0x3f).toInt64.toUInt64).toInt64))), .second, .val (.long (0 : Int64)), .second] [(.int (lcmpW (0 : Int64) (0 : Int64)))]))
      refine Go.step (fun t k => XS.ifNo X29.here hx rfl (hb hby at_200) rfl ((if0 _ _).trans (teq (own_lweq ((by decide +kernel) : (0 : Int64) = (0 : Int64)))).2) k) ?_
      show Go _ _ _ _ _ _ _ (T29.setTop (mkF m 203 #[.val (.long qe), .second, .val (.long qp), .second, .val (.int di), .val (.long qq), .second, .val (.int fl), .val (.int (0 : Int32)), .val (.int (1 : Int32)), .val (.ref ix), .val (.int (0 : Int32)), .val (.int (1 : Int32)), .val (.long ((qe + (1 : Int64)) + (((((((4294967295 : Int64) &&& (-4294967296 : Int64)) ||| ((0 : Int32).toInt64)) + (4294967296 : Int64)) ||| (4294967295 : Int64)).toUInt64 >>> ((32 : Int32) &&& 0x3f).toInt64.toUInt64).toInt64))), .second, .val (.long (0 : Int64)), .second] []))
      refine Go.step (fun t k => XS.iconst X29.here hx rfl (hb hby at_203) k) ?_
      show Go _ _ _ _ _ _ _ (T29.setTop (mkF m 204 #[.val (.long qe), .second, .val (.long qp), .second, .val (.int di), .val (.long qq), .second, .val (.int fl), .val (.int (0 : Int32)), .val (.int (1 : Int32)), .val (.ref ix), .val (.int (0 : Int32)), .val (.int (1 : Int32)), .val (.long ((qe + (1 : Int64)) + (((((((4294967295 : Int64) &&& (-4294967296 : Int64)) ||| ((0 : Int32).toInt64)) + (4294967296 : Int64)) ||| (4294967295 : Int64)).toUInt64 >>> ((32 : Int32) &&& 0x3f).toInt64.toUInt64).toInt64))), .second, .val (.long (0 : Int64)), .second] [(.int (1 : Int32))]))
      refine Go.step (fun t k => XS.goto X29.here hx rfl (pc0 := 204) (pc' := 208) rfl (hb hby at_204) (by decide) (by decide) k) ?_
      show Go _ _ _ _ _ _ _ (T29.setTop (mkF m 208 #[.val (.long qe), .second, .val (.long qp), .second, .val (.int di), .val (.long qq), .second, .val (.int fl), .val (.int (0 : Int32)), .val (.int (1 : Int32)), .val (.ref ix), .val (.int (0 : Int32)), .val (.int (1 : Int32)), .val (.long ((qe + (1 : Int64)) + (((((((4294967295 : Int64) &&& (-4294967296 : Int64)) ||| ((0 : Int32).toInt64)) + (4294967296 : Int64)) ||| (4294967295 : Int64)).toUInt64 >>> ((32 : Int32) &&& 0x3f).toInt64.toUInt64).toInt64))), .second, .val (.long (0 : Int64)), .second] [(.int (1 : Int32))]))
      refine Go.retN X29 Bd.notSynchronized hx (t := .boolean) Bd.returns (by simp) (hb hby at_208) (by decide) (by decide) (1 : Int32) rfl ?_
      rw [K29q]
      exact ⟨rfl, N29⟩
  · refine Go.step (fun t k => XS.ifNo X0.here hx rfl (hb hby at_4) rfl ((if0 _ _).trans (feq hc4_1).1) k) ?_
    show Go _ _ _ _ _ _ _ (s₁.setTop (mkF m 7 #[.val (.long qe), .second, .val (.long qp), .second, .val (.int di), .val (.long qq), .second, .val (.int fl), .unset, .unset, .unset, .unset, .unset, .unset, .unset, .unset, .unset] []))
    refine Go.step (fun t k => XS.iconst X0.here hx rfl (hb hby at_7) k) ?_
    show Go _ _ _ _ _ _ _ (s₁.setTop (mkF m 8 #[.val (.long qe), .second, .val (.long qp), .second, .val (.int di), .val (.long qq), .second, .val (.int fl), .unset, .unset, .unset, .unset, .unset, .unset, .unset, .unset, .unset] [(.int (1 : Int32))]))
    refine Go.step (fun t k => XS.goto X0.here hx rfl (pc0 := 8) (pc' := 12) rfl (hb hby at_8) (by decide) (by decide) k) ?_
    show Go _ _ _ _ _ _ _ (s₁.setTop (mkF m 12 #[.val (.long qe), .second, .val (.long qp), .second, .val (.int di), .val (.long qq), .second, .val (.int fl), .unset, .unset, .unset, .unset, .unset, .unset, .unset, .unset, .unset] [(.int (1 : Int32))]))
    refine Go.step (fun t k => XS.istore X0.here hx rfl (hb hby at_12) rfl (l' := #[.val (.long qe), .second, .val (.long qp), .second, .val (.int di), .val (.long qq), .second, .val (.int fl), .val (.int (1 : Int32)), .unset, .unset, .unset, .unset, .unset, .unset, .unset, .unset]) rfl k) ?_
    show Go _ _ _ _ _ _ _ (s₁.setTop (mkF m 14 #[.val (.long qe), .second, .val (.long qp), .second, .val (.int di), .val (.long qq), .second, .val (.int fl), .val (.int (1 : Int32)), .unset, .unset, .unset, .unset, .unset, .unset, .unset, .unset] []))
    refine Go.step (fun t k => XS.iload X0.here hx rfl (hb hby at_14) rfl k) ?_
    show Go _ _ _ _ _ _ _ (s₁.setTop (mkF m 16 #[.val (.long qe), .second, .val (.long qp), .second, .val (.int di), .val (.long qq), .second, .val (.int fl), .val (.int (1 : Int32)), .unset, .unset, .unset, .unset, .unset, .unset, .unset, .unset] [(.int fl)]))
    refine Go.step (fun t k => XS.iconst X0.here hx rfl (hb hby at_16) k) ?_
    show Go _ _ _ _ _ _ _ (s₁.setTop (mkF m 17 #[.val (.long qe), .second, .val (.long qp), .second, .val (.int di), .val (.long qq), .second, .val (.int fl), .val (.int (1 : Int32)), .unset, .unset, .unset, .unset, .unset, .unset, .unset, .unset] [(.int (2 : Int32)), (.int fl)]))
    refine Go.step (fun t k => XS.iand X0.here hx rfl (hb hby at_17) rfl k) ?_
    show Go _ _ _ _ _ _ _ (s₁.setTop (mkF m 18 #[.val (.long qe), .second, .val (.long qp), .second, .val (.int di), .val (.long qq), .second, .val (.int fl), .val (.int (1 : Int32)), .unset, .unset, .unset, .unset, .unset, .unset, .unset, .unset] [(.int (fl &&& (2 : Int32)))]))
    by_cases hc18_30 : (fl &&& (2 : Int32)) = (0 : Int32)
    · refine Go.step (fun t k => XS.ifYes X0.here hx rfl (pc0 := 18) (pc' := 25) rfl (hb hby at_18) rfl ((if0 _ _).trans (teq hc18_30).1) (by decide) (by decide) k) ?_
      show Go _ _ _ _ _ _ _ (s₁.setTop (mkF m 25 #[.val (.long qe), .second, .val (.long qp), .second, .val (.int di), .val (.long qq), .second, .val (.int fl), .val (.int (1 : Int32)), .unset, .unset, .unset, .unset, .unset, .unset, .unset, .unset] []))
      refine Go.step (fun t k => XS.iconst X0.here hx rfl (hb hby at_25) k) ?_
      show Go _ _ _ _ _ _ _ (s₁.setTop (mkF m 26 #[.val (.long qe), .second, .val (.long qp), .second, .val (.int di), .val (.long qq), .second, .val (.int fl), .val (.int (1 : Int32)), .unset, .unset, .unset, .unset, .unset, .unset, .unset, .unset] [(.int (0 : Int32))]))
      refine Go.step (fun t k => XS.istore X0.here hx rfl (hb hby at_26) rfl (l' := #[.val (.long qe), .second, .val (.long qp), .second, .val (.int di), .val (.long qq), .second, .val (.int fl), .val (.int (1 : Int32)), .val (.int (0 : Int32)), .unset, .unset, .unset, .unset, .unset, .unset, .unset]) rfl k) ?_
      show Go _ _ _ _ _ _ _ (s₁.setTop (mkF m 28 #[.val (.long qe), .second, .val (.long qp), .second, .val (.int di), .val (.long qq), .second, .val (.int fl), .val (.int (1 : Int32)), .val (.int (0 : Int32)), .unset, .unset, .unset, .unset, .unset, .unset, .unset] []))
      obtain ⟨T31, h31, X31, e31, E31, A31, D31, -, st31⟩ := newO X0 hx hZ hown (hw _ (List.mem_of_getElem? (i := 0) rfl)) (hw _ (List.mem_of_getElem? (i := 1) rfl)) (hw _ (List.mem_of_getElem? (i := 2) rfl)) e0 (g := (mkF m 28 #[.val (.long qe), .second, .val (.long qp), .second, .val (.int di), .val (.long qq), .second, .val (.int fl), .val (.int (1 : Int32)), .val (.int (0 : Int32)), .unset, .unset, .unset, .unset, .unset, .unset, .unset] [])) rfl (hb hby at_28) (by decide) (by decide)
      obtain ⟨ix, gz31⟩ : ∃ z, z = h0.size := ⟨_, rfl⟩
      have g_ix : n0 ≤ ix := Nat.le_trans Z0 (Nat.le_of_eq gz31.symm)
      rw [← gz31] at A31 D31 st31
      have Z31 := Nat.le_trans Z0 E31.1
      have E_ix := A31
      have F_lines_ix : Fld Z h31 ix "com/example/ferrylog/ferrylog/store/LiveIndex" "lines" "[J" .null := D31 (Or.inl (hw _ (List.mem_of_getElem? (i := 11) rfl))) (ty := (.array .long)) (by decide)
      have F_records_ix : Fld Z h31 ix "com/example/ferrylog/ferrylog/store/LiveIndex" "records" "[I" .null := D31 (Or.inl (hw _ (List.mem_of_getElem? (i := 14) rfl))) (ty := (.array .int)) (by decide)
      have F_runRecords_ix : Fld Z h31 ix "com/example/ferrylog/ferrylog/store/LiveIndex" "runRecords" "[I" .null := D31 (Or.inl (hw _ (List.mem_of_getElem? (i := 16) rfl))) (ty := (.array .int)) (by decide)
      have F_runFirsts_ix : Fld Z h31 ix "com/example/ferrylog/ferrylog/store/LiveIndex" "runFirsts" "[J" .null := D31 (Or.inl (hw _ (List.mem_of_getElem? (i := 18) rfl))) (ty := (.array .long)) (by decide)
      have F_topics_ix : Fld Z h31 ix "com/example/ferrylog/ferrylog/store/LiveIndex" "topics" "I" (.int (0 : Int32)) := D31 (Or.inl (hw _ (List.mem_of_getElem? (i := 25) rfl))) (ty := .int) (by decide)
      have F_recordCount_ix : Fld Z h31 ix "com/example/ferrylog/ferrylog/store/LiveIndex" "recordCount" "I" (.int (0 : Int32)) := D31 (Or.inl (hw _ (List.mem_of_getElem? (i := 39) rfl))) (ty := .int) (by decide)
      have F_origin_ix : Fld Z h31 ix "com/example/ferrylog/ferrylog/store/LiveIndex" "origin" "J" (.long (0 : Int64)) := D31 (Or.inl (hw _ (List.mem_of_getElem? (i := 41) rfl))) (ty := .long) (by decide)
      have F_runCount_ix : Fld Z h31 ix "com/example/ferrylog/ferrylog/store/LiveIndex" "runCount" "I" (.int (0 : Int32)) := D31 (Or.inl (hw _ (List.mem_of_getElem? (i := 52) rfl))) (ty := .int) (by decide)
      refine Go.step st31 ?_
      show Go _ _ _ _ _ _ _ (T31.setTop (mkF m 31 #[.val (.long qe), .second, .val (.long qp), .second, .val (.int di), .val (.long qq), .second, .val (.int fl), .val (.int (1 : Int32)), .val (.int (0 : Int32)), .unset, .unset, .unset, .unset, .unset, .unset, .unset] [(.ref ix)]))
      refine Go.step (fun t k => XS.dup X31.here hx rfl (hb hby at_31) rfl rfl k) ?_
      show Go _ _ _ _ _ _ _ (T31.setTop (mkF m 32 #[.val (.long qe), .second, .val (.long qp), .second, .val (.int di), .val (.long qq), .second, .val (.int fl), .val (.int (1 : Int32)), .val (.int (0 : Int32)), .unset, .unset, .unset, .unset, .unset, .unset, .unset] [(.ref ix), (.ref ix)]))
      obtain ⟨_, _, ⟨T32, L32, k32, n32⟩, -, X32, ⟨Lc32, hQ32, l32, y32, z32⟩, st32⟩ := X31.specialBack hx (y := (⟨"com/example/ferrylog/ferrylog/store/LiveIndex", "<init>", "()V"⟩ : MethodName)) rfl hown (mvT hZ (hw _ (List.mem_of_getElem? (i := 3) rfl))) (mvT hZ (hw _ (List.mem_of_getElem? (i := 4) rfl))) (mvT hZ (hw _ (List.mem_of_getElem? (i := 5) rfl))) (by decide) (backOf (W := 1) (rm1 l Z a0 hw [] ix h31 n0 Z31 F_lines_ix F_records_ix F_runRecords_ix F_runFirsts_ix F_topics_ix F_recordCount_ix F_runCount_ix F_origin_ix E_ix g_ix) hZ (hw _ (List.mem_of_getElem? (i := 5) rfl)) (hw _ (List.mem_of_getElem? (i := 2) rfl)) (by decide) (by decide)) (g := (mkF m 32 #[.val (.long qe), .second, .val (.long qp), .second, .val (.int di), .val (.long qq), .second, .val (.int fl), .val (.int (1 : Int32)), .val (.int (0 : Int32)), .unset, .unset, .unset, .unset, .unset, .unset, .unset] [(.ref ix), (.ref ix)])) rfl (by rw [hml]; rfl) (Steps.refl _) (a := ix) (argsL := []) (rest := [(.ref ix)]) (lenOf pd_0_0 rfl) rfl (by show 2 * 0 + _ ≤ _; exact Nat.le_of_eq rfl) (hb hby at_32) (fun _ _ => ⟨rfl, e31, (by decide : 1 + 4 ≤ _), (by decide : 8 + 3264 ≤ _)⟩)
      dsimp only [Pt.U, Pt.locs, Pt.cells, Pt.slots] at X32 l32 y32 z32 st32 hQ32
      subst l32 y32 z32
      obtain ⟨bl, br, bq, bf, rfl, N32q, K32q, o32_F_lines_ix, o32_F_records_ix, o32_F_runRecords_ix, o32_F_runFirsts_ix, o32_F_topics_ix, o32_F_recordCount_ix, o32_F_runCount_ix, o32_F_origin_ix, o32_A_bl, o32_A_br, o32_A_bq, o32_A_bf, o32_g_bl, o32_g_br, o32_g_bq, o32_g_bf, o32_ne_bl_br, o32_ne_bl_bq, o32_ne_bl_bf, o32_ne_br_bq, o32_ne_br_bf, o32_ne_bq_bf⟩ := hQ32
      have N32 := Fr.app N0 N32q
      replace E_ix := E_ix.keep K32q
      have Z32 := Nat.le_trans Z31 K32q.1
      have F_lines_ix := o32_F_lines_ix
      have F_records_ix := o32_F_records_ix
      have F_runRecords_ix := o32_F_runRecords_ix
      have F_runFirsts_ix := o32_F_runFirsts_ix
      have F_topics_ix := o32_F_topics_ix
      have F_recordCount_ix := o32_F_recordCount_ix
      have F_runCount_ix := o32_F_runCount_ix
      have F_origin_ix := o32_F_origin_ix
      have A_bl := o32_A_bl
      have A_br := o32_A_br
      have A_bq := o32_A_bq
      have A_bf := o32_A_bf
      refine Go.step (fun t k => st32.trans k) ?_
      show Go _ _ _ _ _ _ _ (T32.setTop (mkF m 35 #[.val (.long qe), .second, .val (.long qp), .second, .val (.int di), .val (.long qq), .second, .val (.int fl), .val (.int (1 : Int32)), .val (.int (0 : Int32)), .unset, .unset, .unset, .unset, .unset, .unset, .unset] [(.ref ix)]))
      refine Go.step (fun t k => XS.astore X32.here hx rfl (hb hby at_35) rfl rfl (l' := #[.val (.long qe), .second, .val (.long qp), .second, .val (.int di), .val (.long qq), .second, .val (.int fl), .val (.int (1 : Int32)), .val (.int (0 : Int32)), .val (.ref ix), .unset, .unset, .unset, .unset, .unset, .unset]) rfl k) ?_
      show Go _ _ _ _ _ _ _ (T32.setTop (mkF m 37 #[.val (.long qe), .second, .val (.long qp), .second, .val (.int di), .val (.long qq), .second, .val (.int fl), .val (.int (1 : Int32)), .val (.int (0 : Int32)), .val (.ref ix), .unset, .unset, .unset, .unset, .unset, .unset] []))
      refine Go.step (fun t k => XS.aload X32.here hx rfl (hb hby at_37) rfl rfl k) ?_
      show Go _ _ _ _ _ _ _ (T32.setTop (mkF m 39 #[.val (.long qe), .second, .val (.long qp), .second, .val (.int di), .val (.long qq), .second, .val (.int fl), .val (.int (1 : Int32)), .val (.int (0 : Int32)), .val (.ref ix), .unset, .unset, .unset, .unset, .unset, .unset] [(.ref ix)]))
      obtain ⟨cq33, kq33, q33a, q33b, q33c⟩ := isOf hZ rfl E_ix
      obtain ⟨_, _, ⟨T33, L33, k33, n33⟩, -, X33, ⟨Lc33, hQ33, l33, y33, z33⟩, st33⟩ := X32.virtualBack hx (y := (⟨"com/example/ferrylog/ferrylog/store/LiveIndex", "addTopic", "()I"⟩ : MethodName)) (z := (⟨"com/example/ferrylog/ferrylog/store/LiveIndex", "addTopic", "()I"⟩ : MethodName)) hown (mvT hZ (hw _ (List.mem_of_getElem? (i := 19) rfl))) (mvT hZ (hw _ (List.mem_of_getElem? (i := 20) rfl))) (notFace_of_selects (args := #[]) (mvT hZ (hw _ (List.mem_of_getElem? (i := 22) rfl)))) (mvT hZ (hw _ (List.mem_of_getElem? (i := 22) rfl))) (mvT hZ (hw _ (List.mem_of_getElem? (i := 21) rfl))) (by decide) (backOf (W := 0) (rm3 l Z a0 hw [] ix (0 : Int32) 0 bl br bq bf (0 : Int32) (0 : Int32) (0 : Int64) (fun _ => (0 : Int64)) T32.heap n0 Z32 F_lines_ix F_records_ix F_runRecords_ix F_runFirsts_ix F_topics_ix F_recordCount_ix F_runCount_ix F_origin_ix E_ix g_ix o32_g_bl A_bl rfl (by decide)) hZ (hw _ (List.mem_of_getElem? (i := 23) rfl)) (hw _ (List.mem_of_getElem? (i := 2) rfl)) (by decide) (by decide)) q33a q33c (g := (mkF m 39 #[.val (.long qe), .second, .val (.long qp), .second, .val (.int di), .val (.long qq), .second, .val (.int fl), .val (.int (1 : Int32)), .val (.int (0 : Int32)), .val (.ref ix), .unset, .unset, .unset, .unset, .unset, .unset] [(.ref ix)])) rfl (by rw [hml]; rfl) (Steps.refl _) (argsL := []) (rest := []) (lenOf pd_0_1 rfl) rfl (by show 2 * 0 + _ ≤ _; exact Nat.le_of_eq rfl) (hb hby at_39) (fun _ _ => ⟨rfl, rfl, (by decide : 5 + 0 ≤ _), (by decide : 3272 + 0 ≤ _)⟩)
      dsimp only [Pt.U, Pt.locs, Pt.cells, Pt.slots] at X33 l33 y33 z33 st33 hQ33
      subst l33 y33 z33
      obtain ⟨rfl, N33q, K33q, o33_F_lines_ix, o33_F_records_ix, o33_F_runRecords_ix, o33_F_runFirsts_ix, o33_F_topics_ix, o33_F_recordCount_ix, o33_F_runCount_ix, o33_F_origin_ix, o33_A_bl⟩ := hQ33
      have N33 := Fr.app N32 N33q
      have ne_br_ix : br ≠ ix := (Ne.symm (own_neA E_ix (hw _ (List.mem_of_getElem? (i := 1) rfl)) A_br))
      have ne_bq_ix : bq ≠ ix := (Ne.symm (own_neA E_ix (hw _ (List.mem_of_getElem? (i := 1) rfl)) A_bq))
      have ne_bf_ix : bf ≠ ix := (Ne.symm (own_neA E_ix (hw _ (List.mem_of_getElem? (i := 1) rfl)) A_bf))
      replace E_ix := E_ix.keep K33q
      replace A_br := A_br.keep K33q (ninS ne_br_ix (ninS (Ne.symm o32_ne_bl_br) nin0))
      replace A_bq := A_bq.keep K33q (ninS ne_bq_ix (ninS (Ne.symm o32_ne_bl_bq) nin0))
      replace A_bf := A_bf.keep K33q (ninS ne_bf_ix (ninS (Ne.symm o32_ne_bl_bf) nin0))
      have Z33 := Nat.le_trans Z32 K33q.1
      have F_lines_ix := o33_F_lines_ix
      have F_records_ix := o33_F_records_ix
      have F_runRecords_ix := o33_F_runRecords_ix
      have F_runFirsts_ix := o33_F_runFirsts_ix
      have F_topics_ix := o33_F_topics_ix
      have F_recordCount_ix := o33_F_recordCount_ix
      have F_runCount_ix := o33_F_runCount_ix
      have F_origin_ix := o33_F_origin_ix
      have A_bl := o33_A_bl
      refine Go.step (fun t k => st33.trans k) ?_
      show Go _ _ _ _ _ _ _ (T33.setTop (mkF m 42 #[.val (.long qe), .second, .val (.long qp), .second, .val (.int di), .val (.long qq), .second, .val (.int fl), .val (.int (1 : Int32)), .val (.int (0 : Int32)), .val (.ref ix), .unset, .unset, .unset, .unset, .unset, .unset] [(.int (0 : Int32))]))
      refine Go.step (fun t k => XS.istore X33.here hx rfl (hb hby at_42) rfl (l' := #[.val (.long qe), .second, .val (.long qp), .second, .val (.int di), .val (.long qq), .second, .val (.int fl), .val (.int (1 : Int32)), .val (.int (0 : Int32)), .val (.ref ix), .val (.int (0 : Int32)), .unset, .unset, .unset, .unset, .unset]) rfl k) ?_
      show Go _ _ _ _ _ _ _ (T33.setTop (mkF m 44 #[.val (.long qe), .second, .val (.long qp), .second, .val (.int di), .val (.long qq), .second, .val (.int fl), .val (.int (1 : Int32)), .val (.int (0 : Int32)), .val (.ref ix), .val (.int (0 : Int32)), .unset, .unset, .unset, .unset, .unset] []))
      refine Go.step (fun t k => XS.aload X33.here hx rfl (hb hby at_44) rfl rfl k) ?_
      show Go _ _ _ _ _ _ _ (T33.setTop (mkF m 46 #[.val (.long qe), .second, .val (.long qp), .second, .val (.int di), .val (.long qq), .second, .val (.int fl), .val (.int (1 : Int32)), .val (.int (0 : Int32)), .val (.ref ix), .val (.int (0 : Int32)), .unset, .unset, .unset, .unset, .unset] [(.ref ix)]))
      obtain ⟨cq34, kq34, q34a, q34b, q34c⟩ := isOf hZ rfl E_ix
      obtain ⟨_, _, ⟨T34, L34, k34, n34⟩, -, X34, ⟨Lc34, hQ34, l34, y34, z34⟩, st34⟩ := X33.virtualBack hx (y := (⟨"com/example/ferrylog/ferrylog/store/LiveIndex", "addTopic", "()I"⟩ : MethodName)) (z := (⟨"com/example/ferrylog/ferrylog/store/LiveIndex", "addTopic", "()I"⟩ : MethodName)) hown (mvT hZ (hw _ (List.mem_of_getElem? (i := 19) rfl))) (mvT hZ (hw _ (List.mem_of_getElem? (i := 20) rfl))) (notFace_of_selects (args := #[]) (mvT hZ (hw _ (List.mem_of_getElem? (i := 22) rfl)))) (mvT hZ (hw _ (List.mem_of_getElem? (i := 22) rfl))) (mvT hZ (hw _ (List.mem_of_getElem? (i := 21) rfl))) (by decide) (backOf (W := 0) (rm3 l Z a0 hw [] ix (1 : Int32) 1 bl br bq bf (0 : Int32) (0 : Int32) (0 : Int64) (up (up (up (fun _ => (0 : Int64)) 0 (0 : Int64)) 1 (-1 : Int64)) 3 (4294967295 : Int64)) T33.heap n0 Z33 F_lines_ix F_records_ix F_runRecords_ix F_runFirsts_ix F_topics_ix F_recordCount_ix F_runCount_ix F_origin_ix E_ix g_ix o32_g_bl A_bl rfl (by decide)) hZ (hw _ (List.mem_of_getElem? (i := 23) rfl)) (hw _ (List.mem_of_getElem? (i := 2) rfl)) (by decide) (by decide)) q34a q34c (g := (mkF m 46 #[.val (.long qe), .second, .val (.long qp), .second, .val (.int di), .val (.long qq), .second, .val (.int fl), .val (.int (1 : Int32)), .val (.int (0 : Int32)), .val (.ref ix), .val (.int (0 : Int32)), .unset, .unset, .unset, .unset, .unset] [(.ref ix)])) rfl (by rw [hml]; rfl) (Steps.refl _) (argsL := []) (rest := []) (lenOf pd_0_1 rfl) rfl (by show 2 * 0 + _ ≤ _; exact Nat.le_of_eq rfl) (hb hby at_46) (fun _ _ => ⟨rfl, rfl, (by decide : 5 + 0 ≤ _), (by decide : 3272 + 0 ≤ _)⟩)
      dsimp only [Pt.U, Pt.locs, Pt.cells, Pt.slots] at X34 l34 y34 z34 st34 hQ34
      subst l34 y34 z34
      obtain ⟨rfl, N34q, K34q, o34_F_lines_ix, o34_F_records_ix, o34_F_runRecords_ix, o34_F_runFirsts_ix, o34_F_topics_ix, o34_F_recordCount_ix, o34_F_runCount_ix, o34_F_origin_ix, o34_A_bl⟩ := hQ34
      have N34 := Fr.app N33 N34q
      replace E_ix := E_ix.keep K34q
      replace A_br := A_br.keep K34q (ninS ne_br_ix (ninS (Ne.symm o32_ne_bl_br) nin0))
      replace A_bq := A_bq.keep K34q (ninS ne_bq_ix (ninS (Ne.symm o32_ne_bl_bq) nin0))
      replace A_bf := A_bf.keep K34q (ninS ne_bf_ix (ninS (Ne.symm o32_ne_bl_bf) nin0))
      have Z34 := Nat.le_trans Z33 K34q.1
      have F_lines_ix := o34_F_lines_ix
      have F_records_ix := o34_F_records_ix
      have F_runRecords_ix := o34_F_runRecords_ix
      have F_runFirsts_ix := o34_F_runFirsts_ix
      have F_topics_ix := o34_F_topics_ix
      have F_recordCount_ix := o34_F_recordCount_ix
      have F_runCount_ix := o34_F_runCount_ix
      have F_origin_ix := o34_F_origin_ix
      have A_bl := o34_A_bl
      refine Go.step (fun t k => st34.trans k) ?_
      show Go _ _ _ _ _ _ _ (T34.setTop (mkF m 49 #[.val (.long qe), .second, .val (.long qp), .second, .val (.int di), .val (.long qq), .second, .val (.int fl), .val (.int (1 : Int32)), .val (.int (0 : Int32)), .val (.ref ix), .val (.int (0 : Int32)), .unset, .unset, .unset, .unset, .unset] [(.int (1 : Int32))]))
      refine Go.step (fun t k => XS.istore X34.here hx rfl (hb hby at_49) rfl (l' := #[.val (.long qe), .second, .val (.long qp), .second, .val (.int di), .val (.long qq), .second, .val (.int fl), .val (.int (1 : Int32)), .val (.int (0 : Int32)), .val (.ref ix), .val (.int (0 : Int32)), .val (.int (1 : Int32)), .unset, .unset, .unset, .unset]) rfl k) ?_
      show Go _ _ _ _ _ _ _ (T34.setTop (mkF m 51 #[.val (.long qe), .second, .val (.long qp), .second, .val (.int di), .val (.long qq), .second, .val (.int fl), .val (.int (1 : Int32)), .val (.int (0 : Int32)), .val (.ref ix), .val (.int (0 : Int32)), .val (.int (1 : Int32)), .unset, .unset, .unset, .unset] []))
      refine Go.step (fun t k => XS.aload X34.here hx rfl (hb hby at_51) rfl rfl k) ?_
      show Go _ _ _ _ _ _ _ (T34.setTop (mkF m 53 #[.val (.long qe), .second, .val (.long qp), .second, .val (.int di), .val (.long qq), .second, .val (.int fl), .val (.int (1 : Int32)), .val (.int (0 : Int32)), .val (.ref ix), .val (.int (0 : Int32)), .val (.int (1 : Int32)), .unset, .unset, .unset, .unset] [(.ref ix)]))
      refine Go.step (fun t k => XS.iload X34.here hx rfl (hb hby at_53) rfl k) ?_
      show Go _ _ _ _ _ _ _ (T34.setTop (mkF m 55 #[.val (.long qe), .second, .val (.long qp), .second, .val (.int di), .val (.long qq), .second, .val (.int fl), .val (.int (1 : Int32)), .val (.int (0 : Int32)), .val (.ref ix), .val (.int (0 : Int32)), .val (.int (1 : Int32)), .unset, .unset, .unset, .unset] [(.int (0 : Int32)), (.ref ix)]))
      refine Go.step (fun t k => XS.lloadN X34.here hx rfl (hb hby at_55) rfl k) ?_
      show Go _ _ _ _ _ _ _ (T34.setTop (mkF m 56 #[.val (.long qe), .second, .val (.long qp), .second, .val (.int di), .val (.long qq), .second, .val (.int fl), .val (.int (1 : Int32)), .val (.int (0 : Int32)), .val (.ref ix), .val (.int (0 : Int32)), .val (.int (1 : Int32)), .unset, .unset, .unset, .unset] [(.long qe), (.int (0 : Int32)), (.ref ix)]))
      obtain ⟨cq35, kq35, q35a, q35b, q35c⟩ := isOf hZ rfl E_ix
      obtain ⟨_, _, ⟨T35, L35, k35, n35⟩, -, X35, ⟨Lc35, hQ35, l35, y35, z35⟩, st35⟩ := X34.virtualBack hx (y := (⟨"com/example/ferrylog/ferrylog/store/LiveIndex", "setEnd", "(IJ)V"⟩ : MethodName)) (z := (⟨"com/example/ferrylog/ferrylog/store/LiveIndex", "setEnd", "(IJ)V"⟩ : MethodName)) hown (mvT hZ (hw _ (List.mem_of_getElem? (i := 28) rfl))) (mvT hZ (hw _ (List.mem_of_getElem? (i := 29) rfl))) (notFace_of_selects (args := #[]) (mvT hZ (hw _ (List.mem_of_getElem? (i := 31) rfl)))) (mvT hZ (hw _ (List.mem_of_getElem? (i := 31) rfl))) (mvT hZ (hw _ (List.mem_of_getElem? (i := 30) rfl))) (by decide) (backOf (W := 0) (rm4 l Z a0 hw [] ix (0 : Int32) qe bl (up (up (up (up (up (up (fun _ => (0 : Int64)) 0 (0 : Int64)) 1 (-1 : Int64)) 3 (4294967295 : Int64)) 4 (0 : Int64)) 5 (-1 : Int64)) 7 (4294967295 : Int64)) 0 T34.heap n0 Z34 F_lines_ix A_bl (own_neA E_ix (hw _ (List.mem_of_getElem? (i := 1) rfl)) A_bl) o32_g_bl rfl (by decide)) hZ (hw _ (List.mem_of_getElem? (i := 32) rfl)) (hw _ (List.mem_of_getElem? (i := 2) rfl)) (by decide) (by decide)) q35a q35c (g := (mkF m 56 #[.val (.long qe), .second, .val (.long qp), .second, .val (.int di), .val (.long qq), .second, .val (.int fl), .val (.int (1 : Int32)), .val (.int (0 : Int32)), .val (.ref ix), .val (.int (0 : Int32)), .val (.int (1 : Int32)), .unset, .unset, .unset, .unset] [(.long qe), (.int (0 : Int32)), (.ref ix)])) rfl (by rw [hml]; rfl) (Steps.refl _) (argsL := [(.int (0 : Int32)), (.long qe)]) (rest := []) (lenOf pd_0_2 rfl) rfl (by show 2 * 0 + _ ≤ _; exact Nat.le_of_eq rfl) (hb hby at_56) (fun _ _ => ⟨rfl, rfl, (by decide : 5 + 0 ≤ _), (by decide : 3272 + 0 ≤ _)⟩)
      dsimp only [Pt.U, Pt.locs, Pt.cells, Pt.slots] at X35 l35 y35 z35 st35 hQ35
      subst l35 y35 z35
      obtain ⟨rfl, N35q, K35q, o35_A_bl⟩ := hQ35
      have N35 := Fr.app N34 N35q
      have ne_ix_bl : ix ≠ bl := (own_neA E_ix (hw _ (List.mem_of_getElem? (i := 1) rfl)) A_bl)
      replace E_ix := E_ix.keep K35q
      replace A_br := A_br.keep K35q (ninS (Ne.symm o32_ne_bl_br) nin0)
      replace A_bq := A_bq.keep K35q (ninS (Ne.symm o32_ne_bl_bq) nin0)
      replace A_bf := A_bf.keep K35q (ninS (Ne.symm o32_ne_bl_bf) nin0)
      replace F_lines_ix := F_lines_ix.keep K35q (ninS ne_ix_bl nin0)
      replace F_records_ix := F_records_ix.keep K35q (ninS ne_ix_bl nin0)
      replace F_runRecords_ix := F_runRecords_ix.keep K35q (ninS ne_ix_bl nin0)
      replace F_runFirsts_ix := F_runFirsts_ix.keep K35q (ninS ne_ix_bl nin0)
      replace F_topics_ix := F_topics_ix.keep K35q (ninS ne_ix_bl nin0)
      replace F_recordCount_ix := F_recordCount_ix.keep K35q (ninS ne_ix_bl nin0)
      replace F_runCount_ix := F_runCount_ix.keep K35q (ninS ne_ix_bl nin0)
      replace F_origin_ix := F_origin_ix.keep K35q (ninS ne_ix_bl nin0)
      have Z35 := Nat.le_trans Z34 K35q.1
      have A_bl := o35_A_bl
      refine Go.step (fun t k => st35.trans k) ?_
      show Go _ _ _ _ _ _ _ (T35.setTop (mkF m 59 #[.val (.long qe), .second, .val (.long qp), .second, .val (.int di), .val (.long qq), .second, .val (.int fl), .val (.int (1 : Int32)), .val (.int (0 : Int32)), .val (.ref ix), .val (.int (0 : Int32)), .val (.int (1 : Int32)), .unset, .unset, .unset, .unset] []))
      refine Go.step (fun t k => XS.aload X35.here hx rfl (hb hby at_59) rfl rfl k) ?_
      show Go _ _ _ _ _ _ _ (T35.setTop (mkF m 61 #[.val (.long qe), .second, .val (.long qp), .second, .val (.int di), .val (.long qq), .second, .val (.int fl), .val (.int (1 : Int32)), .val (.int (0 : Int32)), .val (.ref ix), .val (.int (0 : Int32)), .val (.int (1 : Int32)), .unset, .unset, .unset, .unset] [(.ref ix)]))
      refine Go.step (fun t k => XS.iload X35.here hx rfl (hb hby at_61) rfl k) ?_
      show Go _ _ _ _ _ _ _ (T35.setTop (mkF m 63 #[.val (.long qe), .second, .val (.long qp), .second, .val (.int di), .val (.long qq), .second, .val (.int fl), .val (.int (1 : Int32)), .val (.int (0 : Int32)), .val (.ref ix), .val (.int (0 : Int32)), .val (.int (1 : Int32)), .unset, .unset, .unset, .unset] [(.int (0 : Int32)), (.ref ix)]))
      refine Go.step (fun t k => XS.lloadN X35.here hx rfl (hb hby at_63) rfl k) ?_
      show Go _ _ _ _ _ _ _ (T35.setTop (mkF m 64 #[.val (.long qe), .second, .val (.long qp), .second, .val (.int di), .val (.long qq), .second, .val (.int fl), .val (.int (1 : Int32)), .val (.int (0 : Int32)), .val (.ref ix), .val (.int (0 : Int32)), .val (.int (1 : Int32)), .unset, .unset, .unset, .unset] [(.long qp), (.int (0 : Int32)), (.ref ix)]))
      obtain ⟨cq36, kq36, q36a, q36b, q36c⟩ := isOf hZ rfl E_ix
      obtain ⟨_, _, ⟨T36, L36, k36, n36⟩, -, X36, ⟨Lc36, hQ36, l36, y36, z36⟩, st36⟩ := X35.virtualBack hx (y := (⟨"com/example/ferrylog/ferrylog/store/LiveIndex", "addRecord", "(IJ)V"⟩ : MethodName)) (z := (⟨"com/example/ferrylog/ferrylog/store/LiveIndex", "addRecord", "(IJ)V"⟩ : MethodName)) hown (mvT hZ (hw _ (List.mem_of_getElem? (i := 33) rfl))) (mvT hZ (hw _ (List.mem_of_getElem? (i := 34) rfl))) (notFace_of_selects (args := #[]) (mvT hZ (hw _ (List.mem_of_getElem? (i := 36) rfl)))) (mvT hZ (hw _ (List.mem_of_getElem? (i := 36) rfl))) (mvT hZ (hw _ (List.mem_of_getElem? (i := 35) rfl))) (by decide) (backOf (W := 0) (rm5_0 l Z a0 hw [] ix (0 : Int32) qp bl br bq bf (2 : Int32) (0 : Int32) (0 : Int64) 0 0 (up (up (up (up (up (up (up (fun _ => (0 : Int64)) 0 (0 : Int64)) 1 (-1 : Int64)) 3 (4294967295 : Int64)) 4 (0 : Int64)) 5 (-1 : Int64)) 7 (4294967295 : Int64)) 0 qe) (fun _ => (0 : Int32)) (fun _ => (0 : Int32)) (fun _ => (0 : Int64)) T35.heap n0 Z35 F_lines_ix F_records_ix F_runRecords_ix F_runFirsts_ix F_topics_ix F_recordCount_ix F_runCount_ix F_origin_ix E_ix g_ix o32_g_bl o32_g_br o32_g_bq o32_g_bf o32_ne_bl_br o32_ne_bl_bq o32_ne_bl_bf o32_ne_br_bq o32_ne_br_bf o32_ne_bq_bf A_bl A_br A_bq A_bf rfl (by decide) rfl (by decide) (show ((4294967295 : Int64).toInt32) < (0 : Int32) by decide +kernel) (own_pp qp)) hZ (hw _ (List.mem_of_getElem? (i := 37) rfl)) (hw _ (List.mem_of_getElem? (i := 2) rfl)) (by decide) (by decide)) q36a q36c (g := (mkF m 64 #[.val (.long qe), .second, .val (.long qp), .second, .val (.int di), .val (.long qq), .second, .val (.int fl), .val (.int (1 : Int32)), .val (.int (0 : Int32)), .val (.ref ix), .val (.int (0 : Int32)), .val (.int (1 : Int32)), .unset, .unset, .unset, .unset] [(.long qp), (.int (0 : Int32)), (.ref ix)])) rfl (by rw [hml]; rfl) (Steps.refl _) (argsL := [(.int (0 : Int32)), (.long qp)]) (rest := []) (lenOf pd_0_2 rfl) rfl (by show 2 * 0 + _ ≤ _; exact Nat.le_of_eq rfl) (hb hby at_64) (fun _ _ => ⟨rfl, rfl, (by decide : 5 + 0 ≤ _), (by decide : 3272 + 0 ≤ _)⟩)
      dsimp only [Pt.U, Pt.locs, Pt.cells, Pt.slots] at X36 l36 y36 z36 st36 hQ36
      subst l36 y36 z36
      obtain ⟨rfl, N36q, K36q, o36_F_lines_ix, o36_F_records_ix, o36_F_runRecords_ix, o36_F_runFirsts_ix, o36_F_topics_ix, o36_F_recordCount_ix, o36_F_runCount_ix, o36_F_origin_ix, o36_A_bl, o36_A_br, o36_A_bq, o36_A_bf⟩ := hQ36
      have N36 := Fr.app N35 N36q
      replace E_ix := E_ix.keep K36q
      have Z36 := Nat.le_trans Z35 K36q.1
      have F_lines_ix := o36_F_lines_ix
      have F_records_ix := o36_F_records_ix
      have F_runRecords_ix := o36_F_runRecords_ix
      have F_runFirsts_ix := o36_F_runFirsts_ix
      have F_topics_ix := o36_F_topics_ix
      have F_recordCount_ix := o36_F_recordCount_ix
      have F_runCount_ix := o36_F_runCount_ix
      have F_origin_ix := o36_F_origin_ix
      have A_bl := o36_A_bl
      have A_br := o36_A_br
      have A_bq := o36_A_bq
      have A_bf := o36_A_bf
      refine Go.step (fun t k => st36.trans k) ?_
      show Go _ _ _ _ _ _ _ (T36.setTop (mkF m 67 #[.val (.long qe), .second, .val (.long qp), .second, .val (.int di), .val (.long qq), .second, .val (.int fl), .val (.int (1 : Int32)), .val (.int (0 : Int32)), .val (.ref ix), .val (.int (0 : Int32)), .val (.int (1 : Int32)), .unset, .unset, .unset, .unset] []))
      refine Go.step (fun t k => XS.iload X36.here hx rfl (hb hby at_67) rfl k) ?_
      show Go _ _ _ _ _ _ _ (T36.setTop (mkF m 69 #[.val (.long qe), .second, .val (.long qp), .second, .val (.int di), .val (.long qq), .second, .val (.int fl), .val (.int (1 : Int32)), .val (.int (0 : Int32)), .val (.ref ix), .val (.int (0 : Int32)), .val (.int (1 : Int32)), .unset, .unset, .unset, .unset] [(.int (1 : Int32))]))
      refine Go.step (fun t k => XS.ifNo X36.here hx rfl (hb hby at_69) rfl ((if0 _ _).trans (feq (by decide : ¬ (1 : Int32) = (0 : Int32))).1) k) ?_
      show Go _ _ _ _ _ _ _ (T36.setTop (mkF m 72 #[.val (.long qe), .second, .val (.long qp), .second, .val (.int di), .val (.long qq), .second, .val (.int fl), .val (.int (1 : Int32)), .val (.int (0 : Int32)), .val (.ref ix), .val (.int (0 : Int32)), .val (.int (1 : Int32)), .unset, .unset, .unset, .unset] []))
      refine Go.step (fun t k => XS.aload X36.here hx rfl (hb hby at_72) rfl rfl k) ?_
      show Go _ _ _ _ _ _ _ (T36.setTop (mkF m 74 #[.val (.long qe), .second, .val (.long qp), .second, .val (.int di), .val (.long qq), .second, .val (.int fl), .val (.int (1 : Int32)), .val (.int (0 : Int32)), .val (.ref ix), .val (.int (0 : Int32)), .val (.int (1 : Int32)), .unset, .unset, .unset, .unset] [(.ref ix)]))
      refine Go.step (fun t k => XS.iload X36.here hx rfl (hb hby at_74) rfl k) ?_
      show Go _ _ _ _ _ _ _ (T36.setTop (mkF m 76 #[.val (.long qe), .second, .val (.long qp), .second, .val (.int di), .val (.long qq), .second, .val (.int fl), .val (.int (1 : Int32)), .val (.int (0 : Int32)), .val (.ref ix), .val (.int (0 : Int32)), .val (.int (1 : Int32)), .unset, .unset, .unset, .unset] [(.int (1 : Int32)), (.ref ix)]))
      refine Go.step (fun t k => XS.lloadN X36.here hx rfl (hb hby at_76) rfl k) ?_
      show Go _ _ _ _ _ _ _ (T36.setTop (mkF m 77 #[.val (.long qe), .second, .val (.long qp), .second, .val (.int di), .val (.long qq), .second, .val (.int fl), .val (.int (1 : Int32)), .val (.int (0 : Int32)), .val (.ref ix), .val (.int (0 : Int32)), .val (.int (1 : Int32)), .unset, .unset, .unset, .unset] [(.long qp), (.int (1 : Int32)), (.ref ix)]))
      refine Go.step (fun t k => XS.iload X36.here hx rfl (hb hby at_77) rfl k) ?_
      show Go _ _ _ _ _ _ _ (T36.setTop (mkF m 79 #[.val (.long qe), .second, .val (.long qp), .second, .val (.int di), .val (.long qq), .second, .val (.int fl), .val (.int (1 : Int32)), .val (.int (0 : Int32)), .val (.ref ix), .val (.int (0 : Int32)), .val (.int (1 : Int32)), .unset, .unset, .unset, .unset] [(.int di), (.long qp), (.int (1 : Int32)), (.ref ix)]))
      refine Go.step (fun t k => XS.i2l X36.here hx rfl (hb hby at_79) rfl k) ?_
      show Go _ _ _ _ _ _ _ (T36.setTop (mkF m 80 #[.val (.long qe), .second, .val (.long qp), .second, .val (.int di), .val (.long qq), .second, .val (.int fl), .val (.int (1 : Int32)), .val (.int (0 : Int32)), .val (.ref ix), .val (.int (0 : Int32)), .val (.int (1 : Int32)), .unset, .unset, .unset, .unset] [(.long (di.toInt64)), (.long qp), (.int (1 : Int32)), (.ref ix)]))
      refine Go.step (fun t k => XS.ladd X36.here hx rfl (hb hby at_80) rfl k) ?_
      show Go _ _ _ _ _ _ _ (T36.setTop (mkF m 81 #[.val (.long qe), .second, .val (.long qp), .second, .val (.int di), .val (.long qq), .second, .val (.int fl), .val (.int (1 : Int32)), .val (.int (0 : Int32)), .val (.ref ix), .val (.int (0 : Int32)), .val (.int (1 : Int32)), .unset, .unset, .unset, .unset] [(.long (qp + (di.toInt64))), (.int (1 : Int32)), (.ref ix)]))
      obtain ⟨cq37, kq37, q37a, q37b, q37c⟩ := isOf hZ rfl E_ix
      obtain ⟨_, _, ⟨T37, L37, k37, n37⟩, -, X37, ⟨Lc37, hQ37, l37, y37, z37⟩, st37⟩ := X36.virtualBack hx (y := (⟨"com/example/ferrylog/ferrylog/store/LiveIndex", "addRecord", "(IJ)V"⟩ : MethodName)) (z := (⟨"com/example/ferrylog/ferrylog/store/LiveIndex", "addRecord", "(IJ)V"⟩ : MethodName)) hown (mvT hZ (hw _ (List.mem_of_getElem? (i := 33) rfl))) (mvT hZ (hw _ (List.mem_of_getElem? (i := 34) rfl))) (notFace_of_selects (args := #[]) (mvT hZ (hw _ (List.mem_of_getElem? (i := 36) rfl)))) (mvT hZ (hw _ (List.mem_of_getElem? (i := 36) rfl))) (mvT hZ (hw _ (List.mem_of_getElem? (i := 35) rfl))) (by decide) (backOf (W := 0) (rm5_1 l Z a0 hw [] ix (1 : Int32) (qp + (di.toInt64)) bl br bq bf (2 : Int32) (1 : Int32) qp 1 1 (up (up (up (up (up (up (up (up (up (up (fun _ => (0 : Int64)) 0 (0 : Int64)) 1 (-1 : Int64)) 3 (4294967295 : Int64)) 4 (0 : Int64)) 5 (-1 : Int64)) 7 (4294967295 : Int64)) 0 qe) 3 (((4294967295 : Int64) &&& (-4294967296 : Int64)) ||| ((0 : Int32).toInt64))) 0 (qe + (1 : Int64))) 2 (qe + (1 : Int64))) (up (up (up (fun _ => (0 : Int32)) 0 ((qp - qp).toInt32)) 1 ((0 : Int32) ||| (-2147483648 : Int32))) 2 ((4294967295 : Int64).toInt32)) (up (fun _ => (0 : Int32)) 0 (0 : Int32)) (up (fun _ => (0 : Int64)) 0 qe) T36.heap n0 Z36 F_lines_ix F_records_ix F_runRecords_ix F_runFirsts_ix F_topics_ix F_recordCount_ix F_runCount_ix F_origin_ix E_ix g_ix o32_g_bl o32_g_br o32_g_bq o32_g_bf o32_ne_bl_br o32_ne_bl_bq o32_ne_bl_bf o32_ne_br_bq o32_ne_br_bf o32_ne_bq_bf A_bl A_br A_bq A_bf rfl (by decide) rfl (by decide) (show ((4294967295 : Int64).toInt32) < (0 : Int32) by decide +kernel) (own_pd qp di)) hZ (hw _ (List.mem_of_getElem? (i := 37) rfl)) (hw _ (List.mem_of_getElem? (i := 2) rfl)) (by decide) (by decide)) q37a q37c (g := (mkF m 81 #[.val (.long qe), .second, .val (.long qp), .second, .val (.int di), .val (.long qq), .second, .val (.int fl), .val (.int (1 : Int32)), .val (.int (0 : Int32)), .val (.ref ix), .val (.int (0 : Int32)), .val (.int (1 : Int32)), .unset, .unset, .unset, .unset] [(.long (qp + (di.toInt64))), (.int (1 : Int32)), (.ref ix)])) rfl (by rw [hml]; rfl) (Steps.refl _) (argsL := [(.int (1 : Int32)), (.long (qp + (di.toInt64)))]) (rest := []) (lenOf pd_0_2 rfl) rfl (by show 2 * 0 + _ ≤ _; exact Nat.le_of_eq rfl) (hb hby at_81) (fun _ _ => ⟨rfl, rfl, (by decide : 5 + 0 ≤ _), (by decide : 3272 + 0 ≤ _)⟩)
      dsimp only [Pt.U, Pt.locs, Pt.cells, Pt.slots] at X37 l37 y37 z37 st37 hQ37
      subst l37 y37 z37
      obtain ⟨rfl, N37q, K37q, o37_F_lines_ix, o37_F_records_ix, o37_F_runRecords_ix, o37_F_runFirsts_ix, o37_F_topics_ix, o37_F_recordCount_ix, o37_F_runCount_ix, o37_F_origin_ix, o37_A_bl, o37_A_br, o37_A_bq, o37_A_bf⟩ := hQ37
      have N37 := Fr.app N36 N37q
      replace E_ix := E_ix.keep K37q
      have Z37 := Nat.le_trans Z36 K37q.1
      have F_lines_ix := o37_F_lines_ix
      have F_records_ix := o37_F_records_ix
      have F_runRecords_ix := o37_F_runRecords_ix
      have F_runFirsts_ix := o37_F_runFirsts_ix
      have F_topics_ix := o37_F_topics_ix
      have F_recordCount_ix := o37_F_recordCount_ix
      have F_runCount_ix := o37_F_runCount_ix
      have F_origin_ix := o37_F_origin_ix
      have A_bl := o37_A_bl
      have A_br := o37_A_br
      have A_bq := o37_A_bq
      have A_bf := o37_A_bf
      refine Go.step (fun t k => st37.trans k) ?_
      show Go _ _ _ _ _ _ _ (T37.setTop (mkF m 84 #[.val (.long qe), .second, .val (.long qp), .second, .val (.int di), .val (.long qq), .second, .val (.int fl), .val (.int (1 : Int32)), .val (.int (0 : Int32)), .val (.ref ix), .val (.int (0 : Int32)), .val (.int (1 : Int32)), .unset, .unset, .unset, .unset] []))
      refine Go.step (fun t k => XS.iload X37.here hx rfl (hb hby at_84) rfl k) ?_
      show Go _ _ _ _ _ _ _ (T37.setTop (mkF m 86 #[.val (.long qe), .second, .val (.long qp), .second, .val (.int di), .val (.long qq), .second, .val (.int fl), .val (.int (1 : Int32)), .val (.int (0 : Int32)), .val (.ref ix), .val (.int (0 : Int32)), .val (.int (1 : Int32)), .unset, .unset, .unset, .unset] [(.int (0 : Int32))]))
      refine Go.step (fun t k => XS.ifYes X37.here hx rfl (pc0 := 86) (pc' := 97) rfl (hb hby at_86) rfl ((if0 _ _).trans (teq (by decide : (0 : Int32) = (0 : Int32))).1) (by decide) (by decide) k) ?_
      show Go _ _ _ _ _ _ _ (T37.setTop (mkF m 97 #[.val (.long qe), .second, .val (.long qp), .second, .val (.int di), .val (.long qq), .second, .val (.int fl), .val (.int (1 : Int32)), .val (.int (0 : Int32)), .val (.ref ix), .val (.int (0 : Int32)), .val (.int (1 : Int32)), .unset, .unset, .unset, .unset] []))
      refine Go.step (fun t k => XS.aload X37.here hx rfl (hb hby at_97) rfl rfl k) ?_
      show Go _ _ _ _ _ _ _ (T37.setTop (mkF m 99 #[.val (.long qe), .second, .val (.long qp), .second, .val (.int di), .val (.long qq), .second, .val (.int fl), .val (.int (1 : Int32)), .val (.int (0 : Int32)), .val (.ref ix), .val (.int (0 : Int32)), .val (.int (1 : Int32)), .unset, .unset, .unset, .unset] [(.ref ix)]))
      obtain ⟨cq38, kq38, q38a, q38b, q38c⟩ := isOf hZ rfl E_ix
      obtain ⟨_, _, ⟨T38, L38, k38, n38⟩, -, X38, ⟨Lc38, hQ38, l38, y38, z38⟩, st38⟩ := X37.virtualBack hx (y := (⟨"com/example/ferrylog/ferrylog/store/LiveIndex", "checkpointed", "()V"⟩ : MethodName)) (z := (⟨"com/example/ferrylog/ferrylog/store/LiveIndex", "checkpointed", "()V"⟩ : MethodName)) hown (mvT hZ (hw _ (List.mem_of_getElem? (i := 60) rfl))) (mvT hZ (hw _ (List.mem_of_getElem? (i := 61) rfl))) (notFace_of_selects (args := #[]) (mvT hZ (hw _ (List.mem_of_getElem? (i := 63) rfl)))) (mvT hZ (hw _ (List.mem_of_getElem? (i := 63) rfl))) (mvT hZ (hw _ (List.mem_of_getElem? (i := 62) rfl))) (by decide) (backOf (W := 0) (rm9 l Z a0 hw [] ix bl br bq bf (2 : Int32) (2 : Int32) qp (up (up (up (up (up (up (up (up (up (up (up (up (up (fun _ => (0 : Int64)) 0 (0 : Int64)) 1 (-1 : Int64)) 3 (4294967295 : Int64)) 4 (0 : Int64)) 5 (-1 : Int64)) 7 (4294967295 : Int64)) 0 qe) 3 (((4294967295 : Int64) &&& (-4294967296 : Int64)) ||| ((0 : Int32).toInt64))) 0 (qe + (1 : Int64))) 2 (qe + (1 : Int64))) 7 (((4294967295 : Int64) &&& (-4294967296 : Int64)) ||| ((1 : Int32).toInt64))) 4 ((0 : Int64) + (1 : Int64))) 6 ((0 : Int64) + (1 : Int64))) (up (up (up (up (up (up (fun _ => (0 : Int32)) 0 ((qp - qp).toInt32)) 1 ((0 : Int32) ||| (-2147483648 : Int32))) 2 ((4294967295 : Int64).toInt32)) 3 (((qp + (di.toInt64)) - qp).toInt32)) 4 ((1 : Int32) ||| (-2147483648 : Int32))) 5 ((4294967295 : Int64).toInt32)) (up (up (fun _ => (0 : Int32)) 0 (0 : Int32)) 1 (1 : Int32)) T37.heap n0 Z37 F_lines_ix F_records_ix F_runRecords_ix F_runFirsts_ix F_topics_ix F_recordCount_ix F_runCount_ix F_origin_ix E_ix g_ix o32_g_bl A_bl A_br A_bq o32_ne_bl_br o32_ne_bl_bq ne_ix_bl) hZ (hw _ (List.mem_of_getElem? (i := 64) rfl)) (hw _ (List.mem_of_getElem? (i := 2) rfl)) (by decide) (by decide)) q38a q38c (g := (mkF m 99 #[.val (.long qe), .second, .val (.long qp), .second, .val (.int di), .val (.long qq), .second, .val (.int fl), .val (.int (1 : Int32)), .val (.int (0 : Int32)), .val (.ref ix), .val (.int (0 : Int32)), .val (.int (1 : Int32)), .unset, .unset, .unset, .unset] [(.ref ix)])) rfl (by rw [hml]; rfl) (Steps.refl _) (argsL := []) (rest := []) (lenOf pd_0_0 rfl) rfl (by show 2 * 0 + _ ≤ _; exact Nat.le_of_eq rfl) (hb hby at_99) (fun _ _ => ⟨rfl, rfl, (by decide : 5 + 0 ≤ _), (by decide : 3272 + 0 ≤ _)⟩)
      dsimp only [Pt.U, Pt.locs, Pt.cells, Pt.slots] at X38 l38 y38 z38 st38 hQ38
      subst l38 y38 z38
      obtain ⟨rfl, N38q, K38q, o38_F_lines_ix, o38_F_records_ix, o38_F_runRecords_ix, o38_F_runFirsts_ix, o38_F_topics_ix, o38_F_recordCount_ix, o38_F_runCount_ix, o38_F_origin_ix, o38_A_bl⟩ := hQ38
      have N38 := Fr.app N37 N38q
      replace E_ix := E_ix.keep K38q
      replace A_br := A_br.keep K38q (ninS ne_br_ix (ninS (Ne.symm o32_ne_bl_br) nin0))
      replace A_bq := A_bq.keep K38q (ninS ne_bq_ix (ninS (Ne.symm o32_ne_bl_bq) nin0))
      replace A_bf := A_bf.keep K38q (ninS ne_bf_ix (ninS (Ne.symm o32_ne_bl_bf) nin0))
      have Z38 := Nat.le_trans Z37 K38q.1
      have F_lines_ix := o38_F_lines_ix
      have F_records_ix := o38_F_records_ix
      have F_runRecords_ix := o38_F_runRecords_ix
      have F_runFirsts_ix := o38_F_runFirsts_ix
      have F_topics_ix := o38_F_topics_ix
      have F_recordCount_ix := o38_F_recordCount_ix
      have F_runCount_ix := o38_F_runCount_ix
      have F_origin_ix := o38_F_origin_ix
      have A_bl := o38_A_bl
      refine Go.step (fun t k => st38.trans k) ?_
      show Go _ _ _ _ _ _ _ (T38.setTop (mkF m 102 #[.val (.long qe), .second, .val (.long qp), .second, .val (.int di), .val (.long qq), .second, .val (.int fl), .val (.int (1 : Int32)), .val (.int (0 : Int32)), .val (.ref ix), .val (.int (0 : Int32)), .val (.int (1 : Int32)), .unset, .unset, .unset, .unset] []))
      refine Go.step (fun t k => XS.aload X38.here hx rfl (hb hby at_102) rfl rfl k) ?_
      show Go _ _ _ _ _ _ _ (T38.setTop (mkF m 104 #[.val (.long qe), .second, .val (.long qp), .second, .val (.int di), .val (.long qq), .second, .val (.int fl), .val (.int (1 : Int32)), .val (.int (0 : Int32)), .val (.ref ix), .val (.int (0 : Int32)), .val (.int (1 : Int32)), .unset, .unset, .unset, .unset] [(.ref ix)]))
      refine Go.step (fun t k => XS.iload X38.here hx rfl (hb hby at_104) rfl k) ?_
      show Go _ _ _ _ _ _ _ (T38.setTop (mkF m 106 #[.val (.long qe), .second, .val (.long qp), .second, .val (.int di), .val (.long qq), .second, .val (.int fl), .val (.int (1 : Int32)), .val (.int (0 : Int32)), .val (.ref ix), .val (.int (0 : Int32)), .val (.int (1 : Int32)), .unset, .unset, .unset, .unset] [(.int (0 : Int32)), (.ref ix)]))
      obtain ⟨cq39, kq39, q39a, q39b, q39c⟩ := isOf hZ rfl E_ix
      obtain ⟨_, _, ⟨T39, L39, k39, n39⟩, -, X39, ⟨Lc39, hQ39, l39, y39, z39⟩, st39⟩ := X38.virtualBack hx (y := (⟨"com/example/ferrylog/ferrylog/store/LiveIndex", "last", "(I)I"⟩ : MethodName)) (z := (⟨"com/example/ferrylog/ferrylog/store/LiveIndex", "last", "(I)I"⟩ : MethodName)) hown (mvT hZ (hw _ (List.mem_of_getElem? (i := 65) rfl))) (mvT hZ (hw _ (List.mem_of_getElem? (i := 66) rfl))) (notFace_of_selects (args := #[]) (mvT hZ (hw _ (List.mem_of_getElem? (i := 68) rfl)))) (mvT hZ (hw _ (List.mem_of_getElem? (i := 68) rfl))) (mvT hZ (hw _ (List.mem_of_getElem? (i := 67) rfl))) (by decide) (backOf (W := 0) (rm10 l Z a0 hw [] ix (0 : Int32) bl (up (up (up (up (up (up (up (up (up (up (up (up (up (up (up (fun _ => (0 : Int64)) 0 (0 : Int64)) 1 (-1 : Int64)) 3 (4294967295 : Int64)) 4 (0 : Int64)) 5 (-1 : Int64)) 7 (4294967295 : Int64)) 0 qe) 3 (((4294967295 : Int64) &&& (-4294967296 : Int64)) ||| ((0 : Int32).toInt64))) 0 (qe + (1 : Int64))) 2 (qe + (1 : Int64))) 7 (((4294967295 : Int64) &&& (-4294967296 : Int64)) ||| ((1 : Int32).toInt64))) 4 ((0 : Int64) + (1 : Int64))) 6 ((0 : Int64) + (1 : Int64))) 3 ((((4294967295 : Int64) &&& (-4294967296 : Int64)) ||| ((0 : Int32).toInt64)) ||| (4294967295 : Int64))) 7 ((((4294967295 : Int64) &&& (-4294967296 : Int64)) ||| ((1 : Int32).toInt64)) ||| (4294967295 : Int64))) 0 T38.heap n0 Z38 F_lines_ix A_bl ne_ix_bl rfl (by decide)) hZ (hw _ (List.mem_of_getElem? (i := 69) rfl)) (hw _ (List.mem_of_getElem? (i := 2) rfl)) (by decide) (by decide)) q39a q39c (g := (mkF m 106 #[.val (.long qe), .second, .val (.long qp), .second, .val (.int di), .val (.long qq), .second, .val (.int fl), .val (.int (1 : Int32)), .val (.int (0 : Int32)), .val (.ref ix), .val (.int (0 : Int32)), .val (.int (1 : Int32)), .unset, .unset, .unset, .unset] [(.int (0 : Int32)), (.ref ix)])) rfl (by rw [hml]; rfl) (Steps.refl _) (argsL := [(.int (0 : Int32))]) (rest := []) (lenOf pd_0_3 rfl) rfl (by show 2 * 0 + _ ≤ _; exact Nat.le_of_eq rfl) (hb hby at_106) (fun _ _ => ⟨rfl, rfl, (by decide : 5 + 0 ≤ _), (by decide : 3272 + 0 ≤ _)⟩)
      dsimp only [Pt.U, Pt.locs, Pt.cells, Pt.slots] at X39 l39 y39 z39 st39 hQ39
      subst l39 y39 z39
      obtain ⟨rfl, N39q, K39q⟩ := hQ39
      have N39 := Fr.app N38 N39q
      refine Go.step (fun t k => st39.trans k) ?_
      show Go _ _ _ _ _ _ _ (T39.setTop (mkF m 109 #[.val (.long qe), .second, .val (.long qp), .second, .val (.int di), .val (.long qq), .second, .val (.int fl), .val (.int (1 : Int32)), .val (.int (0 : Int32)), .val (.ref ix), .val (.int (0 : Int32)), .val (.int (1 : Int32)), .unset, .unset, .unset, .unset] [(.int (((((4294967295 : Int64) &&& (-4294967296 : Int64)) ||| ((0 : Int32).toInt64)) ||| (4294967295 : Int64)).toInt32))]))
      refine Go.step (fun t k => XS.iconst X39.here hx rfl (hb hby at_109) k) ?_
      show Go _ _ _ _ _ _ _ (T39.setTop (mkF m 110 #[.val (.long qe), .second, .val (.long qp), .second, .val (.int di), .val (.long qq), .second, .val (.int fl), .val (.int (1 : Int32)), .val (.int (0 : Int32)), .val (.ref ix), .val (.int (0 : Int32)), .val (.int (1 : Int32)), .unset, .unset, .unset, .unset] [(.int (-1 : Int32)), (.int (((((4294967295 : Int64) &&& (-4294967296 : Int64)) ||| ((0 : Int32).toInt64)) ||| (4294967295 : Int64)).toInt32))]))
      refine Go.step (fun t k => XS.icmpYes X39.here hx rfl (pc0 := 110) (pc' := 115) rfl (hb hby at_110) rfl (teq ((by decide +kernel) : (((((4294967295 : Int64) &&& (-4294967296 : Int64)) ||| ((0 : Int32).toInt64)) ||| (4294967295 : Int64)).toInt32) = (-1 : Int32))).1 (by decide) (by decide) k) ?_
      show Go _ _ _ _ _ _ _ (T39.setTop (mkF m 115 #[.val (.long qe), .second, .val (.long qp), .second, .val (.int di), .val (.long qq), .second, .val (.int fl), .val (.int (1 : Int32)), .val (.int (0 : Int32)), .val (.ref ix), .val (.int (0 : Int32)), .val (.int (1 : Int32)), .unset, .unset, .unset, .unset] []))
      refine Go.step (fun t k => XS.aload X39.here hx rfl (hb hby at_115) rfl rfl k) ?_
      show Go _ _ _ _ _ _ _ (T39.setTop (mkF m 117 #[.val (.long qe), .second, .val (.long qp), .second, .val (.int di), .val (.long qq), .second, .val (.int fl), .val (.int (1 : Int32)), .val (.int (0 : Int32)), .val (.ref ix), .val (.int (0 : Int32)), .val (.int (1 : Int32)), .unset, .unset, .unset, .unset] [(.ref ix)]))
      refine Go.step (fun t k => XS.iload X39.here hx rfl (hb hby at_117) rfl k) ?_
      show Go _ _ _ _ _ _ _ (T39.setTop (mkF m 119 #[.val (.long qe), .second, .val (.long qp), .second, .val (.int di), .val (.long qq), .second, .val (.int fl), .val (.int (1 : Int32)), .val (.int (0 : Int32)), .val (.ref ix), .val (.int (0 : Int32)), .val (.int (1 : Int32)), .unset, .unset, .unset, .unset] [(.int (0 : Int32)), (.ref ix)]))
      obtain ⟨cq40, kq40, q40a, q40b, q40c⟩ := isOf hZ K39q E_ix
      obtain ⟨_, _, ⟨T40, L40, k40, n40⟩, -, X40, ⟨Lc40, hQ40, l40, y40, z40⟩, st40⟩ := X39.virtualBack hx (y := (⟨"com/example/ferrylog/ferrylog/store/LiveIndex", "giveOffset", "(I)J"⟩ : MethodName)) (z := (⟨"com/example/ferrylog/ferrylog/store/LiveIndex", "giveOffset", "(I)J"⟩ : MethodName)) hown (mvT hZ (hw _ (List.mem_of_getElem? (i := 54) rfl))) (mvT hZ (hw _ (List.mem_of_getElem? (i := 55) rfl))) (notFace_of_selects (args := #[]) (mvT hZ (hw _ (List.mem_of_getElem? (i := 57) rfl)))) (mvT hZ (hw _ (List.mem_of_getElem? (i := 57) rfl))) (mvT hZ (hw _ (List.mem_of_getElem? (i := 56) rfl))) (by decide) (backOf (W := 0) (rm8 l Z a0 hw [] ix (0 : Int32) bl (up (up (up (up (up (up (up (up (up (up (up (up (up (up (up (fun _ => (0 : Int64)) 0 (0 : Int64)) 1 (-1 : Int64)) 3 (4294967295 : Int64)) 4 (0 : Int64)) 5 (-1 : Int64)) 7 (4294967295 : Int64)) 0 qe) 3 (((4294967295 : Int64) &&& (-4294967296 : Int64)) ||| ((0 : Int32).toInt64))) 0 (qe + (1 : Int64))) 2 (qe + (1 : Int64))) 7 (((4294967295 : Int64) &&& (-4294967296 : Int64)) ||| ((1 : Int32).toInt64))) 4 ((0 : Int64) + (1 : Int64))) 6 ((0 : Int64) + (1 : Int64))) 3 ((((4294967295 : Int64) &&& (-4294967296 : Int64)) ||| ((0 : Int32).toInt64)) ||| (4294967295 : Int64))) 7 ((((4294967295 : Int64) &&& (-4294967296 : Int64)) ||| ((1 : Int32).toInt64)) ||| (4294967295 : Int64))) 0 T38.heap n0 Z38 F_lines_ix A_bl ne_ix_bl o32_g_bl rfl (by decide)) hZ (hw _ (List.mem_of_getElem? (i := 58) rfl)) (hw _ (List.mem_of_getElem? (i := 2) rfl)) (by decide) (by decide)) q40a q40c (g := (mkF m 119 #[.val (.long qe), .second, .val (.long qp), .second, .val (.int di), .val (.long qq), .second, .val (.int fl), .val (.int (1 : Int32)), .val (.int (0 : Int32)), .val (.ref ix), .val (.int (0 : Int32)), .val (.int (1 : Int32)), .unset, .unset, .unset, .unset] [(.int (0 : Int32)), (.ref ix)])) rfl (by rw [hml]; rfl) (Steps.refl _) (argsL := [(.int (0 : Int32))]) (rest := []) (lenOf pd_0_4 rfl) rfl (by show 2 * 0 + _ ≤ _; exact Nat.le_of_eq rfl) (hb hby at_119) (fun _ _ => ⟨rfl, K39q, (by decide : 5 + 0 ≤ _), (by decide : 3272 + 0 ≤ _)⟩)
      dsimp only [Pt.U, Pt.locs, Pt.cells, Pt.slots] at X40 l40 y40 z40 st40 hQ40
      subst l40 y40 z40
      obtain ⟨rfl, N40q, K40q, o40_A_bl⟩ := hQ40
      have N40 := Fr.app N39 N40q
      replace E_ix := E_ix.keep K40q
      replace A_br := A_br.keep K40q (ninS (Ne.symm o32_ne_bl_br) nin0)
      replace A_bq := A_bq.keep K40q (ninS (Ne.symm o32_ne_bl_bq) nin0)
      replace A_bf := A_bf.keep K40q (ninS (Ne.symm o32_ne_bl_bf) nin0)
      replace F_lines_ix := F_lines_ix.keep K40q (ninS ne_ix_bl nin0)
      replace F_records_ix := F_records_ix.keep K40q (ninS ne_ix_bl nin0)
      replace F_runRecords_ix := F_runRecords_ix.keep K40q (ninS ne_ix_bl nin0)
      replace F_runFirsts_ix := F_runFirsts_ix.keep K40q (ninS ne_ix_bl nin0)
      replace F_topics_ix := F_topics_ix.keep K40q (ninS ne_ix_bl nin0)
      replace F_recordCount_ix := F_recordCount_ix.keep K40q (ninS ne_ix_bl nin0)
      replace F_runCount_ix := F_runCount_ix.keep K40q (ninS ne_ix_bl nin0)
      replace F_origin_ix := F_origin_ix.keep K40q (ninS ne_ix_bl nin0)
      have Z40 := Nat.le_trans Z38 K40q.1
      have A_bl := o40_A_bl
      refine Go.step (fun t k => st40.trans k) ?_
      show Go _ _ _ _ _ _ _ (T40.setTop (mkF m 122 #[.val (.long qe), .second, .val (.long qp), .second, .val (.int di), .val (.long qq), .second, .val (.int fl), .val (.int (1 : Int32)), .val (.int (0 : Int32)), .val (.ref ix), .val (.int (0 : Int32)), .val (.int (1 : Int32)), .unset, .unset, .unset, .unset] [(.long ((qe + (1 : Int64)) + ((((((4294967295 : Int64) &&& (-4294967296 : Int64)) ||| ((0 : Int32).toInt64)) ||| (4294967295 : Int64)).toUInt64 >>> ((32 : Int32) &&& 0x3f).toInt64.toUInt64).toInt64)))]))
      refine Go.step (fun t k => XS.lstore X40.here hx rfl (hb hby at_122) rfl (l' := #[.val (.long qe), .second, .val (.long qp), .second, .val (.int di), .val (.long qq), .second, .val (.int fl), .val (.int (1 : Int32)), .val (.int (0 : Int32)), .val (.ref ix), .val (.int (0 : Int32)), .val (.int (1 : Int32)), .val (.long ((qe + (1 : Int64)) + ((((((4294967295 : Int64) &&& (-4294967296 : Int64)) ||| ((0 : Int32).toInt64)) ||| (4294967295 : Int64)).toUInt64 >>> ((32 : Int32) &&& 0x3f).toInt64.toUInt64).toInt64))), .second, .unset, .unset]) rfl k) ?_
      show Go _ _ _ _ _ _ _ (T40.setTop (mkF m 124 #[.val (.long qe), .second, .val (.long qp), .second, .val (.int di), .val (.long qq), .second, .val (.int fl), .val (.int (1 : Int32)), .val (.int (0 : Int32)), .val (.ref ix), .val (.int (0 : Int32)), .val (.int (1 : Int32)), .val (.long ((qe + (1 : Int64)) + ((((((4294967295 : Int64) &&& (-4294967296 : Int64)) ||| ((0 : Int32).toInt64)) ||| (4294967295 : Int64)).toUInt64 >>> ((32 : Int32) &&& 0x3f).toInt64.toUInt64).toInt64))), .second, .unset, .unset] []))
      refine Go.step (fun t k => XS.lload X40.here hx rfl (hb hby at_124) rfl k) ?_
      show Go _ _ _ _ _ _ _ (T40.setTop (mkF m 126 #[.val (.long qe), .second, .val (.long qp), .second, .val (.int di), .val (.long qq), .second, .val (.int fl), .val (.int (1 : Int32)), .val (.int (0 : Int32)), .val (.ref ix), .val (.int (0 : Int32)), .val (.int (1 : Int32)), .val (.long ((qe + (1 : Int64)) + ((((((4294967295 : Int64) &&& (-4294967296 : Int64)) ||| ((0 : Int32).toInt64)) ||| (4294967295 : Int64)).toUInt64 >>> ((32 : Int32) &&& 0x3f).toInt64.toUInt64).toInt64))), .second, .unset, .unset] [(.long ((qe + (1 : Int64)) + ((((((4294967295 : Int64) &&& (-4294967296 : Int64)) ||| ((0 : Int32).toInt64)) ||| (4294967295 : Int64)).toUInt64 >>> ((32 : Int32) &&& 0x3f).toInt64.toUInt64).toInt64)))]))
      refine Go.step (fun t k => XS.lloadN X40.here hx rfl (hb hby at_126) rfl k) ?_
      show Go _ _ _ _ _ _ _ (T40.setTop (mkF m 127 #[.val (.long qe), .second, .val (.long qp), .second, .val (.int di), .val (.long qq), .second, .val (.int fl), .val (.int (1 : Int32)), .val (.int (0 : Int32)), .val (.ref ix), .val (.int (0 : Int32)), .val (.int (1 : Int32)), .val (.long ((qe + (1 : Int64)) + ((((((4294967295 : Int64) &&& (-4294967296 : Int64)) ||| ((0 : Int32).toInt64)) ||| (4294967295 : Int64)).toUInt64 >>> ((32 : Int32) &&& 0x3f).toInt64.toUInt64).toInt64))), .second, .unset, .unset] [(.long qe), (.long ((qe + (1 : Int64)) + ((((((4294967295 : Int64) &&& (-4294967296 : Int64)) ||| ((0 : Int32).toInt64)) ||| (4294967295 : Int64)).toUInt64 >>> ((32 : Int32) &&& 0x3f).toInt64.toUInt64).toInt64)))]))
      refine Go.step (fun t k => XS.lconst X40.here hx rfl (hb hby at_127) k) ?_
      show Go _ _ _ _ _ _ _ (T40.setTop (mkF m 128 #[.val (.long qe), .second, .val (.long qp), .second, .val (.int di), .val (.long qq), .second, .val (.int fl), .val (.int (1 : Int32)), .val (.int (0 : Int32)), .val (.ref ix), .val (.int (0 : Int32)), .val (.int (1 : Int32)), .val (.long ((qe + (1 : Int64)) + ((((((4294967295 : Int64) &&& (-4294967296 : Int64)) ||| ((0 : Int32).toInt64)) ||| (4294967295 : Int64)).toUInt64 >>> ((32 : Int32) &&& 0x3f).toInt64.toUInt64).toInt64))), .second, .unset, .unset] [(.long (1 : Int64)), (.long qe), (.long ((qe + (1 : Int64)) + ((((((4294967295 : Int64) &&& (-4294967296 : Int64)) ||| ((0 : Int32).toInt64)) ||| (4294967295 : Int64)).toUInt64 >>> ((32 : Int32) &&& 0x3f).toInt64.toUInt64).toInt64)))]))
      refine Go.step (fun t k => XS.ladd X40.here hx rfl (hb hby at_128) rfl k) ?_
      show Go _ _ _ _ _ _ _ (T40.setTop (mkF m 129 #[.val (.long qe), .second, .val (.long qp), .second, .val (.int di), .val (.long qq), .second, .val (.int fl), .val (.int (1 : Int32)), .val (.int (0 : Int32)), .val (.ref ix), .val (.int (0 : Int32)), .val (.int (1 : Int32)), .val (.long ((qe + (1 : Int64)) + ((((((4294967295 : Int64) &&& (-4294967296 : Int64)) ||| ((0 : Int32).toInt64)) ||| (4294967295 : Int64)).toUInt64 >>> ((32 : Int32) &&& 0x3f).toInt64.toUInt64).toInt64))), .second, .unset, .unset] [(.long (qe + (1 : Int64))), (.long ((qe + (1 : Int64)) + ((((((4294967295 : Int64) &&& (-4294967296 : Int64)) ||| ((0 : Int32).toInt64)) ||| (4294967295 : Int64)).toUInt64 >>> ((32 : Int32) &&& 0x3f).toInt64.toUInt64).toInt64)))]))
      refine Go.step (fun t k => XS.iload X40.here hx rfl (hb hby at_129) rfl k) ?_
      show Go _ _ _ _ _ _ _ (T40.setTop (mkF m 131 #[.val (.long qe), .second, .val (.long qp), .second, .val (.int di), .val (.long qq), .second, .val (.int fl), .val (.int (1 : Int32)), .val (.int (0 : Int32)), .val (.ref ix), .val (.int (0 : Int32)), .val (.int (1 : Int32)), .val (.long ((qe + (1 : Int64)) + ((((((4294967295 : Int64) &&& (-4294967296 : Int64)) ||| ((0 : Int32).toInt64)) ||| (4294967295 : Int64)).toUInt64 >>> ((32 : Int32) &&& 0x3f).toInt64.toUInt64).toInt64))), .second, .unset, .unset] [(.int (0 : Int32)), (.long (qe + (1 : Int64))), (.long ((qe + (1 : Int64)) + ((((((4294967295 : Int64) &&& (-4294967296 : Int64)) ||| ((0 : Int32).toInt64)) ||| (4294967295 : Int64)).toUInt64 >>> ((32 : Int32) &&& 0x3f).toInt64.toUInt64).toInt64)))]))
      refine Go.step (fun t k => XS.ifYes X40.here hx rfl (pc0 := 131) (pc' := 138) rfl (hb hby at_131) rfl ((if0 _ _).trans (teq (by decide : (0 : Int32) = (0 : Int32))).1) (by decide) (by decide) k) ?_
      show Go _ _ _ _ _ _ _ (T40.setTop (mkF m 138 #[.val (.long qe), .second, .val (.long qp), .second, .val (.int di), .val (.long qq), .second, .val (.int fl), .val (.int (1 : Int32)), .val (.int (0 : Int32)), .val (.ref ix), .val (.int (0 : Int32)), .val (.int (1 : Int32)), .val (.long ((qe + (1 : Int64)) + ((((((4294967295 : Int64) &&& (-4294967296 : Int64)) ||| ((0 : Int32).toInt64)) ||| (4294967295 : Int64)).toUInt64 >>> ((32 : Int32) &&& 0x3f).toInt64.toUInt64).toInt64))), .second, .unset, .unset] [(.long (qe + (1 : Int64))), (.long ((qe + (1 : Int64)) + ((((((4294967295 : Int64) &&& (-4294967296 : Int64)) ||| ((0 : Int32).toInt64)) ||| (4294967295 : Int64)).toUInt64 >>> ((32 : Int32) &&& 0x3f).toInt64.toUInt64).toInt64)))]))
      refine Go.step (fun t k => XS.lconst X40.here hx rfl (hb hby at_138) k) ?_
      show Go _ _ _ _ _ _ _ (T40.setTop (mkF m 139 #[.val (.long qe), .second, .val (.long qp), .second, .val (.int di), .val (.long qq), .second, .val (.int fl), .val (.int (1 : Int32)), .val (.int (0 : Int32)), .val (.ref ix), .val (.int (0 : Int32)), .val (.int (1 : Int32)), .val (.long ((qe + (1 : Int64)) + ((((((4294967295 : Int64) &&& (-4294967296 : Int64)) ||| ((0 : Int32).toInt64)) ||| (4294967295 : Int64)).toUInt64 >>> ((32 : Int32) &&& 0x3f).toInt64.toUInt64).toInt64))), .second, .unset, .unset] [(.long (0 : Int64)), (.long (qe + (1 : Int64))), (.long ((qe + (1 : Int64)) + ((((((4294967295 : Int64) &&& (-4294967296 : Int64)) ||| ((0 : Int32).toInt64)) ||| (4294967295 : Int64)).toUInt64 >>> ((32 : Int32) &&& 0x3f).toInt64.toUInt64).toInt64)))]))
      refine Go.step (fun t k => XS.ladd X40.here hx rfl (hb hby at_139) rfl k) ?_
      show Go _ _ _ _ _ _ _ (T40.setTop (mkF m 140 #[.val (.long qe), .second, .val (.long qp), .second, .val (.int di), .val (.long qq), .second, .val (.int fl), .val (.int (1 : Int32)), .val (.int (0 : Int32)), .val (.ref ix), .val (.int (0 : Int32)), .val (.int (1 : Int32)), .val (.long ((qe + (1 : Int64)) + ((((((4294967295 : Int64) &&& (-4294967296 : Int64)) ||| ((0 : Int32).toInt64)) ||| (4294967295 : Int64)).toUInt64 >>> ((32 : Int32) &&& 0x3f).toInt64.toUInt64).toInt64))), .second, .unset, .unset] [(.long ((qe + (1 : Int64)) + (0 : Int64))), (.long ((qe + (1 : Int64)) + ((((((4294967295 : Int64) &&& (-4294967296 : Int64)) ||| ((0 : Int32).toInt64)) ||| (4294967295 : Int64)).toUInt64 >>> ((32 : Int32) &&& 0x3f).toInt64.toUInt64).toInt64)))]))
      refine Go.step (fun t k => XS.lcmp X40.here hx rfl (hb hby at_140) rfl k) ?_
      show Go _ _ _ _ _ _ _ (T40.setTop (mkF m 141 #[.val (.long qe), .second, .val (.long qp), .second, .val (.int di), .val (.long qq), .second, .val (.int fl), .val (.int (1 : Int32)), .val (.int (0 : Int32)), .val (.ref ix), .val (.int (0 : Int32)), .val (.int (1 : Int32)), .val (.long ((qe + (1 : Int64)) + ((((((4294967295 : Int64) &&& (-4294967296 : Int64)) ||| ((0 : Int32).toInt64)) ||| (4294967295 : Int64)).toUInt64 >>> ((32 : Int32) &&& 0x3f).toInt64.toUInt64).toInt64))), .second, .unset, .unset] [(.int (lcmpW ((qe + (1 : Int64)) + ((((((4294967295 : Int64) &&& (-4294967296 : Int64)) ||| ((0 : Int32).toInt64)) ||| (4294967295 : Int64)).toUInt64 >>> ((32 : Int32) &&& 0x3f).toInt64.toUInt64).toInt64)) ((qe + (1 : Int64)) + (0 : Int64))))]))
      refine Go.step (fun t k => XS.ifYes X40.here hx rfl (pc0 := 141) (pc' := 146) rfl (hb hby at_141) rfl ((if0 _ _).trans (teq (own_lweq (own_a1 (by decide +kernel) : ((qe + (1 : Int64)) + ((((((4294967295 : Int64) &&& (-4294967296 : Int64)) ||| ((0 : Int32).toInt64)) ||| (4294967295 : Int64)).toUInt64 >>> ((32 : Int32) &&& 0x3f).toInt64.toUInt64).toInt64)) = ((qe + (1 : Int64)) + (0 : Int64))))).1) (by decide) (by decide) k) ?_
      show Go _ _ _ _ _ _ _ (T40.setTop (mkF m 146 #[.val (.long qe), .second, .val (.long qp), .second, .val (.int di), .val (.long qq), .second, .val (.int fl), .val (.int (1 : Int32)), .val (.int (0 : Int32)), .val (.ref ix), .val (.int (0 : Int32)), .val (.int (1 : Int32)), .val (.long ((qe + (1 : Int64)) + ((((((4294967295 : Int64) &&& (-4294967296 : Int64)) ||| ((0 : Int32).toInt64)) ||| (4294967295 : Int64)).toUInt64 >>> ((32 : Int32) &&& 0x3f).toInt64.toUInt64).toInt64))), .second, .unset, .unset] []))
      refine Go.step (fun t k => XS.iload X40.here hx rfl (hb hby at_146) rfl k) ?_
      show Go _ _ _ _ _ _ _ (T40.setTop (mkF m 148 #[.val (.long qe), .second, .val (.long qp), .second, .val (.int di), .val (.long qq), .second, .val (.int fl), .val (.int (1 : Int32)), .val (.int (0 : Int32)), .val (.ref ix), .val (.int (0 : Int32)), .val (.int (1 : Int32)), .val (.long ((qe + (1 : Int64)) + ((((((4294967295 : Int64) &&& (-4294967296 : Int64)) ||| ((0 : Int32).toInt64)) ||| (4294967295 : Int64)).toUInt64 >>> ((32 : Int32) &&& 0x3f).toInt64.toUInt64).toInt64))), .second, .unset, .unset] [(.int (1 : Int32))]))
      refine Go.step (fun t k => XS.ifNo X40.here hx rfl (hb hby at_148) rfl ((if0 _ _).trans (feq (by decide : ¬ (1 : Int32) = (0 : Int32))).1) k) ?_
      show Go _ _ _ _ _ _ _ (T40.setTop (mkF m 151 #[.val (.long qe), .second, .val (.long qp), .second, .val (.int di), .val (.long qq), .second, .val (.int fl), .val (.int (1 : Int32)), .val (.int (0 : Int32)), .val (.ref ix), .val (.int (0 : Int32)), .val (.int (1 : Int32)), .val (.long ((qe + (1 : Int64)) + ((((((4294967295 : Int64) &&& (-4294967296 : Int64)) ||| ((0 : Int32).toInt64)) ||| (4294967295 : Int64)).toUInt64 >>> ((32 : Int32) &&& 0x3f).toInt64.toUInt64).toInt64))), .second, .unset, .unset] []))
      refine Go.step (fun t k => XS.lconst X40.here hx rfl (hb hby at_151) k) ?_
      show Go _ _ _ _ _ _ _ (T40.setTop (mkF m 152 #[.val (.long qe), .second, .val (.long qp), .second, .val (.int di), .val (.long qq), .second, .val (.int fl), .val (.int (1 : Int32)), .val (.int (0 : Int32)), .val (.ref ix), .val (.int (0 : Int32)), .val (.int (1 : Int32)), .val (.long ((qe + (1 : Int64)) + ((((((4294967295 : Int64) &&& (-4294967296 : Int64)) ||| ((0 : Int32).toInt64)) ||| (4294967295 : Int64)).toUInt64 >>> ((32 : Int32) &&& 0x3f).toInt64.toUInt64).toInt64))), .second, .unset, .unset] [(.long (1 : Int64))]))
      refine Go.step (fun t k => XS.goto X40.here hx rfl (pc0 := 152) (pc' := 156) rfl (hb hby at_152) (by decide) (by decide) k) ?_
      show Go _ _ _ _ _ _ _ (T40.setTop (mkF m 156 #[.val (.long qe), .second, .val (.long qp), .second, .val (.int di), .val (.long qq), .second, .val (.int fl), .val (.int (1 : Int32)), .val (.int (0 : Int32)), .val (.ref ix), .val (.int (0 : Int32)), .val (.int (1 : Int32)), .val (.long ((qe + (1 : Int64)) + ((((((4294967295 : Int64) &&& (-4294967296 : Int64)) ||| ((0 : Int32).toInt64)) ||| (4294967295 : Int64)).toUInt64 >>> ((32 : Int32) &&& 0x3f).toInt64.toUInt64).toInt64))), .second, .unset, .unset] [(.long (1 : Int64))]))
      refine Go.step (fun t k => XS.lstore X40.here hx rfl (hb hby at_156) rfl (l' := #[.val (.long qe), .second, .val (.long qp), .second, .val (.int di), .val (.long qq), .second, .val (.int fl), .val (.int (1 : Int32)), .val (.int (0 : Int32)), .val (.ref ix), .val (.int (0 : Int32)), .val (.int (1 : Int32)), .val (.long ((qe + (1 : Int64)) + ((((((4294967295 : Int64) &&& (-4294967296 : Int64)) ||| ((0 : Int32).toInt64)) ||| (4294967295 : Int64)).toUInt64 >>> ((32 : Int32) &&& 0x3f).toInt64.toUInt64).toInt64))), .second, .val (.long (1 : Int64)), .second]) rfl k) ?_
      show Go _ _ _ _ _ _ _ (T40.setTop (mkF m 158 #[.val (.long qe), .second, .val (.long qp), .second, .val (.int di), .val (.long qq), .second, .val (.int fl), .val (.int (1 : Int32)), .val (.int (0 : Int32)), .val (.ref ix), .val (.int (0 : Int32)), .val (.int (1 : Int32)), .val (.long ((qe + (1 : Int64)) + ((((((4294967295 : Int64) &&& (-4294967296 : Int64)) ||| ((0 : Int32).toInt64)) ||| (4294967295 : Int64)).toUInt64 >>> ((32 : Int32) &&& 0x3f).toInt64.toUInt64).toInt64))), .second, .val (.long (1 : Int64)), .second] []))
      refine Go.step (fun t k => XS.aload X40.here hx rfl (hb hby at_158) rfl rfl k) ?_
      show Go _ _ _ _ _ _ _ (T40.setTop (mkF m 160 #[.val (.long qe), .second, .val (.long qp), .second, .val (.int di), .val (.long qq), .second, .val (.int fl), .val (.int (1 : Int32)), .val (.int (0 : Int32)), .val (.ref ix), .val (.int (0 : Int32)), .val (.int (1 : Int32)), .val (.long ((qe + (1 : Int64)) + ((((((4294967295 : Int64) &&& (-4294967296 : Int64)) ||| ((0 : Int32).toInt64)) ||| (4294967295 : Int64)).toUInt64 >>> ((32 : Int32) &&& 0x3f).toInt64.toUInt64).toInt64))), .second, .val (.long (1 : Int64)), .second] [(.ref ix)]))
      refine Go.step (fun t k => XS.iload X40.here hx rfl (hb hby at_160) rfl k) ?_
      show Go _ _ _ _ _ _ _ (T40.setTop (mkF m 162 #[.val (.long qe), .second, .val (.long qp), .second, .val (.int di), .val (.long qq), .second, .val (.int fl), .val (.int (1 : Int32)), .val (.int (0 : Int32)), .val (.ref ix), .val (.int (0 : Int32)), .val (.int (1 : Int32)), .val (.long ((qe + (1 : Int64)) + ((((((4294967295 : Int64) &&& (-4294967296 : Int64)) ||| ((0 : Int32).toInt64)) ||| (4294967295 : Int64)).toUInt64 >>> ((32 : Int32) &&& 0x3f).toInt64.toUInt64).toInt64))), .second, .val (.long (1 : Int64)), .second] [(.int (1 : Int32)), (.ref ix)]))
      refine Go.step (fun t k => XS.lload X40.here hx rfl (hb hby at_162) rfl k) ?_
      show Go _ _ _ _ _ _ _ (T40.setTop (mkF m 164 #[.val (.long qe), .second, .val (.long qp), .second, .val (.int di), .val (.long qq), .second, .val (.int fl), .val (.int (1 : Int32)), .val (.int (0 : Int32)), .val (.ref ix), .val (.int (0 : Int32)), .val (.int (1 : Int32)), .val (.long ((qe + (1 : Int64)) + ((((((4294967295 : Int64) &&& (-4294967296 : Int64)) ||| ((0 : Int32).toInt64)) ||| (4294967295 : Int64)).toUInt64 >>> ((32 : Int32) &&& 0x3f).toInt64.toUInt64).toInt64))), .second, .val (.long (1 : Int64)), .second] [(.long qq), (.int (1 : Int32)), (.ref ix)]))
      obtain ⟨cq41, kq41, q41a, q41b, q41c⟩ := isOf hZ rfl E_ix
      obtain ⟨_, _, ⟨T41, L41, k41, n41⟩, -, X41, ⟨Lc41, hQ41, l41, y41, z41⟩, st41⟩ := X40.virtualBack hx (y := (⟨"com/example/ferrylog/ferrylog/store/LiveIndex", "addRecord", "(IJ)V"⟩ : MethodName)) (z := (⟨"com/example/ferrylog/ferrylog/store/LiveIndex", "addRecord", "(IJ)V"⟩ : MethodName)) hown (mvT hZ (hw _ (List.mem_of_getElem? (i := 33) rfl))) (mvT hZ (hw _ (List.mem_of_getElem? (i := 34) rfl))) (notFace_of_selects (args := #[]) (mvT hZ (hw _ (List.mem_of_getElem? (i := 36) rfl)))) (mvT hZ (hw _ (List.mem_of_getElem? (i := 36) rfl))) (mvT hZ (hw _ (List.mem_of_getElem? (i := 35) rfl))) (by decide) (backOf (W := 0) (rm5_0 l Z a0 hw [] ix (1 : Int32) qq bl br bq bf (2 : Int32) (0 : Int32) qp 1 0 (up (up (up (up (up (up (up (up (up (up (up (up (up (up (up (up (fun _ => (0 : Int64)) 0 (0 : Int64)) 1 (-1 : Int64)) 3 (4294967295 : Int64)) 4 (0 : Int64)) 5 (-1 : Int64)) 7 (4294967295 : Int64)) 0 qe) 3 (((4294967295 : Int64) &&& (-4294967296 : Int64)) ||| ((0 : Int32).toInt64))) 0 (qe + (1 : Int64))) 2 (qe + (1 : Int64))) 7 (((4294967295 : Int64) &&& (-4294967296 : Int64)) ||| ((1 : Int32).toInt64))) 4 ((0 : Int64) + (1 : Int64))) 6 ((0 : Int64) + (1 : Int64))) 3 ((((4294967295 : Int64) &&& (-4294967296 : Int64)) ||| ((0 : Int32).toInt64)) ||| (4294967295 : Int64))) 7 ((((4294967295 : Int64) &&& (-4294967296 : Int64)) ||| ((1 : Int32).toInt64)) ||| (4294967295 : Int64))) 3 (((((4294967295 : Int64) &&& (-4294967296 : Int64)) ||| ((0 : Int32).toInt64)) ||| (4294967295 : Int64)) + (4294967296 : Int64))) (up (up (up (up (up (up (fun _ => (0 : Int32)) 0 ((qp - qp).toInt32)) 1 ((0 : Int32) ||| (-2147483648 : Int32))) 2 ((4294967295 : Int64).toInt32)) 3 (((qp + (di.toInt64)) - qp).toInt32)) 4 ((1 : Int32) ||| (-2147483648 : Int32))) 5 ((4294967295 : Int64).toInt32)) (up (up (fun _ => (0 : Int32)) 0 (0 : Int32)) 1 (1 : Int32)) (up (up (fun _ => (0 : Int64)) 0 qe) 1 (0 : Int64)) T40.heap n0 Z40 F_lines_ix F_records_ix F_runRecords_ix F_runFirsts_ix F_topics_ix F_recordCount_ix F_runCount_ix F_origin_ix E_ix g_ix o32_g_bl o32_g_br o32_g_bq o32_g_bf o32_ne_bl_br o32_ne_bl_bq o32_ne_bl_bf o32_ne_br_bq o32_ne_br_bf o32_ne_bq_bf A_bl A_br A_bq A_bf rfl (by decide) rfl (by decide) (show (((((4294967295 : Int64) &&& (-4294967296 : Int64)) ||| ((1 : Int32).toInt64)) ||| (4294967295 : Int64)).toInt32) < (0 : Int32) by decide +kernel) (own_pp qq)) hZ (hw _ (List.mem_of_getElem? (i := 37) rfl)) (hw _ (List.mem_of_getElem? (i := 2) rfl)) (by decide) (by decide)) q41a q41c (g := (mkF m 164 #[.val (.long qe), .second, .val (.long qp), .second, .val (.int di), .val (.long qq), .second, .val (.int fl), .val (.int (1 : Int32)), .val (.int (0 : Int32)), .val (.ref ix), .val (.int (0 : Int32)), .val (.int (1 : Int32)), .val (.long ((qe + (1 : Int64)) + ((((((4294967295 : Int64) &&& (-4294967296 : Int64)) ||| ((0 : Int32).toInt64)) ||| (4294967295 : Int64)).toUInt64 >>> ((32 : Int32) &&& 0x3f).toInt64.toUInt64).toInt64))), .second, .val (.long (1 : Int64)), .second] [(.long qq), (.int (1 : Int32)), (.ref ix)])) rfl (by rw [hml]; rfl) (Steps.refl _) (argsL := [(.int (1 : Int32)), (.long qq)]) (rest := []) (lenOf pd_0_2 rfl) rfl (by show 2 * 0 + _ ≤ _; exact Nat.le_of_eq rfl) (hb hby at_164) (fun _ _ => ⟨rfl, rfl, (by decide : 5 + 0 ≤ _), (by decide : 3272 + 0 ≤ _)⟩)
      dsimp only [Pt.U, Pt.locs, Pt.cells, Pt.slots] at X41 l41 y41 z41 st41 hQ41
      subst l41 y41 z41
      obtain ⟨rfl, N41q, K41q, o41_F_lines_ix, o41_F_records_ix, o41_F_runRecords_ix, o41_F_runFirsts_ix, o41_F_topics_ix, o41_F_recordCount_ix, o41_F_runCount_ix, o41_F_origin_ix, o41_A_bl, o41_A_br, o41_A_bq, o41_A_bf⟩ := hQ41
      have N41 := Fr.app N40 N41q
      replace E_ix := E_ix.keep K41q
      have Z41 := Nat.le_trans Z40 K41q.1
      have F_lines_ix := o41_F_lines_ix
      have F_records_ix := o41_F_records_ix
      have F_runRecords_ix := o41_F_runRecords_ix
      have F_runFirsts_ix := o41_F_runFirsts_ix
      have F_topics_ix := o41_F_topics_ix
      have F_recordCount_ix := o41_F_recordCount_ix
      have F_runCount_ix := o41_F_runCount_ix
      have F_origin_ix := o41_F_origin_ix
      have A_bl := o41_A_bl
      have A_br := o41_A_br
      have A_bq := o41_A_bq
      have A_bf := o41_A_bf
      refine Go.step (fun t k => st41.trans k) ?_
      show Go _ _ _ _ _ _ _ (T41.setTop (mkF m 167 #[.val (.long qe), .second, .val (.long qp), .second, .val (.int di), .val (.long qq), .second, .val (.int fl), .val (.int (1 : Int32)), .val (.int (0 : Int32)), .val (.ref ix), .val (.int (0 : Int32)), .val (.int (1 : Int32)), .val (.long ((qe + (1 : Int64)) + ((((((4294967295 : Int64) &&& (-4294967296 : Int64)) ||| ((0 : Int32).toInt64)) ||| (4294967295 : Int64)).toUInt64 >>> ((32 : Int32) &&& 0x3f).toInt64.toUInt64).toInt64))), .second, .val (.long (1 : Int64)), .second] []))
      refine Go.step (fun t k => XS.aload X41.here hx rfl (hb hby at_167) rfl rfl k) ?_
      show Go _ _ _ _ _ _ _ (T41.setTop (mkF m 169 #[.val (.long qe), .second, .val (.long qp), .second, .val (.int di), .val (.long qq), .second, .val (.int fl), .val (.int (1 : Int32)), .val (.int (0 : Int32)), .val (.ref ix), .val (.int (0 : Int32)), .val (.int (1 : Int32)), .val (.long ((qe + (1 : Int64)) + ((((((4294967295 : Int64) &&& (-4294967296 : Int64)) ||| ((0 : Int32).toInt64)) ||| (4294967295 : Int64)).toUInt64 >>> ((32 : Int32) &&& 0x3f).toInt64.toUInt64).toInt64))), .second, .val (.long (1 : Int64)), .second] [(.ref ix)]))
      refine Go.step (fun t k => XS.iload X41.here hx rfl (hb hby at_169) rfl k) ?_
      show Go _ _ _ _ _ _ _ (T41.setTop (mkF m 171 #[.val (.long qe), .second, .val (.long qp), .second, .val (.int di), .val (.long qq), .second, .val (.int fl), .val (.int (1 : Int32)), .val (.int (0 : Int32)), .val (.ref ix), .val (.int (0 : Int32)), .val (.int (1 : Int32)), .val (.long ((qe + (1 : Int64)) + ((((((4294967295 : Int64) &&& (-4294967296 : Int64)) ||| ((0 : Int32).toInt64)) ||| (4294967295 : Int64)).toUInt64 >>> ((32 : Int32) &&& 0x3f).toInt64.toUInt64).toInt64))), .second, .val (.long (1 : Int64)), .second] [(.int (1 : Int32)), (.ref ix)]))
      obtain ⟨cq42, kq42, q42a, q42b, q42c⟩ := isOf hZ rfl E_ix
      obtain ⟨_, _, ⟨T42, L42, k42, n42⟩, -, X42, ⟨Lc42, hQ42, l42, y42, z42⟩, st42⟩ := X41.virtualBack hx (y := (⟨"com/example/ferrylog/ferrylog/store/LiveIndex", "last", "(I)I"⟩ : MethodName)) (z := (⟨"com/example/ferrylog/ferrylog/store/LiveIndex", "last", "(I)I"⟩ : MethodName)) hown (mvT hZ (hw _ (List.mem_of_getElem? (i := 65) rfl))) (mvT hZ (hw _ (List.mem_of_getElem? (i := 66) rfl))) (notFace_of_selects (args := #[]) (mvT hZ (hw _ (List.mem_of_getElem? (i := 68) rfl)))) (mvT hZ (hw _ (List.mem_of_getElem? (i := 68) rfl))) (mvT hZ (hw _ (List.mem_of_getElem? (i := 67) rfl))) (by decide) (backOf (W := 0) (rm10 l Z a0 hw [] ix (1 : Int32) bl (up (up (up (up (up (up (up (up (up (up (up (up (up (up (up (up (up (up (up (fun _ => (0 : Int64)) 0 (0 : Int64)) 1 (-1 : Int64)) 3 (4294967295 : Int64)) 4 (0 : Int64)) 5 (-1 : Int64)) 7 (4294967295 : Int64)) 0 qe) 3 (((4294967295 : Int64) &&& (-4294967296 : Int64)) ||| ((0 : Int32).toInt64))) 0 (qe + (1 : Int64))) 2 (qe + (1 : Int64))) 7 (((4294967295 : Int64) &&& (-4294967296 : Int64)) ||| ((1 : Int32).toInt64))) 4 ((0 : Int64) + (1 : Int64))) 6 ((0 : Int64) + (1 : Int64))) 3 ((((4294967295 : Int64) &&& (-4294967296 : Int64)) ||| ((0 : Int32).toInt64)) ||| (4294967295 : Int64))) 7 ((((4294967295 : Int64) &&& (-4294967296 : Int64)) ||| ((1 : Int32).toInt64)) ||| (4294967295 : Int64))) 3 (((((4294967295 : Int64) &&& (-4294967296 : Int64)) ||| ((0 : Int32).toInt64)) ||| (4294967295 : Int64)) + (4294967296 : Int64))) 7 ((((((4294967295 : Int64) &&& (-4294967296 : Int64)) ||| ((1 : Int32).toInt64)) ||| (4294967295 : Int64)) &&& (-4294967296 : Int64)) ||| ((0 : Int32).toInt64))) 4 (((0 : Int64) + (1 : Int64)) + (1 : Int64))) 6 (((0 : Int64) + (1 : Int64)) + (1 : Int64))) 1 T41.heap n0 Z41 F_lines_ix A_bl ne_ix_bl rfl (by decide)) hZ (hw _ (List.mem_of_getElem? (i := 69) rfl)) (hw _ (List.mem_of_getElem? (i := 2) rfl)) (by decide) (by decide)) q42a q42c (g := (mkF m 171 #[.val (.long qe), .second, .val (.long qp), .second, .val (.int di), .val (.long qq), .second, .val (.int fl), .val (.int (1 : Int32)), .val (.int (0 : Int32)), .val (.ref ix), .val (.int (0 : Int32)), .val (.int (1 : Int32)), .val (.long ((qe + (1 : Int64)) + ((((((4294967295 : Int64) &&& (-4294967296 : Int64)) ||| ((0 : Int32).toInt64)) ||| (4294967295 : Int64)).toUInt64 >>> ((32 : Int32) &&& 0x3f).toInt64.toUInt64).toInt64))), .second, .val (.long (1 : Int64)), .second] [(.int (1 : Int32)), (.ref ix)])) rfl (by rw [hml]; rfl) (Steps.refl _) (argsL := [(.int (1 : Int32))]) (rest := []) (lenOf pd_0_3 rfl) rfl (by show 2 * 0 + _ ≤ _; exact Nat.le_of_eq rfl) (hb hby at_171) (fun _ _ => ⟨rfl, rfl, (by decide : 5 + 0 ≤ _), (by decide : 3272 + 0 ≤ _)⟩)
      dsimp only [Pt.U, Pt.locs, Pt.cells, Pt.slots] at X42 l42 y42 z42 st42 hQ42
      subst l42 y42 z42
      obtain ⟨rfl, N42q, K42q⟩ := hQ42
      have N42 := Fr.app N41 N42q
      refine Go.step (fun t k => st42.trans k) ?_
      show Go _ _ _ _ _ _ _ (T42.setTop (mkF m 174 #[.val (.long qe), .second, .val (.long qp), .second, .val (.int di), .val (.long qq), .second, .val (.int fl), .val (.int (1 : Int32)), .val (.int (0 : Int32)), .val (.ref ix), .val (.int (0 : Int32)), .val (.int (1 : Int32)), .val (.long ((qe + (1 : Int64)) + ((((((4294967295 : Int64) &&& (-4294967296 : Int64)) ||| ((0 : Int32).toInt64)) ||| (4294967295 : Int64)).toUInt64 >>> ((32 : Int32) &&& 0x3f).toInt64.toUInt64).toInt64))), .second, .val (.long (1 : Int64)), .second] [(.int (((((((4294967295 : Int64) &&& (-4294967296 : Int64)) ||| ((1 : Int32).toInt64)) ||| (4294967295 : Int64)) &&& (-4294967296 : Int64)) ||| ((0 : Int32).toInt64)).toInt32))]))
      refine Go.step (fun t k => XS.ifYes X42.here hx rfl (pc0 := 174) (pc' := 179) rfl (hb hby at_174) rfl ((if0 _ _).trans (teq ((by decide +kernel) : (((((((4294967295 : Int64) &&& (-4294967296 : Int64)) ||| ((1 : Int32).toInt64)) ||| (4294967295 : Int64)) &&& (-4294967296 : Int64)) ||| ((0 : Int32).toInt64)).toInt32) = (0 : Int32))).1) (by decide) (by decide) k) ?_
      show Go _ _ _ _ _ _ _ (T42.setTop (mkF m 179 #[.val (.long qe), .second, .val (.long qp), .second, .val (.int di), .val (.long qq), .second, .val (.int fl), .val (.int (1 : Int32)), .val (.int (0 : Int32)), .val (.ref ix), .val (.int (0 : Int32)), .val (.int (1 : Int32)), .val (.long ((qe + (1 : Int64)) + ((((((4294967295 : Int64) &&& (-4294967296 : Int64)) ||| ((0 : Int32).toInt64)) ||| (4294967295 : Int64)).toUInt64 >>> ((32 : Int32) &&& 0x3f).toInt64.toUInt64).toInt64))), .second, .val (.long (1 : Int64)), .second] []))
      refine Go.step (fun t k => XS.aload X42.here hx rfl (hb hby at_179) rfl rfl k) ?_
      show Go _ _ _ _ _ _ _ (T42.setTop (mkF m 181 #[.val (.long qe), .second, .val (.long qp), .second, .val (.int di), .val (.long qq), .second, .val (.int fl), .val (.int (1 : Int32)), .val (.int (0 : Int32)), .val (.ref ix), .val (.int (0 : Int32)), .val (.int (1 : Int32)), .val (.long ((qe + (1 : Int64)) + ((((((4294967295 : Int64) &&& (-4294967296 : Int64)) ||| ((0 : Int32).toInt64)) ||| (4294967295 : Int64)).toUInt64 >>> ((32 : Int32) &&& 0x3f).toInt64.toUInt64).toInt64))), .second, .val (.long (1 : Int64)), .second] [(.ref ix)]))
      refine Go.step (fun t k => XS.iconst X42.here hx rfl (hb hby at_181) k) ?_
      show Go _ _ _ _ _ _ _ (T42.setTop (mkF m 182 #[.val (.long qe), .second, .val (.long qp), .second, .val (.int di), .val (.long qq), .second, .val (.int fl), .val (.int (1 : Int32)), .val (.int (0 : Int32)), .val (.ref ix), .val (.int (0 : Int32)), .val (.int (1 : Int32)), .val (.long ((qe + (1 : Int64)) + ((((((4294967295 : Int64) &&& (-4294967296 : Int64)) ||| ((0 : Int32).toInt64)) ||| (4294967295 : Int64)).toUInt64 >>> ((32 : Int32) &&& 0x3f).toInt64.toUInt64).toInt64))), .second, .val (.long (1 : Int64)), .second] [(.int (0 : Int32)), (.ref ix)]))
      obtain ⟨cq43, kq43, q43a, q43b, q43c⟩ := isOf hZ K42q E_ix
      obtain ⟨_, _, ⟨T43, L43, k43, n43⟩, -, X43, ⟨Lc43, hQ43, l43, y43, z43⟩, st43⟩ := X42.virtualBack hx (y := (⟨"com/example/ferrylog/ferrylog/store/LiveIndex", "before", "(I)I"⟩ : MethodName)) (z := (⟨"com/example/ferrylog/ferrylog/store/LiveIndex", "before", "(I)I"⟩ : MethodName)) hown (mvT hZ (hw _ (List.mem_of_getElem? (i := 70) rfl))) (mvT hZ (hw _ (List.mem_of_getElem? (i := 71) rfl))) (notFace_of_selects (args := #[]) (mvT hZ (hw _ (List.mem_of_getElem? (i := 73) rfl)))) (mvT hZ (hw _ (List.mem_of_getElem? (i := 73) rfl))) (mvT hZ (hw _ (List.mem_of_getElem? (i := 72) rfl))) (by decide) (backOf (W := 0) (rm11 l Z a0 hw [] ix br (up (up (up (up (up (up (up (up (up (fun _ => (0 : Int32)) 0 ((qp - qp).toInt32)) 1 ((0 : Int32) ||| (-2147483648 : Int32))) 2 ((4294967295 : Int64).toInt32)) 3 (((qp + (di.toInt64)) - qp).toInt32)) 4 ((1 : Int32) ||| (-2147483648 : Int32))) 5 ((4294967295 : Int64).toInt32)) 0 ((qq - qq).toInt32)) 1 ((1 : Int32) ||| (-2147483648 : Int32))) 2 (((((4294967295 : Int64) &&& (-4294967296 : Int64)) ||| ((1 : Int32).toInt64)) ||| (4294967295 : Int64)).toInt32)) T41.heap n0 Z41 F_records_ix A_br) hZ (hw _ (List.mem_of_getElem? (i := 74) rfl)) (hw _ (List.mem_of_getElem? (i := 2) rfl)) (by decide) (by decide)) q43a q43c (g := (mkF m 182 #[.val (.long qe), .second, .val (.long qp), .second, .val (.int di), .val (.long qq), .second, .val (.int fl), .val (.int (1 : Int32)), .val (.int (0 : Int32)), .val (.ref ix), .val (.int (0 : Int32)), .val (.int (1 : Int32)), .val (.long ((qe + (1 : Int64)) + ((((((4294967295 : Int64) &&& (-4294967296 : Int64)) ||| ((0 : Int32).toInt64)) ||| (4294967295 : Int64)).toUInt64 >>> ((32 : Int32) &&& 0x3f).toInt64.toUInt64).toInt64))), .second, .val (.long (1 : Int64)), .second] [(.int (0 : Int32)), (.ref ix)])) rfl (by rw [hml]; rfl) (Steps.refl _) (argsL := [(.int (0 : Int32))]) (rest := []) (lenOf pd_0_3 rfl) rfl (by show 2 * 0 + _ ≤ _; exact Nat.le_of_eq rfl) (hb hby at_182) (fun _ _ => ⟨rfl, K42q, (by decide : 5 + 0 ≤ _), (by decide : 3272 + 0 ≤ _)⟩)
      dsimp only [Pt.U, Pt.locs, Pt.cells, Pt.slots] at X43 l43 y43 z43 st43 hQ43
      subst l43 y43 z43
      obtain ⟨rfl, N43q, K43q⟩ := hQ43
      have N43 := Fr.app N42 N43q
      refine Go.step (fun t k => st43.trans k) ?_
      show Go _ _ _ _ _ _ _ (T43.setTop (mkF m 185 #[.val (.long qe), .second, .val (.long qp), .second, .val (.int di), .val (.long qq), .second, .val (.int fl), .val (.int (1 : Int32)), .val (.int (0 : Int32)), .val (.ref ix), .val (.int (0 : Int32)), .val (.int (1 : Int32)), .val (.long ((qe + (1 : Int64)) + ((((((4294967295 : Int64) &&& (-4294967296 : Int64)) ||| ((0 : Int32).toInt64)) ||| (4294967295 : Int64)).toUInt64 >>> ((32 : Int32) &&& 0x3f).toInt64.toUInt64).toInt64))), .second, .val (.long (1 : Int64)), .second] [(.int (((((4294967295 : Int64) &&& (-4294967296 : Int64)) ||| ((1 : Int32).toInt64)) ||| (4294967295 : Int64)).toInt32))]))
      refine Go.step (fun t k => XS.iconst X43.here hx rfl (hb hby at_185) k) ?_
      show Go _ _ _ _ _ _ _ (T43.setTop (mkF m 186 #[.val (.long qe), .second, .val (.long qp), .second, .val (.int di), .val (.long qq), .second, .val (.int fl), .val (.int (1 : Int32)), .val (.int (0 : Int32)), .val (.ref ix), .val (.int (0 : Int32)), .val (.int (1 : Int32)), .val (.long ((qe + (1 : Int64)) + ((((((4294967295 : Int64) &&& (-4294967296 : Int64)) ||| ((0 : Int32).toInt64)) ||| (4294967295 : Int64)).toUInt64 >>> ((32 : Int32) &&& 0x3f).toInt64.toUInt64).toInt64))), .second, .val (.long (1 : Int64)), .second] [(.int (-1 : Int32)), (.int (((((4294967295 : Int64) &&& (-4294967296 : Int64)) ||| ((1 : Int32).toInt64)) ||| (4294967295 : Int64)).toInt32))]))
      refine Go.step (fun t k => XS.icmpYes X43.here hx rfl (pc0 := 186) (pc' := 191) rfl (hb hby at_186) rfl (teq ((by decide +kernel) : (((((4294967295 : Int64) &&& (-4294967296 : Int64)) ||| ((1 : Int32).toInt64)) ||| (4294967295 : Int64)).toInt32) = (-1 : Int32))).1 (by decide) (by decide) k) ?_
      show Go _ _ _ _ _ _ _ (T43.setTop (mkF m 191 #[.val (.long qe), .second, .val (.long qp), .second, .val (.int di), .val (.long qq), .second, .val (.int fl), .val (.int (1 : Int32)), .val (.int (0 : Int32)), .val (.ref ix), .val (.int (0 : Int32)), .val (.int (1 : Int32)), .val (.long ((qe + (1 : Int64)) + ((((((4294967295 : Int64) &&& (-4294967296 : Int64)) ||| ((0 : Int32).toInt64)) ||| (4294967295 : Int64)).toUInt64 >>> ((32 : Int32) &&& 0x3f).toInt64.toUInt64).toInt64))), .second, .val (.long (1 : Int64)), .second] []))
      refine Go.step (fun t k => XS.aload X43.here hx rfl (hb hby at_191) rfl rfl k) ?_
      show Go _ _ _ _ _ _ _ (T43.setTop (mkF m 193 #[.val (.long qe), .second, .val (.long qp), .second, .val (.int di), .val (.long qq), .second, .val (.int fl), .val (.int (1 : Int32)), .val (.int (0 : Int32)), .val (.ref ix), .val (.int (0 : Int32)), .val (.int (1 : Int32)), .val (.long ((qe + (1 : Int64)) + ((((((4294967295 : Int64) &&& (-4294967296 : Int64)) ||| ((0 : Int32).toInt64)) ||| (4294967295 : Int64)).toUInt64 >>> ((32 : Int32) &&& 0x3f).toInt64.toUInt64).toInt64))), .second, .val (.long (1 : Int64)), .second] [(.ref ix)]))
      refine Go.step (fun t k => XS.iconst X43.here hx rfl (hb hby at_193) k) ?_
      show Go _ _ _ _ _ _ _ (T43.setTop (mkF m 194 #[.val (.long qe), .second, .val (.long qp), .second, .val (.int di), .val (.long qq), .second, .val (.int fl), .val (.int (1 : Int32)), .val (.int (0 : Int32)), .val (.ref ix), .val (.int (0 : Int32)), .val (.int (1 : Int32)), .val (.long ((qe + (1 : Int64)) + ((((((4294967295 : Int64) &&& (-4294967296 : Int64)) ||| ((0 : Int32).toInt64)) ||| (4294967295 : Int64)).toUInt64 >>> ((32 : Int32) &&& 0x3f).toInt64.toUInt64).toInt64))), .second, .val (.long (1 : Int64)), .second] [(.int (0 : Int32)), (.ref ix)]))
      obtain ⟨cq44, kq44, q44a, q44b, q44c⟩ := isOf hZ K43q E_ix
      obtain ⟨_, _, ⟨T44, L44, k44, n44⟩, -, X44, ⟨Lc44, hQ44, l44, y44, z44⟩, st44⟩ := X43.virtualBack hx (y := (⟨"com/example/ferrylog/ferrylog/store/LiveIndex", "runFirst", "(I)J"⟩ : MethodName)) (z := (⟨"com/example/ferrylog/ferrylog/store/LiveIndex", "runFirst", "(I)J"⟩ : MethodName)) hown (mvT hZ (hw _ (List.mem_of_getElem? (i := 75) rfl))) (mvT hZ (hw _ (List.mem_of_getElem? (i := 76) rfl))) (notFace_of_selects (args := #[]) (mvT hZ (hw _ (List.mem_of_getElem? (i := 78) rfl)))) (mvT hZ (hw _ (List.mem_of_getElem? (i := 78) rfl))) (mvT hZ (hw _ (List.mem_of_getElem? (i := 77) rfl))) (by decide) (backOf (W := 0) (rm12 l Z a0 hw [] ix bq bf (up (up (up (fun _ => (0 : Int32)) 0 (0 : Int32)) 1 (1 : Int32)) 0 (0 : Int32)) (up (up (up (fun _ => (0 : Int64)) 0 qe) 1 (0 : Int64)) 0 ((0 : Int64) + (1 : Int64))) T41.heap n0 Z41 F_runFirsts_ix F_runRecords_ix F_runCount_ix A_bq A_bf rfl) hZ (hw _ (List.mem_of_getElem? (i := 79) rfl)) (hw _ (List.mem_of_getElem? (i := 2) rfl)) (by decide) (by decide)) q44a q44c (g := (mkF m 194 #[.val (.long qe), .second, .val (.long qp), .second, .val (.int di), .val (.long qq), .second, .val (.int fl), .val (.int (1 : Int32)), .val (.int (0 : Int32)), .val (.ref ix), .val (.int (0 : Int32)), .val (.int (1 : Int32)), .val (.long ((qe + (1 : Int64)) + ((((((4294967295 : Int64) &&& (-4294967296 : Int64)) ||| ((0 : Int32).toInt64)) ||| (4294967295 : Int64)).toUInt64 >>> ((32 : Int32) &&& 0x3f).toInt64.toUInt64).toInt64))), .second, .val (.long (1 : Int64)), .second] [(.int (0 : Int32)), (.ref ix)])) rfl (by rw [hml]; rfl) (Steps.refl _) (argsL := [(.int (0 : Int32))]) (rest := []) (lenOf pd_0_4 rfl) rfl (by show 2 * 0 + _ ≤ _; exact Nat.le_of_eq rfl) (hb hby at_194) (fun _ _ => ⟨rfl, K43q, (by decide : 5 + 0 ≤ _), (by decide : 3272 + 0 ≤ _)⟩)
      dsimp only [Pt.U, Pt.locs, Pt.cells, Pt.slots] at X44 l44 y44 z44 st44 hQ44
      subst l44 y44 z44
      obtain ⟨rfl, N44q, K44q⟩ := hQ44
      have N44 := Fr.app N43 N44q
      refine Go.step (fun t k => st44.trans k) ?_
      show Go _ _ _ _ _ _ _ (T44.setTop (mkF m 197 #[.val (.long qe), .second, .val (.long qp), .second, .val (.int di), .val (.long qq), .second, .val (.int fl), .val (.int (1 : Int32)), .val (.int (0 : Int32)), .val (.ref ix), .val (.int (0 : Int32)), .val (.int (1 : Int32)), .val (.long ((qe + (1 : Int64)) + ((((((4294967295 : Int64) &&& (-4294967296 : Int64)) ||| ((0 : Int32).toInt64)) ||| (4294967295 : Int64)).toUInt64 >>> ((32 : Int32) &&& 0x3f).toInt64.toUInt64).toInt64))), .second, .val (.long (1 : Int64)), .second] [(.long ((0 : Int64) + (1 : Int64)))]))
      refine Go.step (fun t k => XS.lload X44.here hx rfl (hb hby at_197) rfl k) ?_
      show Go _ _ _ _ _ _ _ (T44.setTop (mkF m 199 #[.val (.long qe), .second, .val (.long qp), .second, .val (.int di), .val (.long qq), .second, .val (.int fl), .val (.int (1 : Int32)), .val (.int (0 : Int32)), .val (.ref ix), .val (.int (0 : Int32)), .val (.int (1 : Int32)), .val (.long ((qe + (1 : Int64)) + ((((((4294967295 : Int64) &&& (-4294967296 : Int64)) ||| ((0 : Int32).toInt64)) ||| (4294967295 : Int64)).toUInt64 >>> ((32 : Int32) &&& 0x3f).toInt64.toUInt64).toInt64))), .second, .val (.long (1 : Int64)), .second] [(.long (1 : Int64)), (.long ((0 : Int64) + (1 : Int64)))]))
      refine Go.step (fun t k => XS.lcmp X44.here hx rfl (hb hby at_199) rfl k) ?_
      show Go _ _ _ _ _ _ _ (T44.setTop (mkF m 200 #[.val (.long qe), .second, .val (.long qp), .second, .val (.int di), .val (.long qq), .second, .val (.int fl), .val (.int (1 : Int32)), .val (.int (0 : Int32)), .val (.ref ix), .val (.int (0 : Int32)), .val (.int (1 : Int32)), .val (.long ((qe + (1 : Int64)) + ((((((4294967295 : Int64) &&& (-4294967296 : Int64)) ||| ((0 : Int32).toInt64)) ||| (4294967295 : Int64)).toUInt64 >>> ((32 : Int32) &&& 0x3f).toInt64.toUInt64).toInt64))), .second, .val (.long (1 : Int64)), .second] [(.int (lcmpW ((0 : Int64) + (1 : Int64)) (1 : Int64)))]))
      refine Go.step (fun t k => XS.ifNo X44.here hx rfl (hb hby at_200) rfl ((if0 _ _).trans (teq (own_lweq ((by decide +kernel) : ((0 : Int64) + (1 : Int64)) = (1 : Int64)))).2) k) ?_
      show Go _ _ _ _ _ _ _ (T44.setTop (mkF m 203 #[.val (.long qe), .second, .val (.long qp), .second, .val (.int di), .val (.long qq), .second, .val (.int fl), .val (.int (1 : Int32)), .val (.int (0 : Int32)), .val (.ref ix), .val (.int (0 : Int32)), .val (.int (1 : Int32)), .val (.long ((qe + (1 : Int64)) + ((((((4294967295 : Int64) &&& (-4294967296 : Int64)) ||| ((0 : Int32).toInt64)) ||| (4294967295 : Int64)).toUInt64 >>> ((32 : Int32) &&& 0x3f).toInt64.toUInt64).toInt64))), .second, .val (.long (1 : Int64)), .second] []))
      refine Go.step (fun t k => XS.iconst X44.here hx rfl (hb hby at_203) k) ?_
      show Go _ _ _ _ _ _ _ (T44.setTop (mkF m 204 #[.val (.long qe), .second, .val (.long qp), .second, .val (.int di), .val (.long qq), .second, .val (.int fl), .val (.int (1 : Int32)), .val (.int (0 : Int32)), .val (.ref ix), .val (.int (0 : Int32)), .val (.int (1 : Int32)), .val (.long ((qe + (1 : Int64)) + ((((((4294967295 : Int64) &&& (-4294967296 : Int64)) ||| ((0 : Int32).toInt64)) ||| (4294967295 : Int64)).toUInt64 >>> ((32 : Int32) &&& 0x3f).toInt64.toUInt64).toInt64))), .second, .val (.long (1 : Int64)), .second] [(.int (1 : Int32))]))
      refine Go.step (fun t k => XS.goto X44.here hx rfl (pc0 := 204) (pc' := 208) rfl (hb hby at_204) (by decide) (by decide) k) ?_
      show Go _ _ _ _ _ _ _ (T44.setTop (mkF m 208 #[.val (.long qe), .second, .val (.long qp), .second, .val (.int di), .val (.long qq), .second, .val (.int fl), .val (.int (1 : Int32)), .val (.int (0 : Int32)), .val (.ref ix), .val (.int (0 : Int32)), .val (.int (1 : Int32)), .val (.long ((qe + (1 : Int64)) + ((((((4294967295 : Int64) &&& (-4294967296 : Int64)) ||| ((0 : Int32).toInt64)) ||| (4294967295 : Int64)).toUInt64 >>> ((32 : Int32) &&& 0x3f).toInt64.toUInt64).toInt64))), .second, .val (.long (1 : Int64)), .second] [(.int (1 : Int32))]))
      refine Go.retN X44 Bd.notSynchronized hx (t := .boolean) Bd.returns (by simp) (hb hby at_208) (by decide) (by decide) (1 : Int32) rfl ?_
      rw [K44q]
      exact ⟨rfl, N44⟩
    · refine Go.step (fun t k => XS.ifNo X0.here hx rfl (hb hby at_18) rfl ((if0 _ _).trans (feq hc18_30).1) k) ?_
      show Go _ _ _ _ _ _ _ (s₁.setTop (mkF m 21 #[.val (.long qe), .second, .val (.long qp), .second, .val (.int di), .val (.long qq), .second, .val (.int fl), .val (.int (1 : Int32)), .unset, .unset, .unset, .unset, .unset, .unset, .unset, .unset] []))
      refine Go.step (fun t k => XS.iconst X0.here hx rfl (hb hby at_21) k) ?_
      show Go _ _ _ _ _ _ _ (s₁.setTop (mkF m 22 #[.val (.long qe), .second, .val (.long qp), .second, .val (.int di), .val (.long qq), .second, .val (.int fl), .val (.int (1 : Int32)), .unset, .unset, .unset, .unset, .unset, .unset, .unset, .unset] [(.int (1 : Int32))]))
      refine Go.step (fun t k => XS.goto X0.here hx rfl (pc0 := 22) (pc' := 26) rfl (hb hby at_22) (by decide) (by decide) k) ?_
      show Go _ _ _ _ _ _ _ (s₁.setTop (mkF m 26 #[.val (.long qe), .second, .val (.long qp), .second, .val (.int di), .val (.long qq), .second, .val (.int fl), .val (.int (1 : Int32)), .unset, .unset, .unset, .unset, .unset, .unset, .unset, .unset] [(.int (1 : Int32))]))
      refine Go.step (fun t k => XS.istore X0.here hx rfl (hb hby at_26) rfl (l' := #[.val (.long qe), .second, .val (.long qp), .second, .val (.int di), .val (.long qq), .second, .val (.int fl), .val (.int (1 : Int32)), .val (.int (1 : Int32)), .unset, .unset, .unset, .unset, .unset, .unset, .unset]) rfl k) ?_
      show Go _ _ _ _ _ _ _ (s₁.setTop (mkF m 28 #[.val (.long qe), .second, .val (.long qp), .second, .val (.int di), .val (.long qq), .second, .val (.int fl), .val (.int (1 : Int32)), .val (.int (1 : Int32)), .unset, .unset, .unset, .unset, .unset, .unset, .unset] []))
      obtain ⟨T45, h45, X45, e45, E45, A45, D45, -, st45⟩ := newO X0 hx hZ hown (hw _ (List.mem_of_getElem? (i := 0) rfl)) (hw _ (List.mem_of_getElem? (i := 1) rfl)) (hw _ (List.mem_of_getElem? (i := 2) rfl)) e0 (g := (mkF m 28 #[.val (.long qe), .second, .val (.long qp), .second, .val (.int di), .val (.long qq), .second, .val (.int fl), .val (.int (1 : Int32)), .val (.int (1 : Int32)), .unset, .unset, .unset, .unset, .unset, .unset, .unset] [])) rfl (hb hby at_28) (by decide) (by decide)
      obtain ⟨ix, gz45⟩ : ∃ z, z = h0.size := ⟨_, rfl⟩
      have g_ix : n0 ≤ ix := Nat.le_trans Z0 (Nat.le_of_eq gz45.symm)
      rw [← gz45] at A45 D45 st45
      have Z45 := Nat.le_trans Z0 E45.1
      have E_ix := A45
      have F_lines_ix : Fld Z h45 ix "com/example/ferrylog/ferrylog/store/LiveIndex" "lines" "[J" .null := D45 (Or.inl (hw _ (List.mem_of_getElem? (i := 11) rfl))) (ty := (.array .long)) (by decide)
      have F_records_ix : Fld Z h45 ix "com/example/ferrylog/ferrylog/store/LiveIndex" "records" "[I" .null := D45 (Or.inl (hw _ (List.mem_of_getElem? (i := 14) rfl))) (ty := (.array .int)) (by decide)
      have F_runRecords_ix : Fld Z h45 ix "com/example/ferrylog/ferrylog/store/LiveIndex" "runRecords" "[I" .null := D45 (Or.inl (hw _ (List.mem_of_getElem? (i := 16) rfl))) (ty := (.array .int)) (by decide)
      have F_runFirsts_ix : Fld Z h45 ix "com/example/ferrylog/ferrylog/store/LiveIndex" "runFirsts" "[J" .null := D45 (Or.inl (hw _ (List.mem_of_getElem? (i := 18) rfl))) (ty := (.array .long)) (by decide)
      have F_topics_ix : Fld Z h45 ix "com/example/ferrylog/ferrylog/store/LiveIndex" "topics" "I" (.int (0 : Int32)) := D45 (Or.inl (hw _ (List.mem_of_getElem? (i := 25) rfl))) (ty := .int) (by decide)
      have F_recordCount_ix : Fld Z h45 ix "com/example/ferrylog/ferrylog/store/LiveIndex" "recordCount" "I" (.int (0 : Int32)) := D45 (Or.inl (hw _ (List.mem_of_getElem? (i := 39) rfl))) (ty := .int) (by decide)
      have F_origin_ix : Fld Z h45 ix "com/example/ferrylog/ferrylog/store/LiveIndex" "origin" "J" (.long (0 : Int64)) := D45 (Or.inl (hw _ (List.mem_of_getElem? (i := 41) rfl))) (ty := .long) (by decide)
      have F_runCount_ix : Fld Z h45 ix "com/example/ferrylog/ferrylog/store/LiveIndex" "runCount" "I" (.int (0 : Int32)) := D45 (Or.inl (hw _ (List.mem_of_getElem? (i := 52) rfl))) (ty := .int) (by decide)
      refine Go.step st45 ?_
      show Go _ _ _ _ _ _ _ (T45.setTop (mkF m 31 #[.val (.long qe), .second, .val (.long qp), .second, .val (.int di), .val (.long qq), .second, .val (.int fl), .val (.int (1 : Int32)), .val (.int (1 : Int32)), .unset, .unset, .unset, .unset, .unset, .unset, .unset] [(.ref ix)]))
      refine Go.step (fun t k => XS.dup X45.here hx rfl (hb hby at_31) rfl rfl k) ?_
      show Go _ _ _ _ _ _ _ (T45.setTop (mkF m 32 #[.val (.long qe), .second, .val (.long qp), .second, .val (.int di), .val (.long qq), .second, .val (.int fl), .val (.int (1 : Int32)), .val (.int (1 : Int32)), .unset, .unset, .unset, .unset, .unset, .unset, .unset] [(.ref ix), (.ref ix)]))
      obtain ⟨_, _, ⟨T46, L46, k46, n46⟩, -, X46, ⟨Lc46, hQ46, l46, y46, z46⟩, st46⟩ := X45.specialBack hx (y := (⟨"com/example/ferrylog/ferrylog/store/LiveIndex", "<init>", "()V"⟩ : MethodName)) rfl hown (mvT hZ (hw _ (List.mem_of_getElem? (i := 3) rfl))) (mvT hZ (hw _ (List.mem_of_getElem? (i := 4) rfl))) (mvT hZ (hw _ (List.mem_of_getElem? (i := 5) rfl))) (by decide) (backOf (W := 1) (rm1 l Z a0 hw [] ix h45 n0 Z45 F_lines_ix F_records_ix F_runRecords_ix F_runFirsts_ix F_topics_ix F_recordCount_ix F_runCount_ix F_origin_ix E_ix g_ix) hZ (hw _ (List.mem_of_getElem? (i := 5) rfl)) (hw _ (List.mem_of_getElem? (i := 2) rfl)) (by decide) (by decide)) (g := (mkF m 32 #[.val (.long qe), .second, .val (.long qp), .second, .val (.int di), .val (.long qq), .second, .val (.int fl), .val (.int (1 : Int32)), .val (.int (1 : Int32)), .unset, .unset, .unset, .unset, .unset, .unset, .unset] [(.ref ix), (.ref ix)])) rfl (by rw [hml]; rfl) (Steps.refl _) (a := ix) (argsL := []) (rest := [(.ref ix)]) (lenOf pd_0_0 rfl) rfl (by show 2 * 0 + _ ≤ _; exact Nat.le_of_eq rfl) (hb hby at_32) (fun _ _ => ⟨rfl, e45, (by decide : 1 + 4 ≤ _), (by decide : 8 + 3264 ≤ _)⟩)
      dsimp only [Pt.U, Pt.locs, Pt.cells, Pt.slots] at X46 l46 y46 z46 st46 hQ46
      subst l46 y46 z46
      obtain ⟨bl, br, bq, bf, rfl, N46q, K46q, o46_F_lines_ix, o46_F_records_ix, o46_F_runRecords_ix, o46_F_runFirsts_ix, o46_F_topics_ix, o46_F_recordCount_ix, o46_F_runCount_ix, o46_F_origin_ix, o46_A_bl, o46_A_br, o46_A_bq, o46_A_bf, o46_g_bl, o46_g_br, o46_g_bq, o46_g_bf, o46_ne_bl_br, o46_ne_bl_bq, o46_ne_bl_bf, o46_ne_br_bq, o46_ne_br_bf, o46_ne_bq_bf⟩ := hQ46
      have N46 := Fr.app N0 N46q
      replace E_ix := E_ix.keep K46q
      have Z46 := Nat.le_trans Z45 K46q.1
      have F_lines_ix := o46_F_lines_ix
      have F_records_ix := o46_F_records_ix
      have F_runRecords_ix := o46_F_runRecords_ix
      have F_runFirsts_ix := o46_F_runFirsts_ix
      have F_topics_ix := o46_F_topics_ix
      have F_recordCount_ix := o46_F_recordCount_ix
      have F_runCount_ix := o46_F_runCount_ix
      have F_origin_ix := o46_F_origin_ix
      have A_bl := o46_A_bl
      have A_br := o46_A_br
      have A_bq := o46_A_bq
      have A_bf := o46_A_bf
      refine Go.step (fun t k => st46.trans k) ?_
      show Go _ _ _ _ _ _ _ (T46.setTop (mkF m 35 #[.val (.long qe), .second, .val (.long qp), .second, .val (.int di), .val (.long qq), .second, .val (.int fl), .val (.int (1 : Int32)), .val (.int (1 : Int32)), .unset, .unset, .unset, .unset, .unset, .unset, .unset] [(.ref ix)]))
      refine Go.step (fun t k => XS.astore X46.here hx rfl (hb hby at_35) rfl rfl (l' := #[.val (.long qe), .second, .val (.long qp), .second, .val (.int di), .val (.long qq), .second, .val (.int fl), .val (.int (1 : Int32)), .val (.int (1 : Int32)), .val (.ref ix), .unset, .unset, .unset, .unset, .unset, .unset]) rfl k) ?_
      show Go _ _ _ _ _ _ _ (T46.setTop (mkF m 37 #[.val (.long qe), .second, .val (.long qp), .second, .val (.int di), .val (.long qq), .second, .val (.int fl), .val (.int (1 : Int32)), .val (.int (1 : Int32)), .val (.ref ix), .unset, .unset, .unset, .unset, .unset, .unset] []))
      refine Go.step (fun t k => XS.aload X46.here hx rfl (hb hby at_37) rfl rfl k) ?_
      show Go _ _ _ _ _ _ _ (T46.setTop (mkF m 39 #[.val (.long qe), .second, .val (.long qp), .second, .val (.int di), .val (.long qq), .second, .val (.int fl), .val (.int (1 : Int32)), .val (.int (1 : Int32)), .val (.ref ix), .unset, .unset, .unset, .unset, .unset, .unset] [(.ref ix)]))
      obtain ⟨cq47, kq47, q47a, q47b, q47c⟩ := isOf hZ rfl E_ix
      obtain ⟨_, _, ⟨T47, L47, k47, n47⟩, -, X47, ⟨Lc47, hQ47, l47, y47, z47⟩, st47⟩ := X46.virtualBack hx (y := (⟨"com/example/ferrylog/ferrylog/store/LiveIndex", "addTopic", "()I"⟩ : MethodName)) (z := (⟨"com/example/ferrylog/ferrylog/store/LiveIndex", "addTopic", "()I"⟩ : MethodName)) hown (mvT hZ (hw _ (List.mem_of_getElem? (i := 19) rfl))) (mvT hZ (hw _ (List.mem_of_getElem? (i := 20) rfl))) (notFace_of_selects (args := #[]) (mvT hZ (hw _ (List.mem_of_getElem? (i := 22) rfl)))) (mvT hZ (hw _ (List.mem_of_getElem? (i := 22) rfl))) (mvT hZ (hw _ (List.mem_of_getElem? (i := 21) rfl))) (by decide) (backOf (W := 0) (rm3 l Z a0 hw [] ix (0 : Int32) 0 bl br bq bf (0 : Int32) (0 : Int32) (0 : Int64) (fun _ => (0 : Int64)) T46.heap n0 Z46 F_lines_ix F_records_ix F_runRecords_ix F_runFirsts_ix F_topics_ix F_recordCount_ix F_runCount_ix F_origin_ix E_ix g_ix o46_g_bl A_bl rfl (by decide)) hZ (hw _ (List.mem_of_getElem? (i := 23) rfl)) (hw _ (List.mem_of_getElem? (i := 2) rfl)) (by decide) (by decide)) q47a q47c (g := (mkF m 39 #[.val (.long qe), .second, .val (.long qp), .second, .val (.int di), .val (.long qq), .second, .val (.int fl), .val (.int (1 : Int32)), .val (.int (1 : Int32)), .val (.ref ix), .unset, .unset, .unset, .unset, .unset, .unset] [(.ref ix)])) rfl (by rw [hml]; rfl) (Steps.refl _) (argsL := []) (rest := []) (lenOf pd_0_1 rfl) rfl (by show 2 * 0 + _ ≤ _; exact Nat.le_of_eq rfl) (hb hby at_39) (fun _ _ => ⟨rfl, rfl, (by decide : 5 + 0 ≤ _), (by decide : 3272 + 0 ≤ _)⟩)
      dsimp only [Pt.U, Pt.locs, Pt.cells, Pt.slots] at X47 l47 y47 z47 st47 hQ47
      subst l47 y47 z47
      obtain ⟨rfl, N47q, K47q, o47_F_lines_ix, o47_F_records_ix, o47_F_runRecords_ix, o47_F_runFirsts_ix, o47_F_topics_ix, o47_F_recordCount_ix, o47_F_runCount_ix, o47_F_origin_ix, o47_A_bl⟩ := hQ47
      have N47 := Fr.app N46 N47q
      have ne_br_ix : br ≠ ix := (Ne.symm (own_neA E_ix (hw _ (List.mem_of_getElem? (i := 1) rfl)) A_br))
      have ne_bq_ix : bq ≠ ix := (Ne.symm (own_neA E_ix (hw _ (List.mem_of_getElem? (i := 1) rfl)) A_bq))
      have ne_bf_ix : bf ≠ ix := (Ne.symm (own_neA E_ix (hw _ (List.mem_of_getElem? (i := 1) rfl)) A_bf))
      replace E_ix := E_ix.keep K47q
      replace A_br := A_br.keep K47q (ninS ne_br_ix (ninS (Ne.symm o46_ne_bl_br) nin0))
      replace A_bq := A_bq.keep K47q (ninS ne_bq_ix (ninS (Ne.symm o46_ne_bl_bq) nin0))
      replace A_bf := A_bf.keep K47q (ninS ne_bf_ix (ninS (Ne.symm o46_ne_bl_bf) nin0))
      have Z47 := Nat.le_trans Z46 K47q.1
      have F_lines_ix := o47_F_lines_ix
      have F_records_ix := o47_F_records_ix
      have F_runRecords_ix := o47_F_runRecords_ix
      have F_runFirsts_ix := o47_F_runFirsts_ix
      have F_topics_ix := o47_F_topics_ix
      have F_recordCount_ix := o47_F_recordCount_ix
      have F_runCount_ix := o47_F_runCount_ix
      have F_origin_ix := o47_F_origin_ix
      have A_bl := o47_A_bl
      refine Go.step (fun t k => st47.trans k) ?_
      show Go _ _ _ _ _ _ _ (T47.setTop (mkF m 42 #[.val (.long qe), .second, .val (.long qp), .second, .val (.int di), .val (.long qq), .second, .val (.int fl), .val (.int (1 : Int32)), .val (.int (1 : Int32)), .val (.ref ix), .unset, .unset, .unset, .unset, .unset, .unset] [(.int (0 : Int32))]))
      refine Go.step (fun t k => XS.istore X47.here hx rfl (hb hby at_42) rfl (l' := #[.val (.long qe), .second, .val (.long qp), .second, .val (.int di), .val (.long qq), .second, .val (.int fl), .val (.int (1 : Int32)), .val (.int (1 : Int32)), .val (.ref ix), .val (.int (0 : Int32)), .unset, .unset, .unset, .unset, .unset]) rfl k) ?_
      show Go _ _ _ _ _ _ _ (T47.setTop (mkF m 44 #[.val (.long qe), .second, .val (.long qp), .second, .val (.int di), .val (.long qq), .second, .val (.int fl), .val (.int (1 : Int32)), .val (.int (1 : Int32)), .val (.ref ix), .val (.int (0 : Int32)), .unset, .unset, .unset, .unset, .unset] []))
      refine Go.step (fun t k => XS.aload X47.here hx rfl (hb hby at_44) rfl rfl k) ?_
      show Go _ _ _ _ _ _ _ (T47.setTop (mkF m 46 #[.val (.long qe), .second, .val (.long qp), .second, .val (.int di), .val (.long qq), .second, .val (.int fl), .val (.int (1 : Int32)), .val (.int (1 : Int32)), .val (.ref ix), .val (.int (0 : Int32)), .unset, .unset, .unset, .unset, .unset] [(.ref ix)]))
      obtain ⟨cq48, kq48, q48a, q48b, q48c⟩ := isOf hZ rfl E_ix
      obtain ⟨_, _, ⟨T48, L48, k48, n48⟩, -, X48, ⟨Lc48, hQ48, l48, y48, z48⟩, st48⟩ := X47.virtualBack hx (y := (⟨"com/example/ferrylog/ferrylog/store/LiveIndex", "addTopic", "()I"⟩ : MethodName)) (z := (⟨"com/example/ferrylog/ferrylog/store/LiveIndex", "addTopic", "()I"⟩ : MethodName)) hown (mvT hZ (hw _ (List.mem_of_getElem? (i := 19) rfl))) (mvT hZ (hw _ (List.mem_of_getElem? (i := 20) rfl))) (notFace_of_selects (args := #[]) (mvT hZ (hw _ (List.mem_of_getElem? (i := 22) rfl)))) (mvT hZ (hw _ (List.mem_of_getElem? (i := 22) rfl))) (mvT hZ (hw _ (List.mem_of_getElem? (i := 21) rfl))) (by decide) (backOf (W := 0) (rm3 l Z a0 hw [] ix (1 : Int32) 1 bl br bq bf (0 : Int32) (0 : Int32) (0 : Int64) (up (up (up (fun _ => (0 : Int64)) 0 (0 : Int64)) 1 (-1 : Int64)) 3 (4294967295 : Int64)) T47.heap n0 Z47 F_lines_ix F_records_ix F_runRecords_ix F_runFirsts_ix F_topics_ix F_recordCount_ix F_runCount_ix F_origin_ix E_ix g_ix o46_g_bl A_bl rfl (by decide)) hZ (hw _ (List.mem_of_getElem? (i := 23) rfl)) (hw _ (List.mem_of_getElem? (i := 2) rfl)) (by decide) (by decide)) q48a q48c (g := (mkF m 46 #[.val (.long qe), .second, .val (.long qp), .second, .val (.int di), .val (.long qq), .second, .val (.int fl), .val (.int (1 : Int32)), .val (.int (1 : Int32)), .val (.ref ix), .val (.int (0 : Int32)), .unset, .unset, .unset, .unset, .unset] [(.ref ix)])) rfl (by rw [hml]; rfl) (Steps.refl _) (argsL := []) (rest := []) (lenOf pd_0_1 rfl) rfl (by show 2 * 0 + _ ≤ _; exact Nat.le_of_eq rfl) (hb hby at_46) (fun _ _ => ⟨rfl, rfl, (by decide : 5 + 0 ≤ _), (by decide : 3272 + 0 ≤ _)⟩)
      dsimp only [Pt.U, Pt.locs, Pt.cells, Pt.slots] at X48 l48 y48 z48 st48 hQ48
      subst l48 y48 z48
      obtain ⟨rfl, N48q, K48q, o48_F_lines_ix, o48_F_records_ix, o48_F_runRecords_ix, o48_F_runFirsts_ix, o48_F_topics_ix, o48_F_recordCount_ix, o48_F_runCount_ix, o48_F_origin_ix, o48_A_bl⟩ := hQ48
      have N48 := Fr.app N47 N48q
      replace E_ix := E_ix.keep K48q
      replace A_br := A_br.keep K48q (ninS ne_br_ix (ninS (Ne.symm o46_ne_bl_br) nin0))
      replace A_bq := A_bq.keep K48q (ninS ne_bq_ix (ninS (Ne.symm o46_ne_bl_bq) nin0))
      replace A_bf := A_bf.keep K48q (ninS ne_bf_ix (ninS (Ne.symm o46_ne_bl_bf) nin0))
      have Z48 := Nat.le_trans Z47 K48q.1
      have F_lines_ix := o48_F_lines_ix
      have F_records_ix := o48_F_records_ix
      have F_runRecords_ix := o48_F_runRecords_ix
      have F_runFirsts_ix := o48_F_runFirsts_ix
      have F_topics_ix := o48_F_topics_ix
      have F_recordCount_ix := o48_F_recordCount_ix
      have F_runCount_ix := o48_F_runCount_ix
      have F_origin_ix := o48_F_origin_ix
      have A_bl := o48_A_bl
      refine Go.step (fun t k => st48.trans k) ?_
      show Go _ _ _ _ _ _ _ (T48.setTop (mkF m 49 #[.val (.long qe), .second, .val (.long qp), .second, .val (.int di), .val (.long qq), .second, .val (.int fl), .val (.int (1 : Int32)), .val (.int (1 : Int32)), .val (.ref ix), .val (.int (0 : Int32)), .unset, .unset, .unset, .unset, .unset] [(.int (1 : Int32))]))
      refine Go.step (fun t k => XS.istore X48.here hx rfl (hb hby at_49) rfl (l' := #[.val (.long qe), .second, .val (.long qp), .second, .val (.int di), .val (.long qq), .second, .val (.int fl), .val (.int (1 : Int32)), .val (.int (1 : Int32)), .val (.ref ix), .val (.int (0 : Int32)), .val (.int (1 : Int32)), .unset, .unset, .unset, .unset]) rfl k) ?_
      show Go _ _ _ _ _ _ _ (T48.setTop (mkF m 51 #[.val (.long qe), .second, .val (.long qp), .second, .val (.int di), .val (.long qq), .second, .val (.int fl), .val (.int (1 : Int32)), .val (.int (1 : Int32)), .val (.ref ix), .val (.int (0 : Int32)), .val (.int (1 : Int32)), .unset, .unset, .unset, .unset] []))
      refine Go.step (fun t k => XS.aload X48.here hx rfl (hb hby at_51) rfl rfl k) ?_
      show Go _ _ _ _ _ _ _ (T48.setTop (mkF m 53 #[.val (.long qe), .second, .val (.long qp), .second, .val (.int di), .val (.long qq), .second, .val (.int fl), .val (.int (1 : Int32)), .val (.int (1 : Int32)), .val (.ref ix), .val (.int (0 : Int32)), .val (.int (1 : Int32)), .unset, .unset, .unset, .unset] [(.ref ix)]))
      refine Go.step (fun t k => XS.iload X48.here hx rfl (hb hby at_53) rfl k) ?_
      show Go _ _ _ _ _ _ _ (T48.setTop (mkF m 55 #[.val (.long qe), .second, .val (.long qp), .second, .val (.int di), .val (.long qq), .second, .val (.int fl), .val (.int (1 : Int32)), .val (.int (1 : Int32)), .val (.ref ix), .val (.int (0 : Int32)), .val (.int (1 : Int32)), .unset, .unset, .unset, .unset] [(.int (0 : Int32)), (.ref ix)]))
      refine Go.step (fun t k => XS.lloadN X48.here hx rfl (hb hby at_55) rfl k) ?_
      show Go _ _ _ _ _ _ _ (T48.setTop (mkF m 56 #[.val (.long qe), .second, .val (.long qp), .second, .val (.int di), .val (.long qq), .second, .val (.int fl), .val (.int (1 : Int32)), .val (.int (1 : Int32)), .val (.ref ix), .val (.int (0 : Int32)), .val (.int (1 : Int32)), .unset, .unset, .unset, .unset] [(.long qe), (.int (0 : Int32)), (.ref ix)]))
      obtain ⟨cq49, kq49, q49a, q49b, q49c⟩ := isOf hZ rfl E_ix
      obtain ⟨_, _, ⟨T49, L49, k49, n49⟩, -, X49, ⟨Lc49, hQ49, l49, y49, z49⟩, st49⟩ := X48.virtualBack hx (y := (⟨"com/example/ferrylog/ferrylog/store/LiveIndex", "setEnd", "(IJ)V"⟩ : MethodName)) (z := (⟨"com/example/ferrylog/ferrylog/store/LiveIndex", "setEnd", "(IJ)V"⟩ : MethodName)) hown (mvT hZ (hw _ (List.mem_of_getElem? (i := 28) rfl))) (mvT hZ (hw _ (List.mem_of_getElem? (i := 29) rfl))) (notFace_of_selects (args := #[]) (mvT hZ (hw _ (List.mem_of_getElem? (i := 31) rfl)))) (mvT hZ (hw _ (List.mem_of_getElem? (i := 31) rfl))) (mvT hZ (hw _ (List.mem_of_getElem? (i := 30) rfl))) (by decide) (backOf (W := 0) (rm4 l Z a0 hw [] ix (0 : Int32) qe bl (up (up (up (up (up (up (fun _ => (0 : Int64)) 0 (0 : Int64)) 1 (-1 : Int64)) 3 (4294967295 : Int64)) 4 (0 : Int64)) 5 (-1 : Int64)) 7 (4294967295 : Int64)) 0 T48.heap n0 Z48 F_lines_ix A_bl (own_neA E_ix (hw _ (List.mem_of_getElem? (i := 1) rfl)) A_bl) o46_g_bl rfl (by decide)) hZ (hw _ (List.mem_of_getElem? (i := 32) rfl)) (hw _ (List.mem_of_getElem? (i := 2) rfl)) (by decide) (by decide)) q49a q49c (g := (mkF m 56 #[.val (.long qe), .second, .val (.long qp), .second, .val (.int di), .val (.long qq), .second, .val (.int fl), .val (.int (1 : Int32)), .val (.int (1 : Int32)), .val (.ref ix), .val (.int (0 : Int32)), .val (.int (1 : Int32)), .unset, .unset, .unset, .unset] [(.long qe), (.int (0 : Int32)), (.ref ix)])) rfl (by rw [hml]; rfl) (Steps.refl _) (argsL := [(.int (0 : Int32)), (.long qe)]) (rest := []) (lenOf pd_0_2 rfl) rfl (by show 2 * 0 + _ ≤ _; exact Nat.le_of_eq rfl) (hb hby at_56) (fun _ _ => ⟨rfl, rfl, (by decide : 5 + 0 ≤ _), (by decide : 3272 + 0 ≤ _)⟩)
      dsimp only [Pt.U, Pt.locs, Pt.cells, Pt.slots] at X49 l49 y49 z49 st49 hQ49
      subst l49 y49 z49
      obtain ⟨rfl, N49q, K49q, o49_A_bl⟩ := hQ49
      have N49 := Fr.app N48 N49q
      have ne_ix_bl : ix ≠ bl := (own_neA E_ix (hw _ (List.mem_of_getElem? (i := 1) rfl)) A_bl)
      replace E_ix := E_ix.keep K49q
      replace A_br := A_br.keep K49q (ninS (Ne.symm o46_ne_bl_br) nin0)
      replace A_bq := A_bq.keep K49q (ninS (Ne.symm o46_ne_bl_bq) nin0)
      replace A_bf := A_bf.keep K49q (ninS (Ne.symm o46_ne_bl_bf) nin0)
      replace F_lines_ix := F_lines_ix.keep K49q (ninS ne_ix_bl nin0)
      replace F_records_ix := F_records_ix.keep K49q (ninS ne_ix_bl nin0)
      replace F_runRecords_ix := F_runRecords_ix.keep K49q (ninS ne_ix_bl nin0)
      replace F_runFirsts_ix := F_runFirsts_ix.keep K49q (ninS ne_ix_bl nin0)
      replace F_topics_ix := F_topics_ix.keep K49q (ninS ne_ix_bl nin0)
      replace F_recordCount_ix := F_recordCount_ix.keep K49q (ninS ne_ix_bl nin0)
      replace F_runCount_ix := F_runCount_ix.keep K49q (ninS ne_ix_bl nin0)
      replace F_origin_ix := F_origin_ix.keep K49q (ninS ne_ix_bl nin0)
      have Z49 := Nat.le_trans Z48 K49q.1
      have A_bl := o49_A_bl
      refine Go.step (fun t k => st49.trans k) ?_
      show Go _ _ _ _ _ _ _ (T49.setTop (mkF m 59 #[.val (.long qe), .second, .val (.long qp), .second, .val (.int di), .val (.long qq), .second, .val (.int fl), .val (.int (1 : Int32)), .val (.int (1 : Int32)), .val (.ref ix), .val (.int (0 : Int32)), .val (.int (1 : Int32)), .unset, .unset, .unset, .unset] []))
      refine Go.step (fun t k => XS.aload X49.here hx rfl (hb hby at_59) rfl rfl k) ?_
      show Go _ _ _ _ _ _ _ (T49.setTop (mkF m 61 #[.val (.long qe), .second, .val (.long qp), .second, .val (.int di), .val (.long qq), .second, .val (.int fl), .val (.int (1 : Int32)), .val (.int (1 : Int32)), .val (.ref ix), .val (.int (0 : Int32)), .val (.int (1 : Int32)), .unset, .unset, .unset, .unset] [(.ref ix)]))
      refine Go.step (fun t k => XS.iload X49.here hx rfl (hb hby at_61) rfl k) ?_
      show Go _ _ _ _ _ _ _ (T49.setTop (mkF m 63 #[.val (.long qe), .second, .val (.long qp), .second, .val (.int di), .val (.long qq), .second, .val (.int fl), .val (.int (1 : Int32)), .val (.int (1 : Int32)), .val (.ref ix), .val (.int (0 : Int32)), .val (.int (1 : Int32)), .unset, .unset, .unset, .unset] [(.int (0 : Int32)), (.ref ix)]))
      refine Go.step (fun t k => XS.lloadN X49.here hx rfl (hb hby at_63) rfl k) ?_
      show Go _ _ _ _ _ _ _ (T49.setTop (mkF m 64 #[.val (.long qe), .second, .val (.long qp), .second, .val (.int di), .val (.long qq), .second, .val (.int fl), .val (.int (1 : Int32)), .val (.int (1 : Int32)), .val (.ref ix), .val (.int (0 : Int32)), .val (.int (1 : Int32)), .unset, .unset, .unset, .unset] [(.long qp), (.int (0 : Int32)), (.ref ix)]))
      obtain ⟨cq50, kq50, q50a, q50b, q50c⟩ := isOf hZ rfl E_ix
      obtain ⟨_, _, ⟨T50, L50, k50, n50⟩, -, X50, ⟨Lc50, hQ50, l50, y50, z50⟩, st50⟩ := X49.virtualBack hx (y := (⟨"com/example/ferrylog/ferrylog/store/LiveIndex", "addRecord", "(IJ)V"⟩ : MethodName)) (z := (⟨"com/example/ferrylog/ferrylog/store/LiveIndex", "addRecord", "(IJ)V"⟩ : MethodName)) hown (mvT hZ (hw _ (List.mem_of_getElem? (i := 33) rfl))) (mvT hZ (hw _ (List.mem_of_getElem? (i := 34) rfl))) (notFace_of_selects (args := #[]) (mvT hZ (hw _ (List.mem_of_getElem? (i := 36) rfl)))) (mvT hZ (hw _ (List.mem_of_getElem? (i := 36) rfl))) (mvT hZ (hw _ (List.mem_of_getElem? (i := 35) rfl))) (by decide) (backOf (W := 0) (rm5_0 l Z a0 hw [] ix (0 : Int32) qp bl br bq bf (2 : Int32) (0 : Int32) (0 : Int64) 0 0 (up (up (up (up (up (up (up (fun _ => (0 : Int64)) 0 (0 : Int64)) 1 (-1 : Int64)) 3 (4294967295 : Int64)) 4 (0 : Int64)) 5 (-1 : Int64)) 7 (4294967295 : Int64)) 0 qe) (fun _ => (0 : Int32)) (fun _ => (0 : Int32)) (fun _ => (0 : Int64)) T49.heap n0 Z49 F_lines_ix F_records_ix F_runRecords_ix F_runFirsts_ix F_topics_ix F_recordCount_ix F_runCount_ix F_origin_ix E_ix g_ix o46_g_bl o46_g_br o46_g_bq o46_g_bf o46_ne_bl_br o46_ne_bl_bq o46_ne_bl_bf o46_ne_br_bq o46_ne_br_bf o46_ne_bq_bf A_bl A_br A_bq A_bf rfl (by decide) rfl (by decide) (show ((4294967295 : Int64).toInt32) < (0 : Int32) by decide +kernel) (own_pp qp)) hZ (hw _ (List.mem_of_getElem? (i := 37) rfl)) (hw _ (List.mem_of_getElem? (i := 2) rfl)) (by decide) (by decide)) q50a q50c (g := (mkF m 64 #[.val (.long qe), .second, .val (.long qp), .second, .val (.int di), .val (.long qq), .second, .val (.int fl), .val (.int (1 : Int32)), .val (.int (1 : Int32)), .val (.ref ix), .val (.int (0 : Int32)), .val (.int (1 : Int32)), .unset, .unset, .unset, .unset] [(.long qp), (.int (0 : Int32)), (.ref ix)])) rfl (by rw [hml]; rfl) (Steps.refl _) (argsL := [(.int (0 : Int32)), (.long qp)]) (rest := []) (lenOf pd_0_2 rfl) rfl (by show 2 * 0 + _ ≤ _; exact Nat.le_of_eq rfl) (hb hby at_64) (fun _ _ => ⟨rfl, rfl, (by decide : 5 + 0 ≤ _), (by decide : 3272 + 0 ≤ _)⟩)
      dsimp only [Pt.U, Pt.locs, Pt.cells, Pt.slots] at X50 l50 y50 z50 st50 hQ50
      subst l50 y50 z50
      obtain ⟨rfl, N50q, K50q, o50_F_lines_ix, o50_F_records_ix, o50_F_runRecords_ix, o50_F_runFirsts_ix, o50_F_topics_ix, o50_F_recordCount_ix, o50_F_runCount_ix, o50_F_origin_ix, o50_A_bl, o50_A_br, o50_A_bq, o50_A_bf⟩ := hQ50
      have N50 := Fr.app N49 N50q
      replace E_ix := E_ix.keep K50q
      have Z50 := Nat.le_trans Z49 K50q.1
      have F_lines_ix := o50_F_lines_ix
      have F_records_ix := o50_F_records_ix
      have F_runRecords_ix := o50_F_runRecords_ix
      have F_runFirsts_ix := o50_F_runFirsts_ix
      have F_topics_ix := o50_F_topics_ix
      have F_recordCount_ix := o50_F_recordCount_ix
      have F_runCount_ix := o50_F_runCount_ix
      have F_origin_ix := o50_F_origin_ix
      have A_bl := o50_A_bl
      have A_br := o50_A_br
      have A_bq := o50_A_bq
      have A_bf := o50_A_bf
      refine Go.step (fun t k => st50.trans k) ?_
      show Go _ _ _ _ _ _ _ (T50.setTop (mkF m 67 #[.val (.long qe), .second, .val (.long qp), .second, .val (.int di), .val (.long qq), .second, .val (.int fl), .val (.int (1 : Int32)), .val (.int (1 : Int32)), .val (.ref ix), .val (.int (0 : Int32)), .val (.int (1 : Int32)), .unset, .unset, .unset, .unset] []))
      refine Go.step (fun t k => XS.iload X50.here hx rfl (hb hby at_67) rfl k) ?_
      show Go _ _ _ _ _ _ _ (T50.setTop (mkF m 69 #[.val (.long qe), .second, .val (.long qp), .second, .val (.int di), .val (.long qq), .second, .val (.int fl), .val (.int (1 : Int32)), .val (.int (1 : Int32)), .val (.ref ix), .val (.int (0 : Int32)), .val (.int (1 : Int32)), .unset, .unset, .unset, .unset] [(.int (1 : Int32))]))
      refine Go.step (fun t k => XS.ifNo X50.here hx rfl (hb hby at_69) rfl ((if0 _ _).trans (feq (by decide : ¬ (1 : Int32) = (0 : Int32))).1) k) ?_
      show Go _ _ _ _ _ _ _ (T50.setTop (mkF m 72 #[.val (.long qe), .second, .val (.long qp), .second, .val (.int di), .val (.long qq), .second, .val (.int fl), .val (.int (1 : Int32)), .val (.int (1 : Int32)), .val (.ref ix), .val (.int (0 : Int32)), .val (.int (1 : Int32)), .unset, .unset, .unset, .unset] []))
      refine Go.step (fun t k => XS.aload X50.here hx rfl (hb hby at_72) rfl rfl k) ?_
      show Go _ _ _ _ _ _ _ (T50.setTop (mkF m 74 #[.val (.long qe), .second, .val (.long qp), .second, .val (.int di), .val (.long qq), .second, .val (.int fl), .val (.int (1 : Int32)), .val (.int (1 : Int32)), .val (.ref ix), .val (.int (0 : Int32)), .val (.int (1 : Int32)), .unset, .unset, .unset, .unset] [(.ref ix)]))
      refine Go.step (fun t k => XS.iload X50.here hx rfl (hb hby at_74) rfl k) ?_
      show Go _ _ _ _ _ _ _ (T50.setTop (mkF m 76 #[.val (.long qe), .second, .val (.long qp), .second, .val (.int di), .val (.long qq), .second, .val (.int fl), .val (.int (1 : Int32)), .val (.int (1 : Int32)), .val (.ref ix), .val (.int (0 : Int32)), .val (.int (1 : Int32)), .unset, .unset, .unset, .unset] [(.int (1 : Int32)), (.ref ix)]))
      refine Go.step (fun t k => XS.lloadN X50.here hx rfl (hb hby at_76) rfl k) ?_
      show Go _ _ _ _ _ _ _ (T50.setTop (mkF m 77 #[.val (.long qe), .second, .val (.long qp), .second, .val (.int di), .val (.long qq), .second, .val (.int fl), .val (.int (1 : Int32)), .val (.int (1 : Int32)), .val (.ref ix), .val (.int (0 : Int32)), .val (.int (1 : Int32)), .unset, .unset, .unset, .unset] [(.long qp), (.int (1 : Int32)), (.ref ix)]))
      refine Go.step (fun t k => XS.iload X50.here hx rfl (hb hby at_77) rfl k) ?_
      show Go _ _ _ _ _ _ _ (T50.setTop (mkF m 79 #[.val (.long qe), .second, .val (.long qp), .second, .val (.int di), .val (.long qq), .second, .val (.int fl), .val (.int (1 : Int32)), .val (.int (1 : Int32)), .val (.ref ix), .val (.int (0 : Int32)), .val (.int (1 : Int32)), .unset, .unset, .unset, .unset] [(.int di), (.long qp), (.int (1 : Int32)), (.ref ix)]))
      refine Go.step (fun t k => XS.i2l X50.here hx rfl (hb hby at_79) rfl k) ?_
      show Go _ _ _ _ _ _ _ (T50.setTop (mkF m 80 #[.val (.long qe), .second, .val (.long qp), .second, .val (.int di), .val (.long qq), .second, .val (.int fl), .val (.int (1 : Int32)), .val (.int (1 : Int32)), .val (.ref ix), .val (.int (0 : Int32)), .val (.int (1 : Int32)), .unset, .unset, .unset, .unset] [(.long (di.toInt64)), (.long qp), (.int (1 : Int32)), (.ref ix)]))
      refine Go.step (fun t k => XS.ladd X50.here hx rfl (hb hby at_80) rfl k) ?_
      show Go _ _ _ _ _ _ _ (T50.setTop (mkF m 81 #[.val (.long qe), .second, .val (.long qp), .second, .val (.int di), .val (.long qq), .second, .val (.int fl), .val (.int (1 : Int32)), .val (.int (1 : Int32)), .val (.ref ix), .val (.int (0 : Int32)), .val (.int (1 : Int32)), .unset, .unset, .unset, .unset] [(.long (qp + (di.toInt64))), (.int (1 : Int32)), (.ref ix)]))
      obtain ⟨cq51, kq51, q51a, q51b, q51c⟩ := isOf hZ rfl E_ix
      obtain ⟨_, _, ⟨T51, L51, k51, n51⟩, -, X51, ⟨Lc51, hQ51, l51, y51, z51⟩, st51⟩ := X50.virtualBack hx (y := (⟨"com/example/ferrylog/ferrylog/store/LiveIndex", "addRecord", "(IJ)V"⟩ : MethodName)) (z := (⟨"com/example/ferrylog/ferrylog/store/LiveIndex", "addRecord", "(IJ)V"⟩ : MethodName)) hown (mvT hZ (hw _ (List.mem_of_getElem? (i := 33) rfl))) (mvT hZ (hw _ (List.mem_of_getElem? (i := 34) rfl))) (notFace_of_selects (args := #[]) (mvT hZ (hw _ (List.mem_of_getElem? (i := 36) rfl)))) (mvT hZ (hw _ (List.mem_of_getElem? (i := 36) rfl))) (mvT hZ (hw _ (List.mem_of_getElem? (i := 35) rfl))) (by decide) (backOf (W := 0) (rm5_1 l Z a0 hw [] ix (1 : Int32) (qp + (di.toInt64)) bl br bq bf (2 : Int32) (1 : Int32) qp 1 1 (up (up (up (up (up (up (up (up (up (up (fun _ => (0 : Int64)) 0 (0 : Int64)) 1 (-1 : Int64)) 3 (4294967295 : Int64)) 4 (0 : Int64)) 5 (-1 : Int64)) 7 (4294967295 : Int64)) 0 qe) 3 (((4294967295 : Int64) &&& (-4294967296 : Int64)) ||| ((0 : Int32).toInt64))) 0 (qe + (1 : Int64))) 2 (qe + (1 : Int64))) (up (up (up (fun _ => (0 : Int32)) 0 ((qp - qp).toInt32)) 1 ((0 : Int32) ||| (-2147483648 : Int32))) 2 ((4294967295 : Int64).toInt32)) (up (fun _ => (0 : Int32)) 0 (0 : Int32)) (up (fun _ => (0 : Int64)) 0 qe) T50.heap n0 Z50 F_lines_ix F_records_ix F_runRecords_ix F_runFirsts_ix F_topics_ix F_recordCount_ix F_runCount_ix F_origin_ix E_ix g_ix o46_g_bl o46_g_br o46_g_bq o46_g_bf o46_ne_bl_br o46_ne_bl_bq o46_ne_bl_bf o46_ne_br_bq o46_ne_br_bf o46_ne_bq_bf A_bl A_br A_bq A_bf rfl (by decide) rfl (by decide) (show ((4294967295 : Int64).toInt32) < (0 : Int32) by decide +kernel) (own_pd qp di)) hZ (hw _ (List.mem_of_getElem? (i := 37) rfl)) (hw _ (List.mem_of_getElem? (i := 2) rfl)) (by decide) (by decide)) q51a q51c (g := (mkF m 81 #[.val (.long qe), .second, .val (.long qp), .second, .val (.int di), .val (.long qq), .second, .val (.int fl), .val (.int (1 : Int32)), .val (.int (1 : Int32)), .val (.ref ix), .val (.int (0 : Int32)), .val (.int (1 : Int32)), .unset, .unset, .unset, .unset] [(.long (qp + (di.toInt64))), (.int (1 : Int32)), (.ref ix)])) rfl (by rw [hml]; rfl) (Steps.refl _) (argsL := [(.int (1 : Int32)), (.long (qp + (di.toInt64)))]) (rest := []) (lenOf pd_0_2 rfl) rfl (by show 2 * 0 + _ ≤ _; exact Nat.le_of_eq rfl) (hb hby at_81) (fun _ _ => ⟨rfl, rfl, (by decide : 5 + 0 ≤ _), (by decide : 3272 + 0 ≤ _)⟩)
      dsimp only [Pt.U, Pt.locs, Pt.cells, Pt.slots] at X51 l51 y51 z51 st51 hQ51
      subst l51 y51 z51
      obtain ⟨rfl, N51q, K51q, o51_F_lines_ix, o51_F_records_ix, o51_F_runRecords_ix, o51_F_runFirsts_ix, o51_F_topics_ix, o51_F_recordCount_ix, o51_F_runCount_ix, o51_F_origin_ix, o51_A_bl, o51_A_br, o51_A_bq, o51_A_bf⟩ := hQ51
      have N51 := Fr.app N50 N51q
      replace E_ix := E_ix.keep K51q
      have Z51 := Nat.le_trans Z50 K51q.1
      have F_lines_ix := o51_F_lines_ix
      have F_records_ix := o51_F_records_ix
      have F_runRecords_ix := o51_F_runRecords_ix
      have F_runFirsts_ix := o51_F_runFirsts_ix
      have F_topics_ix := o51_F_topics_ix
      have F_recordCount_ix := o51_F_recordCount_ix
      have F_runCount_ix := o51_F_runCount_ix
      have F_origin_ix := o51_F_origin_ix
      have A_bl := o51_A_bl
      have A_br := o51_A_br
      have A_bq := o51_A_bq
      have A_bf := o51_A_bf
      refine Go.step (fun t k => st51.trans k) ?_
      show Go _ _ _ _ _ _ _ (T51.setTop (mkF m 84 #[.val (.long qe), .second, .val (.long qp), .second, .val (.int di), .val (.long qq), .second, .val (.int fl), .val (.int (1 : Int32)), .val (.int (1 : Int32)), .val (.ref ix), .val (.int (0 : Int32)), .val (.int (1 : Int32)), .unset, .unset, .unset, .unset] []))
      refine Go.step (fun t k => XS.iload X51.here hx rfl (hb hby at_84) rfl k) ?_
      show Go _ _ _ _ _ _ _ (T51.setTop (mkF m 86 #[.val (.long qe), .second, .val (.long qp), .second, .val (.int di), .val (.long qq), .second, .val (.int fl), .val (.int (1 : Int32)), .val (.int (1 : Int32)), .val (.ref ix), .val (.int (0 : Int32)), .val (.int (1 : Int32)), .unset, .unset, .unset, .unset] [(.int (1 : Int32))]))
      refine Go.step (fun t k => XS.ifNo X51.here hx rfl (hb hby at_86) rfl ((if0 _ _).trans (feq (by decide : ¬ (1 : Int32) = (0 : Int32))).1) k) ?_
      show Go _ _ _ _ _ _ _ (T51.setTop (mkF m 89 #[.val (.long qe), .second, .val (.long qp), .second, .val (.int di), .val (.long qq), .second, .val (.int fl), .val (.int (1 : Int32)), .val (.int (1 : Int32)), .val (.ref ix), .val (.int (0 : Int32)), .val (.int (1 : Int32)), .unset, .unset, .unset, .unset] []))
      refine Go.step (fun t k => XS.aload X51.here hx rfl (hb hby at_89) rfl rfl k) ?_
      show Go _ _ _ _ _ _ _ (T51.setTop (mkF m 91 #[.val (.long qe), .second, .val (.long qp), .second, .val (.int di), .val (.long qq), .second, .val (.int fl), .val (.int (1 : Int32)), .val (.int (1 : Int32)), .val (.ref ix), .val (.int (0 : Int32)), .val (.int (1 : Int32)), .unset, .unset, .unset, .unset] [(.ref ix)]))
      refine Go.step (fun t k => XS.iload X51.here hx rfl (hb hby at_91) rfl k) ?_
      show Go _ _ _ _ _ _ _ (T51.setTop (mkF m 93 #[.val (.long qe), .second, .val (.long qp), .second, .val (.int di), .val (.long qq), .second, .val (.int fl), .val (.int (1 : Int32)), .val (.int (1 : Int32)), .val (.ref ix), .val (.int (0 : Int32)), .val (.int (1 : Int32)), .unset, .unset, .unset, .unset] [(.int (0 : Int32)), (.ref ix)]))
      obtain ⟨cq52, kq52, q52a, q52b, q52c⟩ := isOf hZ rfl E_ix
      obtain ⟨_, _, ⟨T52, L52, k52, n52⟩, -, X52, ⟨Lc52, hQ52, l52, y52, z52⟩, st52⟩ := X51.virtualBack hx (y := (⟨"com/example/ferrylog/ferrylog/store/LiveIndex", "giveOffset", "(I)J"⟩ : MethodName)) (z := (⟨"com/example/ferrylog/ferrylog/store/LiveIndex", "giveOffset", "(I)J"⟩ : MethodName)) hown (mvT hZ (hw _ (List.mem_of_getElem? (i := 54) rfl))) (mvT hZ (hw _ (List.mem_of_getElem? (i := 55) rfl))) (notFace_of_selects (args := #[]) (mvT hZ (hw _ (List.mem_of_getElem? (i := 57) rfl)))) (mvT hZ (hw _ (List.mem_of_getElem? (i := 57) rfl))) (mvT hZ (hw _ (List.mem_of_getElem? (i := 56) rfl))) (by decide) (backOf (W := 0) (rm8 l Z a0 hw [] ix (0 : Int32) bl (up (up (up (up (up (up (up (up (up (up (up (up (up (fun _ => (0 : Int64)) 0 (0 : Int64)) 1 (-1 : Int64)) 3 (4294967295 : Int64)) 4 (0 : Int64)) 5 (-1 : Int64)) 7 (4294967295 : Int64)) 0 qe) 3 (((4294967295 : Int64) &&& (-4294967296 : Int64)) ||| ((0 : Int32).toInt64))) 0 (qe + (1 : Int64))) 2 (qe + (1 : Int64))) 7 (((4294967295 : Int64) &&& (-4294967296 : Int64)) ||| ((1 : Int32).toInt64))) 4 ((0 : Int64) + (1 : Int64))) 6 ((0 : Int64) + (1 : Int64))) 0 T51.heap n0 Z51 F_lines_ix A_bl ne_ix_bl o46_g_bl rfl (by decide)) hZ (hw _ (List.mem_of_getElem? (i := 58) rfl)) (hw _ (List.mem_of_getElem? (i := 2) rfl)) (by decide) (by decide)) q52a q52c (g := (mkF m 93 #[.val (.long qe), .second, .val (.long qp), .second, .val (.int di), .val (.long qq), .second, .val (.int fl), .val (.int (1 : Int32)), .val (.int (1 : Int32)), .val (.ref ix), .val (.int (0 : Int32)), .val (.int (1 : Int32)), .unset, .unset, .unset, .unset] [(.int (0 : Int32)), (.ref ix)])) rfl (by rw [hml]; rfl) (Steps.refl _) (argsL := [(.int (0 : Int32))]) (rest := []) (lenOf pd_0_4 rfl) rfl (by show 2 * 0 + _ ≤ _; exact Nat.le_of_eq rfl) (hb hby at_93) (fun _ _ => ⟨rfl, rfl, (by decide : 5 + 0 ≤ _), (by decide : 3272 + 0 ≤ _)⟩)
      dsimp only [Pt.U, Pt.locs, Pt.cells, Pt.slots] at X52 l52 y52 z52 st52 hQ52
      subst l52 y52 z52
      obtain ⟨rfl, N52q, K52q, o52_A_bl⟩ := hQ52
      have N52 := Fr.app N51 N52q
      replace E_ix := E_ix.keep K52q
      replace F_lines_ix := F_lines_ix.keep K52q (ninS ne_ix_bl nin0)
      replace F_records_ix := F_records_ix.keep K52q (ninS ne_ix_bl nin0)
      replace F_runRecords_ix := F_runRecords_ix.keep K52q (ninS ne_ix_bl nin0)
      replace F_runFirsts_ix := F_runFirsts_ix.keep K52q (ninS ne_ix_bl nin0)
      replace F_topics_ix := F_topics_ix.keep K52q (ninS ne_ix_bl nin0)
      replace F_recordCount_ix := F_recordCount_ix.keep K52q (ninS ne_ix_bl nin0)
      replace F_runCount_ix := F_runCount_ix.keep K52q (ninS ne_ix_bl nin0)
      replace F_origin_ix := F_origin_ix.keep K52q (ninS ne_ix_bl nin0)
      replace A_br := A_br.keep K52q (ninS (Ne.symm o46_ne_bl_br) nin0)
      replace A_bq := A_bq.keep K52q (ninS (Ne.symm o46_ne_bl_bq) nin0)
      replace A_bf := A_bf.keep K52q (ninS (Ne.symm o46_ne_bl_bf) nin0)
      have Z52 := Nat.le_trans Z51 K52q.1
      have A_bl := o52_A_bl
      refine Go.step (fun t k => st52.trans k) ?_
      show Go _ _ _ _ _ _ _ (T52.setTop (mkF m 96 #[.val (.long qe), .second, .val (.long qp), .second, .val (.int di), .val (.long qq), .second, .val (.int fl), .val (.int (1 : Int32)), .val (.int (1 : Int32)), .val (.ref ix), .val (.int (0 : Int32)), .val (.int (1 : Int32)), .unset, .unset, .unset, .unset] [(.long ((qe + (1 : Int64)) + (((((4294967295 : Int64) &&& (-4294967296 : Int64)) ||| ((0 : Int32).toInt64)).toUInt64 >>> ((32 : Int32) &&& 0x3f).toInt64.toUInt64).toInt64)))]))
      refine Go.step (σ' := T52.setTop (mkF m 97 #[.val (.long qe), .second, .val (.long qp), .second, .val (.int di), .val (.long qq), .second, .val (.int fl), .val (.int (1 : Int32)), .val (.int (1 : Int32)), .val (.ref ix), .val (.int (0 : Int32)), .val (.int (1 : Int32)), .unset, .unset, .unset, .unset] [])) (fun t k => by jvm_step X52.here [X52.here.top, hx, (hb hby at_96), Value.category]; exact k) ?_
      show Go _ _ _ _ _ _ _ (T52.setTop (mkF m 97 #[.val (.long qe), .second, .val (.long qp), .second, .val (.int di), .val (.long qq), .second, .val (.int fl), .val (.int (1 : Int32)), .val (.int (1 : Int32)), .val (.ref ix), .val (.int (0 : Int32)), .val (.int (1 : Int32)), .unset, .unset, .unset, .unset] []))
      refine Go.step (fun t k => XS.aload X52.here hx rfl (hb hby at_97) rfl rfl k) ?_
      show Go _ _ _ _ _ _ _ (T52.setTop (mkF m 99 #[.val (.long qe), .second, .val (.long qp), .second, .val (.int di), .val (.long qq), .second, .val (.int fl), .val (.int (1 : Int32)), .val (.int (1 : Int32)), .val (.ref ix), .val (.int (0 : Int32)), .val (.int (1 : Int32)), .unset, .unset, .unset, .unset] [(.ref ix)]))
      obtain ⟨cq53, kq53, q53a, q53b, q53c⟩ := isOf hZ rfl E_ix
      obtain ⟨_, _, ⟨T53, L53, k53, n53⟩, -, X53, ⟨Lc53, hQ53, l53, y53, z53⟩, st53⟩ := X52.virtualBack hx (y := (⟨"com/example/ferrylog/ferrylog/store/LiveIndex", "checkpointed", "()V"⟩ : MethodName)) (z := (⟨"com/example/ferrylog/ferrylog/store/LiveIndex", "checkpointed", "()V"⟩ : MethodName)) hown (mvT hZ (hw _ (List.mem_of_getElem? (i := 60) rfl))) (mvT hZ (hw _ (List.mem_of_getElem? (i := 61) rfl))) (notFace_of_selects (args := #[]) (mvT hZ (hw _ (List.mem_of_getElem? (i := 63) rfl)))) (mvT hZ (hw _ (List.mem_of_getElem? (i := 63) rfl))) (mvT hZ (hw _ (List.mem_of_getElem? (i := 62) rfl))) (by decide) (backOf (W := 0) (rm9 l Z a0 hw [] ix bl br bq bf (2 : Int32) (2 : Int32) qp (up (up (up (up (up (up (up (up (up (up (up (up (up (up (fun _ => (0 : Int64)) 0 (0 : Int64)) 1 (-1 : Int64)) 3 (4294967295 : Int64)) 4 (0 : Int64)) 5 (-1 : Int64)) 7 (4294967295 : Int64)) 0 qe) 3 (((4294967295 : Int64) &&& (-4294967296 : Int64)) ||| ((0 : Int32).toInt64))) 0 (qe + (1 : Int64))) 2 (qe + (1 : Int64))) 7 (((4294967295 : Int64) &&& (-4294967296 : Int64)) ||| ((1 : Int32).toInt64))) 4 ((0 : Int64) + (1 : Int64))) 6 ((0 : Int64) + (1 : Int64))) 3 ((((4294967295 : Int64) &&& (-4294967296 : Int64)) ||| ((0 : Int32).toInt64)) + (4294967296 : Int64))) (up (up (up (up (up (up (fun _ => (0 : Int32)) 0 ((qp - qp).toInt32)) 1 ((0 : Int32) ||| (-2147483648 : Int32))) 2 ((4294967295 : Int64).toInt32)) 3 (((qp + (di.toInt64)) - qp).toInt32)) 4 ((1 : Int32) ||| (-2147483648 : Int32))) 5 ((4294967295 : Int64).toInt32)) (up (up (fun _ => (0 : Int32)) 0 (0 : Int32)) 1 (1 : Int32)) T52.heap n0 Z52 F_lines_ix F_records_ix F_runRecords_ix F_runFirsts_ix F_topics_ix F_recordCount_ix F_runCount_ix F_origin_ix E_ix g_ix o46_g_bl A_bl A_br A_bq o46_ne_bl_br o46_ne_bl_bq ne_ix_bl) hZ (hw _ (List.mem_of_getElem? (i := 64) rfl)) (hw _ (List.mem_of_getElem? (i := 2) rfl)) (by decide) (by decide)) q53a q53c (g := (mkF m 99 #[.val (.long qe), .second, .val (.long qp), .second, .val (.int di), .val (.long qq), .second, .val (.int fl), .val (.int (1 : Int32)), .val (.int (1 : Int32)), .val (.ref ix), .val (.int (0 : Int32)), .val (.int (1 : Int32)), .unset, .unset, .unset, .unset] [(.ref ix)])) rfl (by rw [hml]; rfl) (Steps.refl _) (argsL := []) (rest := []) (lenOf pd_0_0 rfl) rfl (by show 2 * 0 + _ ≤ _; exact Nat.le_of_eq rfl) (hb hby at_99) (fun _ _ => ⟨rfl, rfl, (by decide : 5 + 0 ≤ _), (by decide : 3272 + 0 ≤ _)⟩)
      dsimp only [Pt.U, Pt.locs, Pt.cells, Pt.slots] at X53 l53 y53 z53 st53 hQ53
      subst l53 y53 z53
      obtain ⟨rfl, N53q, K53q, o53_F_lines_ix, o53_F_records_ix, o53_F_runRecords_ix, o53_F_runFirsts_ix, o53_F_topics_ix, o53_F_recordCount_ix, o53_F_runCount_ix, o53_F_origin_ix, o53_A_bl⟩ := hQ53
      have N53 := Fr.app N52 N53q
      replace E_ix := E_ix.keep K53q
      replace A_br := A_br.keep K53q (ninS ne_br_ix (ninS (Ne.symm o46_ne_bl_br) nin0))
      replace A_bq := A_bq.keep K53q (ninS ne_bq_ix (ninS (Ne.symm o46_ne_bl_bq) nin0))
      replace A_bf := A_bf.keep K53q (ninS ne_bf_ix (ninS (Ne.symm o46_ne_bl_bf) nin0))
      have Z53 := Nat.le_trans Z52 K53q.1
      have F_lines_ix := o53_F_lines_ix
      have F_records_ix := o53_F_records_ix
      have F_runRecords_ix := o53_F_runRecords_ix
      have F_runFirsts_ix := o53_F_runFirsts_ix
      have F_topics_ix := o53_F_topics_ix
      have F_recordCount_ix := o53_F_recordCount_ix
      have F_runCount_ix := o53_F_runCount_ix
      have F_origin_ix := o53_F_origin_ix
      have A_bl := o53_A_bl
      refine Go.step (fun t k => st53.trans k) ?_
      show Go _ _ _ _ _ _ _ (T53.setTop (mkF m 102 #[.val (.long qe), .second, .val (.long qp), .second, .val (.int di), .val (.long qq), .second, .val (.int fl), .val (.int (1 : Int32)), .val (.int (1 : Int32)), .val (.ref ix), .val (.int (0 : Int32)), .val (.int (1 : Int32)), .unset, .unset, .unset, .unset] []))
      refine Go.step (fun t k => XS.aload X53.here hx rfl (hb hby at_102) rfl rfl k) ?_
      show Go _ _ _ _ _ _ _ (T53.setTop (mkF m 104 #[.val (.long qe), .second, .val (.long qp), .second, .val (.int di), .val (.long qq), .second, .val (.int fl), .val (.int (1 : Int32)), .val (.int (1 : Int32)), .val (.ref ix), .val (.int (0 : Int32)), .val (.int (1 : Int32)), .unset, .unset, .unset, .unset] [(.ref ix)]))
      refine Go.step (fun t k => XS.iload X53.here hx rfl (hb hby at_104) rfl k) ?_
      show Go _ _ _ _ _ _ _ (T53.setTop (mkF m 106 #[.val (.long qe), .second, .val (.long qp), .second, .val (.int di), .val (.long qq), .second, .val (.int fl), .val (.int (1 : Int32)), .val (.int (1 : Int32)), .val (.ref ix), .val (.int (0 : Int32)), .val (.int (1 : Int32)), .unset, .unset, .unset, .unset] [(.int (0 : Int32)), (.ref ix)]))
      obtain ⟨cq54, kq54, q54a, q54b, q54c⟩ := isOf hZ rfl E_ix
      obtain ⟨_, _, ⟨T54, L54, k54, n54⟩, -, X54, ⟨Lc54, hQ54, l54, y54, z54⟩, st54⟩ := X53.virtualBack hx (y := (⟨"com/example/ferrylog/ferrylog/store/LiveIndex", "last", "(I)I"⟩ : MethodName)) (z := (⟨"com/example/ferrylog/ferrylog/store/LiveIndex", "last", "(I)I"⟩ : MethodName)) hown (mvT hZ (hw _ (List.mem_of_getElem? (i := 65) rfl))) (mvT hZ (hw _ (List.mem_of_getElem? (i := 66) rfl))) (notFace_of_selects (args := #[]) (mvT hZ (hw _ (List.mem_of_getElem? (i := 68) rfl)))) (mvT hZ (hw _ (List.mem_of_getElem? (i := 68) rfl))) (mvT hZ (hw _ (List.mem_of_getElem? (i := 67) rfl))) (by decide) (backOf (W := 0) (rm10 l Z a0 hw [] ix (0 : Int32) bl (up (up (up (up (up (up (up (up (up (up (up (up (up (up (up (up (fun _ => (0 : Int64)) 0 (0 : Int64)) 1 (-1 : Int64)) 3 (4294967295 : Int64)) 4 (0 : Int64)) 5 (-1 : Int64)) 7 (4294967295 : Int64)) 0 qe) 3 (((4294967295 : Int64) &&& (-4294967296 : Int64)) ||| ((0 : Int32).toInt64))) 0 (qe + (1 : Int64))) 2 (qe + (1 : Int64))) 7 (((4294967295 : Int64) &&& (-4294967296 : Int64)) ||| ((1 : Int32).toInt64))) 4 ((0 : Int64) + (1 : Int64))) 6 ((0 : Int64) + (1 : Int64))) 3 ((((4294967295 : Int64) &&& (-4294967296 : Int64)) ||| ((0 : Int32).toInt64)) + (4294967296 : Int64))) 3 (((((4294967295 : Int64) &&& (-4294967296 : Int64)) ||| ((0 : Int32).toInt64)) + (4294967296 : Int64)) ||| (4294967295 : Int64))) 7 ((((4294967295 : Int64) &&& (-4294967296 : Int64)) ||| ((1 : Int32).toInt64)) ||| (4294967295 : Int64))) 0 T53.heap n0 Z53 F_lines_ix A_bl ne_ix_bl rfl (by decide)) hZ (hw _ (List.mem_of_getElem? (i := 69) rfl)) (hw _ (List.mem_of_getElem? (i := 2) rfl)) (by decide) (by decide)) q54a q54c (g := (mkF m 106 #[.val (.long qe), .second, .val (.long qp), .second, .val (.int di), .val (.long qq), .second, .val (.int fl), .val (.int (1 : Int32)), .val (.int (1 : Int32)), .val (.ref ix), .val (.int (0 : Int32)), .val (.int (1 : Int32)), .unset, .unset, .unset, .unset] [(.int (0 : Int32)), (.ref ix)])) rfl (by rw [hml]; rfl) (Steps.refl _) (argsL := [(.int (0 : Int32))]) (rest := []) (lenOf pd_0_3 rfl) rfl (by show 2 * 0 + _ ≤ _; exact Nat.le_of_eq rfl) (hb hby at_106) (fun _ _ => ⟨rfl, rfl, (by decide : 5 + 0 ≤ _), (by decide : 3272 + 0 ≤ _)⟩)
      dsimp only [Pt.U, Pt.locs, Pt.cells, Pt.slots] at X54 l54 y54 z54 st54 hQ54
      subst l54 y54 z54
      obtain ⟨rfl, N54q, K54q⟩ := hQ54
      have N54 := Fr.app N53 N54q
      refine Go.step (fun t k => st54.trans k) ?_
      show Go _ _ _ _ _ _ _ (T54.setTop (mkF m 109 #[.val (.long qe), .second, .val (.long qp), .second, .val (.int di), .val (.long qq), .second, .val (.int fl), .val (.int (1 : Int32)), .val (.int (1 : Int32)), .val (.ref ix), .val (.int (0 : Int32)), .val (.int (1 : Int32)), .unset, .unset, .unset, .unset] [(.int ((((((4294967295 : Int64) &&& (-4294967296 : Int64)) ||| ((0 : Int32).toInt64)) + (4294967296 : Int64)) ||| (4294967295 : Int64)).toInt32))]))
      refine Go.step (fun t k => XS.iconst X54.here hx rfl (hb hby at_109) k) ?_
      show Go _ _ _ _ _ _ _ (T54.setTop (mkF m 110 #[.val (.long qe), .second, .val (.long qp), .second, .val (.int di), .val (.long qq), .second, .val (.int fl), .val (.int (1 : Int32)), .val (.int (1 : Int32)), .val (.ref ix), .val (.int (0 : Int32)), .val (.int (1 : Int32)), .unset, .unset, .unset, .unset] [(.int (-1 : Int32)), (.int ((((((4294967295 : Int64) &&& (-4294967296 : Int64)) ||| ((0 : Int32).toInt64)) + (4294967296 : Int64)) ||| (4294967295 : Int64)).toInt32))]))
      refine Go.step (fun t k => XS.icmpYes X54.here hx rfl (pc0 := 110) (pc' := 115) rfl (hb hby at_110) rfl (teq ((by decide +kernel) : ((((((4294967295 : Int64) &&& (-4294967296 : Int64)) ||| ((0 : Int32).toInt64)) + (4294967296 : Int64)) ||| (4294967295 : Int64)).toInt32) = (-1 : Int32))).1 (by decide) (by decide) k) ?_
      show Go _ _ _ _ _ _ _ (T54.setTop (mkF m 115 #[.val (.long qe), .second, .val (.long qp), .second, .val (.int di), .val (.long qq), .second, .val (.int fl), .val (.int (1 : Int32)), .val (.int (1 : Int32)), .val (.ref ix), .val (.int (0 : Int32)), .val (.int (1 : Int32)), .unset, .unset, .unset, .unset] []))
      refine Go.step (fun t k => XS.aload X54.here hx rfl (hb hby at_115) rfl rfl k) ?_
      show Go _ _ _ _ _ _ _ (T54.setTop (mkF m 117 #[.val (.long qe), .second, .val (.long qp), .second, .val (.int di), .val (.long qq), .second, .val (.int fl), .val (.int (1 : Int32)), .val (.int (1 : Int32)), .val (.ref ix), .val (.int (0 : Int32)), .val (.int (1 : Int32)), .unset, .unset, .unset, .unset] [(.ref ix)]))
      refine Go.step (fun t k => XS.iload X54.here hx rfl (hb hby at_117) rfl k) ?_
      show Go _ _ _ _ _ _ _ (T54.setTop (mkF m 119 #[.val (.long qe), .second, .val (.long qp), .second, .val (.int di), .val (.long qq), .second, .val (.int fl), .val (.int (1 : Int32)), .val (.int (1 : Int32)), .val (.ref ix), .val (.int (0 : Int32)), .val (.int (1 : Int32)), .unset, .unset, .unset, .unset] [(.int (0 : Int32)), (.ref ix)]))
      obtain ⟨cq55, kq55, q55a, q55b, q55c⟩ := isOf hZ K54q E_ix
      obtain ⟨_, _, ⟨T55, L55, k55, n55⟩, -, X55, ⟨Lc55, hQ55, l55, y55, z55⟩, st55⟩ := X54.virtualBack hx (y := (⟨"com/example/ferrylog/ferrylog/store/LiveIndex", "giveOffset", "(I)J"⟩ : MethodName)) (z := (⟨"com/example/ferrylog/ferrylog/store/LiveIndex", "giveOffset", "(I)J"⟩ : MethodName)) hown (mvT hZ (hw _ (List.mem_of_getElem? (i := 54) rfl))) (mvT hZ (hw _ (List.mem_of_getElem? (i := 55) rfl))) (notFace_of_selects (args := #[]) (mvT hZ (hw _ (List.mem_of_getElem? (i := 57) rfl)))) (mvT hZ (hw _ (List.mem_of_getElem? (i := 57) rfl))) (mvT hZ (hw _ (List.mem_of_getElem? (i := 56) rfl))) (by decide) (backOf (W := 0) (rm8 l Z a0 hw [] ix (0 : Int32) bl (up (up (up (up (up (up (up (up (up (up (up (up (up (up (up (up (fun _ => (0 : Int64)) 0 (0 : Int64)) 1 (-1 : Int64)) 3 (4294967295 : Int64)) 4 (0 : Int64)) 5 (-1 : Int64)) 7 (4294967295 : Int64)) 0 qe) 3 (((4294967295 : Int64) &&& (-4294967296 : Int64)) ||| ((0 : Int32).toInt64))) 0 (qe + (1 : Int64))) 2 (qe + (1 : Int64))) 7 (((4294967295 : Int64) &&& (-4294967296 : Int64)) ||| ((1 : Int32).toInt64))) 4 ((0 : Int64) + (1 : Int64))) 6 ((0 : Int64) + (1 : Int64))) 3 ((((4294967295 : Int64) &&& (-4294967296 : Int64)) ||| ((0 : Int32).toInt64)) + (4294967296 : Int64))) 3 (((((4294967295 : Int64) &&& (-4294967296 : Int64)) ||| ((0 : Int32).toInt64)) + (4294967296 : Int64)) ||| (4294967295 : Int64))) 7 ((((4294967295 : Int64) &&& (-4294967296 : Int64)) ||| ((1 : Int32).toInt64)) ||| (4294967295 : Int64))) 0 T53.heap n0 Z53 F_lines_ix A_bl ne_ix_bl o46_g_bl rfl (by decide)) hZ (hw _ (List.mem_of_getElem? (i := 58) rfl)) (hw _ (List.mem_of_getElem? (i := 2) rfl)) (by decide) (by decide)) q55a q55c (g := (mkF m 119 #[.val (.long qe), .second, .val (.long qp), .second, .val (.int di), .val (.long qq), .second, .val (.int fl), .val (.int (1 : Int32)), .val (.int (1 : Int32)), .val (.ref ix), .val (.int (0 : Int32)), .val (.int (1 : Int32)), .unset, .unset, .unset, .unset] [(.int (0 : Int32)), (.ref ix)])) rfl (by rw [hml]; rfl) (Steps.refl _) (argsL := [(.int (0 : Int32))]) (rest := []) (lenOf pd_0_4 rfl) rfl (by show 2 * 0 + _ ≤ _; exact Nat.le_of_eq rfl) (hb hby at_119) (fun _ _ => ⟨rfl, K54q, (by decide : 5 + 0 ≤ _), (by decide : 3272 + 0 ≤ _)⟩)
      dsimp only [Pt.U, Pt.locs, Pt.cells, Pt.slots] at X55 l55 y55 z55 st55 hQ55
      subst l55 y55 z55
      obtain ⟨rfl, N55q, K55q, o55_A_bl⟩ := hQ55
      have N55 := Fr.app N54 N55q
      replace E_ix := E_ix.keep K55q
      replace A_br := A_br.keep K55q (ninS (Ne.symm o46_ne_bl_br) nin0)
      replace A_bq := A_bq.keep K55q (ninS (Ne.symm o46_ne_bl_bq) nin0)
      replace A_bf := A_bf.keep K55q (ninS (Ne.symm o46_ne_bl_bf) nin0)
      replace F_lines_ix := F_lines_ix.keep K55q (ninS ne_ix_bl nin0)
      replace F_records_ix := F_records_ix.keep K55q (ninS ne_ix_bl nin0)
      replace F_runRecords_ix := F_runRecords_ix.keep K55q (ninS ne_ix_bl nin0)
      replace F_runFirsts_ix := F_runFirsts_ix.keep K55q (ninS ne_ix_bl nin0)
      replace F_topics_ix := F_topics_ix.keep K55q (ninS ne_ix_bl nin0)
      replace F_recordCount_ix := F_recordCount_ix.keep K55q (ninS ne_ix_bl nin0)
      replace F_runCount_ix := F_runCount_ix.keep K55q (ninS ne_ix_bl nin0)
      replace F_origin_ix := F_origin_ix.keep K55q (ninS ne_ix_bl nin0)
      have Z55 := Nat.le_trans Z53 K55q.1
      have A_bl := o55_A_bl
      refine Go.step (fun t k => st55.trans k) ?_
      show Go _ _ _ _ _ _ _ (T55.setTop (mkF m 122 #[.val (.long qe), .second, .val (.long qp), .second, .val (.int di), .val (.long qq), .second, .val (.int fl), .val (.int (1 : Int32)), .val (.int (1 : Int32)), .val (.ref ix), .val (.int (0 : Int32)), .val (.int (1 : Int32)), .unset, .unset, .unset, .unset] [(.long ((qe + (1 : Int64)) + (((((((4294967295 : Int64) &&& (-4294967296 : Int64)) ||| ((0 : Int32).toInt64)) + (4294967296 : Int64)) ||| (4294967295 : Int64)).toUInt64 >>> ((32 : Int32) &&& 0x3f).toInt64.toUInt64).toInt64)))]))
      refine Go.step (fun t k => XS.lstore X55.here hx rfl (hb hby at_122) rfl (l' := #[.val (.long qe), .second, .val (.long qp), .second, .val (.int di), .val (.long qq), .second, .val (.int fl), .val (.int (1 : Int32)), .val (.int (1 : Int32)), .val (.ref ix), .val (.int (0 : Int32)), .val (.int (1 : Int32)), .val (.long ((qe + (1 : Int64)) + (((((((4294967295 : Int64) &&& (-4294967296 : Int64)) ||| ((0 : Int32).toInt64)) + (4294967296 : Int64)) ||| (4294967295 : Int64)).toUInt64 >>> ((32 : Int32) &&& 0x3f).toInt64.toUInt64).toInt64))), .second, .unset, .unset]) rfl k) ?_
      show Go _ _ _ _ _ _ _ (T55.setTop (mkF m 124 #[.val (.long qe), .second, .val (.long qp), .second, .val (.int di), .val (.long qq), .second, .val (.int fl), .val (.int (1 : Int32)), .val (.int (1 : Int32)), .val (.ref ix), .val (.int (0 : Int32)), .val (.int (1 : Int32)), .val (.long ((qe + (1 : Int64)) + (((((((4294967295 : Int64) &&& (-4294967296 : Int64)) ||| ((0 : Int32).toInt64)) + (4294967296 : Int64)) ||| (4294967295 : Int64)).toUInt64 >>> ((32 : Int32) &&& 0x3f).toInt64.toUInt64).toInt64))), .second, .unset, .unset] []))
      refine Go.step (fun t k => XS.lload X55.here hx rfl (hb hby at_124) rfl k) ?_
      show Go _ _ _ _ _ _ _ (T55.setTop (mkF m 126 #[.val (.long qe), .second, .val (.long qp), .second, .val (.int di), .val (.long qq), .second, .val (.int fl), .val (.int (1 : Int32)), .val (.int (1 : Int32)), .val (.ref ix), .val (.int (0 : Int32)), .val (.int (1 : Int32)), .val (.long ((qe + (1 : Int64)) + (((((((4294967295 : Int64) &&& (-4294967296 : Int64)) ||| ((0 : Int32).toInt64)) + (4294967296 : Int64)) ||| (4294967295 : Int64)).toUInt64 >>> ((32 : Int32) &&& 0x3f).toInt64.toUInt64).toInt64))), .second, .unset, .unset] [(.long ((qe + (1 : Int64)) + (((((((4294967295 : Int64) &&& (-4294967296 : Int64)) ||| ((0 : Int32).toInt64)) + (4294967296 : Int64)) ||| (4294967295 : Int64)).toUInt64 >>> ((32 : Int32) &&& 0x3f).toInt64.toUInt64).toInt64)))]))
      refine Go.step (fun t k => XS.lloadN X55.here hx rfl (hb hby at_126) rfl k) ?_
      show Go _ _ _ _ _ _ _ (T55.setTop (mkF m 127 #[.val (.long qe), .second, .val (.long qp), .second, .val (.int di), .val (.long qq), .second, .val (.int fl), .val (.int (1 : Int32)), .val (.int (1 : Int32)), .val (.ref ix), .val (.int (0 : Int32)), .val (.int (1 : Int32)), .val (.long ((qe + (1 : Int64)) + (((((((4294967295 : Int64) &&& (-4294967296 : Int64)) ||| ((0 : Int32).toInt64)) + (4294967296 : Int64)) ||| (4294967295 : Int64)).toUInt64 >>> ((32 : Int32) &&& 0x3f).toInt64.toUInt64).toInt64))), .second, .unset, .unset] [(.long qe), (.long ((qe + (1 : Int64)) + (((((((4294967295 : Int64) &&& (-4294967296 : Int64)) ||| ((0 : Int32).toInt64)) + (4294967296 : Int64)) ||| (4294967295 : Int64)).toUInt64 >>> ((32 : Int32) &&& 0x3f).toInt64.toUInt64).toInt64)))]))
      refine Go.step (fun t k => XS.lconst X55.here hx rfl (hb hby at_127) k) ?_
      show Go _ _ _ _ _ _ _ (T55.setTop (mkF m 128 #[.val (.long qe), .second, .val (.long qp), .second, .val (.int di), .val (.long qq), .second, .val (.int fl), .val (.int (1 : Int32)), .val (.int (1 : Int32)), .val (.ref ix), .val (.int (0 : Int32)), .val (.int (1 : Int32)), .val (.long ((qe + (1 : Int64)) + (((((((4294967295 : Int64) &&& (-4294967296 : Int64)) ||| ((0 : Int32).toInt64)) + (4294967296 : Int64)) ||| (4294967295 : Int64)).toUInt64 >>> ((32 : Int32) &&& 0x3f).toInt64.toUInt64).toInt64))), .second, .unset, .unset] [(.long (1 : Int64)), (.long qe), (.long ((qe + (1 : Int64)) + (((((((4294967295 : Int64) &&& (-4294967296 : Int64)) ||| ((0 : Int32).toInt64)) + (4294967296 : Int64)) ||| (4294967295 : Int64)).toUInt64 >>> ((32 : Int32) &&& 0x3f).toInt64.toUInt64).toInt64)))]))
      refine Go.step (fun t k => XS.ladd X55.here hx rfl (hb hby at_128) rfl k) ?_
      show Go _ _ _ _ _ _ _ (T55.setTop (mkF m 129 #[.val (.long qe), .second, .val (.long qp), .second, .val (.int di), .val (.long qq), .second, .val (.int fl), .val (.int (1 : Int32)), .val (.int (1 : Int32)), .val (.ref ix), .val (.int (0 : Int32)), .val (.int (1 : Int32)), .val (.long ((qe + (1 : Int64)) + (((((((4294967295 : Int64) &&& (-4294967296 : Int64)) ||| ((0 : Int32).toInt64)) + (4294967296 : Int64)) ||| (4294967295 : Int64)).toUInt64 >>> ((32 : Int32) &&& 0x3f).toInt64.toUInt64).toInt64))), .second, .unset, .unset] [(.long (qe + (1 : Int64))), (.long ((qe + (1 : Int64)) + (((((((4294967295 : Int64) &&& (-4294967296 : Int64)) ||| ((0 : Int32).toInt64)) + (4294967296 : Int64)) ||| (4294967295 : Int64)).toUInt64 >>> ((32 : Int32) &&& 0x3f).toInt64.toUInt64).toInt64)))]))
      refine Go.step (fun t k => XS.iload X55.here hx rfl (hb hby at_129) rfl k) ?_
      show Go _ _ _ _ _ _ _ (T55.setTop (mkF m 131 #[.val (.long qe), .second, .val (.long qp), .second, .val (.int di), .val (.long qq), .second, .val (.int fl), .val (.int (1 : Int32)), .val (.int (1 : Int32)), .val (.ref ix), .val (.int (0 : Int32)), .val (.int (1 : Int32)), .val (.long ((qe + (1 : Int64)) + (((((((4294967295 : Int64) &&& (-4294967296 : Int64)) ||| ((0 : Int32).toInt64)) + (4294967296 : Int64)) ||| (4294967295 : Int64)).toUInt64 >>> ((32 : Int32) &&& 0x3f).toInt64.toUInt64).toInt64))), .second, .unset, .unset] [(.int (1 : Int32)), (.long (qe + (1 : Int64))), (.long ((qe + (1 : Int64)) + (((((((4294967295 : Int64) &&& (-4294967296 : Int64)) ||| ((0 : Int32).toInt64)) + (4294967296 : Int64)) ||| (4294967295 : Int64)).toUInt64 >>> ((32 : Int32) &&& 0x3f).toInt64.toUInt64).toInt64)))]))
      refine Go.step (fun t k => XS.ifNo X55.here hx rfl (hb hby at_131) rfl ((if0 _ _).trans (feq (by decide : ¬ (1 : Int32) = (0 : Int32))).1) k) ?_
      show Go _ _ _ _ _ _ _ (T55.setTop (mkF m 134 #[.val (.long qe), .second, .val (.long qp), .second, .val (.int di), .val (.long qq), .second, .val (.int fl), .val (.int (1 : Int32)), .val (.int (1 : Int32)), .val (.ref ix), .val (.int (0 : Int32)), .val (.int (1 : Int32)), .val (.long ((qe + (1 : Int64)) + (((((((4294967295 : Int64) &&& (-4294967296 : Int64)) ||| ((0 : Int32).toInt64)) + (4294967296 : Int64)) ||| (4294967295 : Int64)).toUInt64 >>> ((32 : Int32) &&& 0x3f).toInt64.toUInt64).toInt64))), .second, .unset, .unset] [(.long (qe + (1 : Int64))), (.long ((qe + (1 : Int64)) + (((((((4294967295 : Int64) &&& (-4294967296 : Int64)) ||| ((0 : Int32).toInt64)) + (4294967296 : Int64)) ||| (4294967295 : Int64)).toUInt64 >>> ((32 : Int32) &&& 0x3f).toInt64.toUInt64).toInt64)))]))
      refine Go.step (fun t k => XS.lconst X55.here hx rfl (hb hby at_134) k) ?_
      show Go _ _ _ _ _ _ _ (T55.setTop (mkF m 135 #[.val (.long qe), .second, .val (.long qp), .second, .val (.int di), .val (.long qq), .second, .val (.int fl), .val (.int (1 : Int32)), .val (.int (1 : Int32)), .val (.ref ix), .val (.int (0 : Int32)), .val (.int (1 : Int32)), .val (.long ((qe + (1 : Int64)) + (((((((4294967295 : Int64) &&& (-4294967296 : Int64)) ||| ((0 : Int32).toInt64)) + (4294967296 : Int64)) ||| (4294967295 : Int64)).toUInt64 >>> ((32 : Int32) &&& 0x3f).toInt64.toUInt64).toInt64))), .second, .unset, .unset] [(.long (1 : Int64)), (.long (qe + (1 : Int64))), (.long ((qe + (1 : Int64)) + (((((((4294967295 : Int64) &&& (-4294967296 : Int64)) ||| ((0 : Int32).toInt64)) + (4294967296 : Int64)) ||| (4294967295 : Int64)).toUInt64 >>> ((32 : Int32) &&& 0x3f).toInt64.toUInt64).toInt64)))]))
      refine Go.step (fun t k => XS.goto X55.here hx rfl (pc0 := 135) (pc' := 139) rfl (hb hby at_135) (by decide) (by decide) k) ?_
      show Go _ _ _ _ _ _ _ (T55.setTop (mkF m 139 #[.val (.long qe), .second, .val (.long qp), .second, .val (.int di), .val (.long qq), .second, .val (.int fl), .val (.int (1 : Int32)), .val (.int (1 : Int32)), .val (.ref ix), .val (.int (0 : Int32)), .val (.int (1 : Int32)), .val (.long ((qe + (1 : Int64)) + (((((((4294967295 : Int64) &&& (-4294967296 : Int64)) ||| ((0 : Int32).toInt64)) + (4294967296 : Int64)) ||| (4294967295 : Int64)).toUInt64 >>> ((32 : Int32) &&& 0x3f).toInt64.toUInt64).toInt64))), .second, .unset, .unset] [(.long (1 : Int64)), (.long (qe + (1 : Int64))), (.long ((qe + (1 : Int64)) + (((((((4294967295 : Int64) &&& (-4294967296 : Int64)) ||| ((0 : Int32).toInt64)) + (4294967296 : Int64)) ||| (4294967295 : Int64)).toUInt64 >>> ((32 : Int32) &&& 0x3f).toInt64.toUInt64).toInt64)))]))
      refine Go.step (fun t k => XS.ladd X55.here hx rfl (hb hby at_139) rfl k) ?_
      show Go _ _ _ _ _ _ _ (T55.setTop (mkF m 140 #[.val (.long qe), .second, .val (.long qp), .second, .val (.int di), .val (.long qq), .second, .val (.int fl), .val (.int (1 : Int32)), .val (.int (1 : Int32)), .val (.ref ix), .val (.int (0 : Int32)), .val (.int (1 : Int32)), .val (.long ((qe + (1 : Int64)) + (((((((4294967295 : Int64) &&& (-4294967296 : Int64)) ||| ((0 : Int32).toInt64)) + (4294967296 : Int64)) ||| (4294967295 : Int64)).toUInt64 >>> ((32 : Int32) &&& 0x3f).toInt64.toUInt64).toInt64))), .second, .unset, .unset] [(.long ((qe + (1 : Int64)) + (1 : Int64))), (.long ((qe + (1 : Int64)) + (((((((4294967295 : Int64) &&& (-4294967296 : Int64)) ||| ((0 : Int32).toInt64)) + (4294967296 : Int64)) ||| (4294967295 : Int64)).toUInt64 >>> ((32 : Int32) &&& 0x3f).toInt64.toUInt64).toInt64)))]))
      refine Go.step (fun t k => XS.lcmp X55.here hx rfl (hb hby at_140) rfl k) ?_
      show Go _ _ _ _ _ _ _ (T55.setTop (mkF m 141 #[.val (.long qe), .second, .val (.long qp), .second, .val (.int di), .val (.long qq), .second, .val (.int fl), .val (.int (1 : Int32)), .val (.int (1 : Int32)), .val (.ref ix), .val (.int (0 : Int32)), .val (.int (1 : Int32)), .val (.long ((qe + (1 : Int64)) + (((((((4294967295 : Int64) &&& (-4294967296 : Int64)) ||| ((0 : Int32).toInt64)) + (4294967296 : Int64)) ||| (4294967295 : Int64)).toUInt64 >>> ((32 : Int32) &&& 0x3f).toInt64.toUInt64).toInt64))), .second, .unset, .unset] [(.int (lcmpW ((qe + (1 : Int64)) + (((((((4294967295 : Int64) &&& (-4294967296 : Int64)) ||| ((0 : Int32).toInt64)) + (4294967296 : Int64)) ||| (4294967295 : Int64)).toUInt64 >>> ((32 : Int32) &&& 0x3f).toInt64.toUInt64).toInt64)) ((qe + (1 : Int64)) + (1 : Int64))))]))
      refine Go.step (fun t k => XS.ifYes X55.here hx rfl (pc0 := 141) (pc' := 146) rfl (hb hby at_141) rfl ((if0 _ _).trans (teq (own_lweq (own_a1 (by decide +kernel) : ((qe + (1 : Int64)) + (((((((4294967295 : Int64) &&& (-4294967296 : Int64)) ||| ((0 : Int32).toInt64)) + (4294967296 : Int64)) ||| (4294967295 : Int64)).toUInt64 >>> ((32 : Int32) &&& 0x3f).toInt64.toUInt64).toInt64)) = ((qe + (1 : Int64)) + (1 : Int64))))).1) (by decide) (by decide) k) ?_
      show Go _ _ _ _ _ _ _ (T55.setTop (mkF m 146 #[.val (.long qe), .second, .val (.long qp), .second, .val (.int di), .val (.long qq), .second, .val (.int fl), .val (.int (1 : Int32)), .val (.int (1 : Int32)), .val (.ref ix), .val (.int (0 : Int32)), .val (.int (1 : Int32)), .val (.long ((qe + (1 : Int64)) + (((((((4294967295 : Int64) &&& (-4294967296 : Int64)) ||| ((0 : Int32).toInt64)) + (4294967296 : Int64)) ||| (4294967295 : Int64)).toUInt64 >>> ((32 : Int32) &&& 0x3f).toInt64.toUInt64).toInt64))), .second, .unset, .unset] []))
      refine Go.step (fun t k => XS.iload X55.here hx rfl (hb hby at_146) rfl k) ?_
      show Go _ _ _ _ _ _ _ (T55.setTop (mkF m 148 #[.val (.long qe), .second, .val (.long qp), .second, .val (.int di), .val (.long qq), .second, .val (.int fl), .val (.int (1 : Int32)), .val (.int (1 : Int32)), .val (.ref ix), .val (.int (0 : Int32)), .val (.int (1 : Int32)), .val (.long ((qe + (1 : Int64)) + (((((((4294967295 : Int64) &&& (-4294967296 : Int64)) ||| ((0 : Int32).toInt64)) + (4294967296 : Int64)) ||| (4294967295 : Int64)).toUInt64 >>> ((32 : Int32) &&& 0x3f).toInt64.toUInt64).toInt64))), .second, .unset, .unset] [(.int (1 : Int32))]))
      refine Go.step (fun t k => XS.ifNo X55.here hx rfl (hb hby at_148) rfl ((if0 _ _).trans (feq (by decide : ¬ (1 : Int32) = (0 : Int32))).1) k) ?_
      show Go _ _ _ _ _ _ _ (T55.setTop (mkF m 151 #[.val (.long qe), .second, .val (.long qp), .second, .val (.int di), .val (.long qq), .second, .val (.int fl), .val (.int (1 : Int32)), .val (.int (1 : Int32)), .val (.ref ix), .val (.int (0 : Int32)), .val (.int (1 : Int32)), .val (.long ((qe + (1 : Int64)) + (((((((4294967295 : Int64) &&& (-4294967296 : Int64)) ||| ((0 : Int32).toInt64)) + (4294967296 : Int64)) ||| (4294967295 : Int64)).toUInt64 >>> ((32 : Int32) &&& 0x3f).toInt64.toUInt64).toInt64))), .second, .unset, .unset] []))
      refine Go.step (fun t k => XS.lconst X55.here hx rfl (hb hby at_151) k) ?_
      show Go _ _ _ _ _ _ _ (T55.setTop (mkF m 152 #[.val (.long qe), .second, .val (.long qp), .second, .val (.int di), .val (.long qq), .second, .val (.int fl), .val (.int (1 : Int32)), .val (.int (1 : Int32)), .val (.ref ix), .val (.int (0 : Int32)), .val (.int (1 : Int32)), .val (.long ((qe + (1 : Int64)) + (((((((4294967295 : Int64) &&& (-4294967296 : Int64)) ||| ((0 : Int32).toInt64)) + (4294967296 : Int64)) ||| (4294967295 : Int64)).toUInt64 >>> ((32 : Int32) &&& 0x3f).toInt64.toUInt64).toInt64))), .second, .unset, .unset] [(.long (1 : Int64))]))
      refine Go.step (fun t k => XS.goto X55.here hx rfl (pc0 := 152) (pc' := 156) rfl (hb hby at_152) (by decide) (by decide) k) ?_
      show Go _ _ _ _ _ _ _ (T55.setTop (mkF m 156 #[.val (.long qe), .second, .val (.long qp), .second, .val (.int di), .val (.long qq), .second, .val (.int fl), .val (.int (1 : Int32)), .val (.int (1 : Int32)), .val (.ref ix), .val (.int (0 : Int32)), .val (.int (1 : Int32)), .val (.long ((qe + (1 : Int64)) + (((((((4294967295 : Int64) &&& (-4294967296 : Int64)) ||| ((0 : Int32).toInt64)) + (4294967296 : Int64)) ||| (4294967295 : Int64)).toUInt64 >>> ((32 : Int32) &&& 0x3f).toInt64.toUInt64).toInt64))), .second, .unset, .unset] [(.long (1 : Int64))]))
      refine Go.step (fun t k => XS.lstore X55.here hx rfl (hb hby at_156) rfl (l' := #[.val (.long qe), .second, .val (.long qp), .second, .val (.int di), .val (.long qq), .second, .val (.int fl), .val (.int (1 : Int32)), .val (.int (1 : Int32)), .val (.ref ix), .val (.int (0 : Int32)), .val (.int (1 : Int32)), .val (.long ((qe + (1 : Int64)) + (((((((4294967295 : Int64) &&& (-4294967296 : Int64)) ||| ((0 : Int32).toInt64)) + (4294967296 : Int64)) ||| (4294967295 : Int64)).toUInt64 >>> ((32 : Int32) &&& 0x3f).toInt64.toUInt64).toInt64))), .second, .val (.long (1 : Int64)), .second]) rfl k) ?_
      show Go _ _ _ _ _ _ _ (T55.setTop (mkF m 158 #[.val (.long qe), .second, .val (.long qp), .second, .val (.int di), .val (.long qq), .second, .val (.int fl), .val (.int (1 : Int32)), .val (.int (1 : Int32)), .val (.ref ix), .val (.int (0 : Int32)), .val (.int (1 : Int32)), .val (.long ((qe + (1 : Int64)) + (((((((4294967295 : Int64) &&& (-4294967296 : Int64)) ||| ((0 : Int32).toInt64)) + (4294967296 : Int64)) ||| (4294967295 : Int64)).toUInt64 >>> ((32 : Int32) &&& 0x3f).toInt64.toUInt64).toInt64))), .second, .val (.long (1 : Int64)), .second] []))
      refine Go.step (fun t k => XS.aload X55.here hx rfl (hb hby at_158) rfl rfl k) ?_
      show Go _ _ _ _ _ _ _ (T55.setTop (mkF m 160 #[.val (.long qe), .second, .val (.long qp), .second, .val (.int di), .val (.long qq), .second, .val (.int fl), .val (.int (1 : Int32)), .val (.int (1 : Int32)), .val (.ref ix), .val (.int (0 : Int32)), .val (.int (1 : Int32)), .val (.long ((qe + (1 : Int64)) + (((((((4294967295 : Int64) &&& (-4294967296 : Int64)) ||| ((0 : Int32).toInt64)) + (4294967296 : Int64)) ||| (4294967295 : Int64)).toUInt64 >>> ((32 : Int32) &&& 0x3f).toInt64.toUInt64).toInt64))), .second, .val (.long (1 : Int64)), .second] [(.ref ix)]))
      refine Go.step (fun t k => XS.iload X55.here hx rfl (hb hby at_160) rfl k) ?_
      show Go _ _ _ _ _ _ _ (T55.setTop (mkF m 162 #[.val (.long qe), .second, .val (.long qp), .second, .val (.int di), .val (.long qq), .second, .val (.int fl), .val (.int (1 : Int32)), .val (.int (1 : Int32)), .val (.ref ix), .val (.int (0 : Int32)), .val (.int (1 : Int32)), .val (.long ((qe + (1 : Int64)) + (((((((4294967295 : Int64) &&& (-4294967296 : Int64)) ||| ((0 : Int32).toInt64)) + (4294967296 : Int64)) ||| (4294967295 : Int64)).toUInt64 >>> ((32 : Int32) &&& 0x3f).toInt64.toUInt64).toInt64))), .second, .val (.long (1 : Int64)), .second] [(.int (1 : Int32)), (.ref ix)]))
      refine Go.step (fun t k => XS.lload X55.here hx rfl (hb hby at_162) rfl k) ?_
      show Go _ _ _ _ _ _ _ (T55.setTop (mkF m 164 #[.val (.long qe), .second, .val (.long qp), .second, .val (.int di), .val (.long qq), .second, .val (.int fl), .val (.int (1 : Int32)), .val (.int (1 : Int32)), .val (.ref ix), .val (.int (0 : Int32)), .val (.int (1 : Int32)), .val (.long ((qe + (1 : Int64)) + (((((((4294967295 : Int64) &&& (-4294967296 : Int64)) ||| ((0 : Int32).toInt64)) + (4294967296 : Int64)) ||| (4294967295 : Int64)).toUInt64 >>> ((32 : Int32) &&& 0x3f).toInt64.toUInt64).toInt64))), .second, .val (.long (1 : Int64)), .second] [(.long qq), (.int (1 : Int32)), (.ref ix)]))
      obtain ⟨cq56, kq56, q56a, q56b, q56c⟩ := isOf hZ rfl E_ix
      obtain ⟨_, _, ⟨T56, L56, k56, n56⟩, -, X56, ⟨Lc56, hQ56, l56, y56, z56⟩, st56⟩ := X55.virtualBack hx (y := (⟨"com/example/ferrylog/ferrylog/store/LiveIndex", "addRecord", "(IJ)V"⟩ : MethodName)) (z := (⟨"com/example/ferrylog/ferrylog/store/LiveIndex", "addRecord", "(IJ)V"⟩ : MethodName)) hown (mvT hZ (hw _ (List.mem_of_getElem? (i := 33) rfl))) (mvT hZ (hw _ (List.mem_of_getElem? (i := 34) rfl))) (notFace_of_selects (args := #[]) (mvT hZ (hw _ (List.mem_of_getElem? (i := 36) rfl)))) (mvT hZ (hw _ (List.mem_of_getElem? (i := 36) rfl))) (mvT hZ (hw _ (List.mem_of_getElem? (i := 35) rfl))) (by decide) (backOf (W := 0) (rm5_0 l Z a0 hw [] ix (1 : Int32) qq bl br bq bf (2 : Int32) (0 : Int32) qp 1 0 (up (up (up (up (up (up (up (up (up (up (up (up (up (up (up (up (up (fun _ => (0 : Int64)) 0 (0 : Int64)) 1 (-1 : Int64)) 3 (4294967295 : Int64)) 4 (0 : Int64)) 5 (-1 : Int64)) 7 (4294967295 : Int64)) 0 qe) 3 (((4294967295 : Int64) &&& (-4294967296 : Int64)) ||| ((0 : Int32).toInt64))) 0 (qe + (1 : Int64))) 2 (qe + (1 : Int64))) 7 (((4294967295 : Int64) &&& (-4294967296 : Int64)) ||| ((1 : Int32).toInt64))) 4 ((0 : Int64) + (1 : Int64))) 6 ((0 : Int64) + (1 : Int64))) 3 ((((4294967295 : Int64) &&& (-4294967296 : Int64)) ||| ((0 : Int32).toInt64)) + (4294967296 : Int64))) 3 (((((4294967295 : Int64) &&& (-4294967296 : Int64)) ||| ((0 : Int32).toInt64)) + (4294967296 : Int64)) ||| (4294967295 : Int64))) 7 ((((4294967295 : Int64) &&& (-4294967296 : Int64)) ||| ((1 : Int32).toInt64)) ||| (4294967295 : Int64))) 3 ((((((4294967295 : Int64) &&& (-4294967296 : Int64)) ||| ((0 : Int32).toInt64)) + (4294967296 : Int64)) ||| (4294967295 : Int64)) + (4294967296 : Int64))) (up (up (up (up (up (up (fun _ => (0 : Int32)) 0 ((qp - qp).toInt32)) 1 ((0 : Int32) ||| (-2147483648 : Int32))) 2 ((4294967295 : Int64).toInt32)) 3 (((qp + (di.toInt64)) - qp).toInt32)) 4 ((1 : Int32) ||| (-2147483648 : Int32))) 5 ((4294967295 : Int64).toInt32)) (up (up (fun _ => (0 : Int32)) 0 (0 : Int32)) 1 (1 : Int32)) (up (up (fun _ => (0 : Int64)) 0 qe) 1 (0 : Int64)) T55.heap n0 Z55 F_lines_ix F_records_ix F_runRecords_ix F_runFirsts_ix F_topics_ix F_recordCount_ix F_runCount_ix F_origin_ix E_ix g_ix o46_g_bl o46_g_br o46_g_bq o46_g_bf o46_ne_bl_br o46_ne_bl_bq o46_ne_bl_bf o46_ne_br_bq o46_ne_br_bf o46_ne_bq_bf A_bl A_br A_bq A_bf rfl (by decide) rfl (by decide) (show (((((4294967295 : Int64) &&& (-4294967296 : Int64)) ||| ((1 : Int32).toInt64)) ||| (4294967295 : Int64)).toInt32) < (0 : Int32) by decide +kernel) (own_pp qq)) hZ (hw _ (List.mem_of_getElem? (i := 37) rfl)) (hw _ (List.mem_of_getElem? (i := 2) rfl)) (by decide) (by decide)) q56a q56c (g := (mkF m 164 #[.val (.long qe), .second, .val (.long qp), .second, .val (.int di), .val (.long qq), .second, .val (.int fl), .val (.int (1 : Int32)), .val (.int (1 : Int32)), .val (.ref ix), .val (.int (0 : Int32)), .val (.int (1 : Int32)), .val (.long ((qe + (1 : Int64)) + (((((((4294967295 : Int64) &&& (-4294967296 : Int64)) ||| ((0 : Int32).toInt64)) + (4294967296 : Int64)) ||| (4294967295 : Int64)).toUInt64 >>> ((32 : Int32) &&& 0x3f).toInt64.toUInt64).toInt64))), .second, .val (.long (1 : Int64)), .second] [(.long qq), (.int (1 : Int32)), (.ref ix)])) rfl (by rw [hml]; rfl) (Steps.refl _) (argsL := [(.int (1 : Int32)), (.long qq)]) (rest := []) (lenOf pd_0_2 rfl) rfl (by show 2 * 0 + _ ≤ _; exact Nat.le_of_eq rfl) (hb hby at_164) (fun _ _ => ⟨rfl, rfl, (by decide : 5 + 0 ≤ _), (by decide : 3272 + 0 ≤ _)⟩)
      dsimp only [Pt.U, Pt.locs, Pt.cells, Pt.slots] at X56 l56 y56 z56 st56 hQ56
      subst l56 y56 z56
      obtain ⟨rfl, N56q, K56q, o56_F_lines_ix, o56_F_records_ix, o56_F_runRecords_ix, o56_F_runFirsts_ix, o56_F_topics_ix, o56_F_recordCount_ix, o56_F_runCount_ix, o56_F_origin_ix, o56_A_bl, o56_A_br, o56_A_bq, o56_A_bf⟩ := hQ56
      have N56 := Fr.app N55 N56q
      replace E_ix := E_ix.keep K56q
      have Z56 := Nat.le_trans Z55 K56q.1
      have F_lines_ix := o56_F_lines_ix
      have F_records_ix := o56_F_records_ix
      have F_runRecords_ix := o56_F_runRecords_ix
      have F_runFirsts_ix := o56_F_runFirsts_ix
      have F_topics_ix := o56_F_topics_ix
      have F_recordCount_ix := o56_F_recordCount_ix
      have F_runCount_ix := o56_F_runCount_ix
      have F_origin_ix := o56_F_origin_ix
      have A_bl := o56_A_bl
      have A_br := o56_A_br
      have A_bq := o56_A_bq
      have A_bf := o56_A_bf
      refine Go.step (fun t k => st56.trans k) ?_
      show Go _ _ _ _ _ _ _ (T56.setTop (mkF m 167 #[.val (.long qe), .second, .val (.long qp), .second, .val (.int di), .val (.long qq), .second, .val (.int fl), .val (.int (1 : Int32)), .val (.int (1 : Int32)), .val (.ref ix), .val (.int (0 : Int32)), .val (.int (1 : Int32)), .val (.long ((qe + (1 : Int64)) + (((((((4294967295 : Int64) &&& (-4294967296 : Int64)) ||| ((0 : Int32).toInt64)) + (4294967296 : Int64)) ||| (4294967295 : Int64)).toUInt64 >>> ((32 : Int32) &&& 0x3f).toInt64.toUInt64).toInt64))), .second, .val (.long (1 : Int64)), .second] []))
      refine Go.step (fun t k => XS.aload X56.here hx rfl (hb hby at_167) rfl rfl k) ?_
      show Go _ _ _ _ _ _ _ (T56.setTop (mkF m 169 #[.val (.long qe), .second, .val (.long qp), .second, .val (.int di), .val (.long qq), .second, .val (.int fl), .val (.int (1 : Int32)), .val (.int (1 : Int32)), .val (.ref ix), .val (.int (0 : Int32)), .val (.int (1 : Int32)), .val (.long ((qe + (1 : Int64)) + (((((((4294967295 : Int64) &&& (-4294967296 : Int64)) ||| ((0 : Int32).toInt64)) + (4294967296 : Int64)) ||| (4294967295 : Int64)).toUInt64 >>> ((32 : Int32) &&& 0x3f).toInt64.toUInt64).toInt64))), .second, .val (.long (1 : Int64)), .second] [(.ref ix)]))
      refine Go.step (fun t k => XS.iload X56.here hx rfl (hb hby at_169) rfl k) ?_
      show Go _ _ _ _ _ _ _ (T56.setTop (mkF m 171 #[.val (.long qe), .second, .val (.long qp), .second, .val (.int di), .val (.long qq), .second, .val (.int fl), .val (.int (1 : Int32)), .val (.int (1 : Int32)), .val (.ref ix), .val (.int (0 : Int32)), .val (.int (1 : Int32)), .val (.long ((qe + (1 : Int64)) + (((((((4294967295 : Int64) &&& (-4294967296 : Int64)) ||| ((0 : Int32).toInt64)) + (4294967296 : Int64)) ||| (4294967295 : Int64)).toUInt64 >>> ((32 : Int32) &&& 0x3f).toInt64.toUInt64).toInt64))), .second, .val (.long (1 : Int64)), .second] [(.int (1 : Int32)), (.ref ix)]))
      obtain ⟨cq57, kq57, q57a, q57b, q57c⟩ := isOf hZ rfl E_ix
      obtain ⟨_, _, ⟨T57, L57, k57, n57⟩, -, X57, ⟨Lc57, hQ57, l57, y57, z57⟩, st57⟩ := X56.virtualBack hx (y := (⟨"com/example/ferrylog/ferrylog/store/LiveIndex", "last", "(I)I"⟩ : MethodName)) (z := (⟨"com/example/ferrylog/ferrylog/store/LiveIndex", "last", "(I)I"⟩ : MethodName)) hown (mvT hZ (hw _ (List.mem_of_getElem? (i := 65) rfl))) (mvT hZ (hw _ (List.mem_of_getElem? (i := 66) rfl))) (notFace_of_selects (args := #[]) (mvT hZ (hw _ (List.mem_of_getElem? (i := 68) rfl)))) (mvT hZ (hw _ (List.mem_of_getElem? (i := 68) rfl))) (mvT hZ (hw _ (List.mem_of_getElem? (i := 67) rfl))) (by decide) (backOf (W := 0) (rm10 l Z a0 hw [] ix (1 : Int32) bl (up (up (up (up (up (up (up (up (up (up (up (up (up (up (up (up (up (up (up (up (fun _ => (0 : Int64)) 0 (0 : Int64)) 1 (-1 : Int64)) 3 (4294967295 : Int64)) 4 (0 : Int64)) 5 (-1 : Int64)) 7 (4294967295 : Int64)) 0 qe) 3 (((4294967295 : Int64) &&& (-4294967296 : Int64)) ||| ((0 : Int32).toInt64))) 0 (qe + (1 : Int64))) 2 (qe + (1 : Int64))) 7 (((4294967295 : Int64) &&& (-4294967296 : Int64)) ||| ((1 : Int32).toInt64))) 4 ((0 : Int64) + (1 : Int64))) 6 ((0 : Int64) + (1 : Int64))) 3 ((((4294967295 : Int64) &&& (-4294967296 : Int64)) ||| ((0 : Int32).toInt64)) + (4294967296 : Int64))) 3 (((((4294967295 : Int64) &&& (-4294967296 : Int64)) ||| ((0 : Int32).toInt64)) + (4294967296 : Int64)) ||| (4294967295 : Int64))) 7 ((((4294967295 : Int64) &&& (-4294967296 : Int64)) ||| ((1 : Int32).toInt64)) ||| (4294967295 : Int64))) 3 ((((((4294967295 : Int64) &&& (-4294967296 : Int64)) ||| ((0 : Int32).toInt64)) + (4294967296 : Int64)) ||| (4294967295 : Int64)) + (4294967296 : Int64))) 7 ((((((4294967295 : Int64) &&& (-4294967296 : Int64)) ||| ((1 : Int32).toInt64)) ||| (4294967295 : Int64)) &&& (-4294967296 : Int64)) ||| ((0 : Int32).toInt64))) 4 (((0 : Int64) + (1 : Int64)) + (1 : Int64))) 6 (((0 : Int64) + (1 : Int64)) + (1 : Int64))) 1 T56.heap n0 Z56 F_lines_ix A_bl ne_ix_bl rfl (by decide)) hZ (hw _ (List.mem_of_getElem? (i := 69) rfl)) (hw _ (List.mem_of_getElem? (i := 2) rfl)) (by decide) (by decide)) q57a q57c (g := (mkF m 171 #[.val (.long qe), .second, .val (.long qp), .second, .val (.int di), .val (.long qq), .second, .val (.int fl), .val (.int (1 : Int32)), .val (.int (1 : Int32)), .val (.ref ix), .val (.int (0 : Int32)), .val (.int (1 : Int32)), .val (.long ((qe + (1 : Int64)) + (((((((4294967295 : Int64) &&& (-4294967296 : Int64)) ||| ((0 : Int32).toInt64)) + (4294967296 : Int64)) ||| (4294967295 : Int64)).toUInt64 >>> ((32 : Int32) &&& 0x3f).toInt64.toUInt64).toInt64))), .second, .val (.long (1 : Int64)), .second] [(.int (1 : Int32)), (.ref ix)])) rfl (by rw [hml]; rfl) (Steps.refl _) (argsL := [(.int (1 : Int32))]) (rest := []) (lenOf pd_0_3 rfl) rfl (by show 2 * 0 + _ ≤ _; exact Nat.le_of_eq rfl) (hb hby at_171) (fun _ _ => ⟨rfl, rfl, (by decide : 5 + 0 ≤ _), (by decide : 3272 + 0 ≤ _)⟩)
      dsimp only [Pt.U, Pt.locs, Pt.cells, Pt.slots] at X57 l57 y57 z57 st57 hQ57
      subst l57 y57 z57
      obtain ⟨rfl, N57q, K57q⟩ := hQ57
      have N57 := Fr.app N56 N57q
      refine Go.step (fun t k => st57.trans k) ?_
      show Go _ _ _ _ _ _ _ (T57.setTop (mkF m 174 #[.val (.long qe), .second, .val (.long qp), .second, .val (.int di), .val (.long qq), .second, .val (.int fl), .val (.int (1 : Int32)), .val (.int (1 : Int32)), .val (.ref ix), .val (.int (0 : Int32)), .val (.int (1 : Int32)), .val (.long ((qe + (1 : Int64)) + (((((((4294967295 : Int64) &&& (-4294967296 : Int64)) ||| ((0 : Int32).toInt64)) + (4294967296 : Int64)) ||| (4294967295 : Int64)).toUInt64 >>> ((32 : Int32) &&& 0x3f).toInt64.toUInt64).toInt64))), .second, .val (.long (1 : Int64)), .second] [(.int (((((((4294967295 : Int64) &&& (-4294967296 : Int64)) ||| ((1 : Int32).toInt64)) ||| (4294967295 : Int64)) &&& (-4294967296 : Int64)) ||| ((0 : Int32).toInt64)).toInt32))]))
      refine Go.step (fun t k => XS.ifYes X57.here hx rfl (pc0 := 174) (pc' := 179) rfl (hb hby at_174) rfl ((if0 _ _).trans (teq ((by decide +kernel) : (((((((4294967295 : Int64) &&& (-4294967296 : Int64)) ||| ((1 : Int32).toInt64)) ||| (4294967295 : Int64)) &&& (-4294967296 : Int64)) ||| ((0 : Int32).toInt64)).toInt32) = (0 : Int32))).1) (by decide) (by decide) k) ?_
      show Go _ _ _ _ _ _ _ (T57.setTop (mkF m 179 #[.val (.long qe), .second, .val (.long qp), .second, .val (.int di), .val (.long qq), .second, .val (.int fl), .val (.int (1 : Int32)), .val (.int (1 : Int32)), .val (.ref ix), .val (.int (0 : Int32)), .val (.int (1 : Int32)), .val (.long ((qe + (1 : Int64)) + (((((((4294967295 : Int64) &&& (-4294967296 : Int64)) ||| ((0 : Int32).toInt64)) + (4294967296 : Int64)) ||| (4294967295 : Int64)).toUInt64 >>> ((32 : Int32) &&& 0x3f).toInt64.toUInt64).toInt64))), .second, .val (.long (1 : Int64)), .second] []))
      refine Go.step (fun t k => XS.aload X57.here hx rfl (hb hby at_179) rfl rfl k) ?_
      show Go _ _ _ _ _ _ _ (T57.setTop (mkF m 181 #[.val (.long qe), .second, .val (.long qp), .second, .val (.int di), .val (.long qq), .second, .val (.int fl), .val (.int (1 : Int32)), .val (.int (1 : Int32)), .val (.ref ix), .val (.int (0 : Int32)), .val (.int (1 : Int32)), .val (.long ((qe + (1 : Int64)) + (((((((4294967295 : Int64) &&& (-4294967296 : Int64)) ||| ((0 : Int32).toInt64)) + (4294967296 : Int64)) ||| (4294967295 : Int64)).toUInt64 >>> ((32 : Int32) &&& 0x3f).toInt64.toUInt64).toInt64))), .second, .val (.long (1 : Int64)), .second] [(.ref ix)]))
      refine Go.step (fun t k => XS.iconst X57.here hx rfl (hb hby at_181) k) ?_
      show Go _ _ _ _ _ _ _ (T57.setTop (mkF m 182 #[.val (.long qe), .second, .val (.long qp), .second, .val (.int di), .val (.long qq), .second, .val (.int fl), .val (.int (1 : Int32)), .val (.int (1 : Int32)), .val (.ref ix), .val (.int (0 : Int32)), .val (.int (1 : Int32)), .val (.long ((qe + (1 : Int64)) + (((((((4294967295 : Int64) &&& (-4294967296 : Int64)) ||| ((0 : Int32).toInt64)) + (4294967296 : Int64)) ||| (4294967295 : Int64)).toUInt64 >>> ((32 : Int32) &&& 0x3f).toInt64.toUInt64).toInt64))), .second, .val (.long (1 : Int64)), .second] [(.int (0 : Int32)), (.ref ix)]))
      obtain ⟨cq58, kq58, q58a, q58b, q58c⟩ := isOf hZ K57q E_ix
      obtain ⟨_, _, ⟨T58, L58, k58, n58⟩, -, X58, ⟨Lc58, hQ58, l58, y58, z58⟩, st58⟩ := X57.virtualBack hx (y := (⟨"com/example/ferrylog/ferrylog/store/LiveIndex", "before", "(I)I"⟩ : MethodName)) (z := (⟨"com/example/ferrylog/ferrylog/store/LiveIndex", "before", "(I)I"⟩ : MethodName)) hown (mvT hZ (hw _ (List.mem_of_getElem? (i := 70) rfl))) (mvT hZ (hw _ (List.mem_of_getElem? (i := 71) rfl))) (notFace_of_selects (args := #[]) (mvT hZ (hw _ (List.mem_of_getElem? (i := 73) rfl)))) (mvT hZ (hw _ (List.mem_of_getElem? (i := 73) rfl))) (mvT hZ (hw _ (List.mem_of_getElem? (i := 72) rfl))) (by decide) (backOf (W := 0) (rm11 l Z a0 hw [] ix br (up (up (up (up (up (up (up (up (up (fun _ => (0 : Int32)) 0 ((qp - qp).toInt32)) 1 ((0 : Int32) ||| (-2147483648 : Int32))) 2 ((4294967295 : Int64).toInt32)) 3 (((qp + (di.toInt64)) - qp).toInt32)) 4 ((1 : Int32) ||| (-2147483648 : Int32))) 5 ((4294967295 : Int64).toInt32)) 0 ((qq - qq).toInt32)) 1 ((1 : Int32) ||| (-2147483648 : Int32))) 2 (((((4294967295 : Int64) &&& (-4294967296 : Int64)) ||| ((1 : Int32).toInt64)) ||| (4294967295 : Int64)).toInt32)) T56.heap n0 Z56 F_records_ix A_br) hZ (hw _ (List.mem_of_getElem? (i := 74) rfl)) (hw _ (List.mem_of_getElem? (i := 2) rfl)) (by decide) (by decide)) q58a q58c (g := (mkF m 182 #[.val (.long qe), .second, .val (.long qp), .second, .val (.int di), .val (.long qq), .second, .val (.int fl), .val (.int (1 : Int32)), .val (.int (1 : Int32)), .val (.ref ix), .val (.int (0 : Int32)), .val (.int (1 : Int32)), .val (.long ((qe + (1 : Int64)) + (((((((4294967295 : Int64) &&& (-4294967296 : Int64)) ||| ((0 : Int32).toInt64)) + (4294967296 : Int64)) ||| (4294967295 : Int64)).toUInt64 >>> ((32 : Int32) &&& 0x3f).toInt64.toUInt64).toInt64))), .second, .val (.long (1 : Int64)), .second] [(.int (0 : Int32)), (.ref ix)])) rfl (by rw [hml]; rfl) (Steps.refl _) (argsL := [(.int (0 : Int32))]) (rest := []) (lenOf pd_0_3 rfl) rfl (by show 2 * 0 + _ ≤ _; exact Nat.le_of_eq rfl) (hb hby at_182) (fun _ _ => ⟨rfl, K57q, (by decide : 5 + 0 ≤ _), (by decide : 3272 + 0 ≤ _)⟩)
      dsimp only [Pt.U, Pt.locs, Pt.cells, Pt.slots] at X58 l58 y58 z58 st58 hQ58
      subst l58 y58 z58
      obtain ⟨rfl, N58q, K58q⟩ := hQ58
      have N58 := Fr.app N57 N58q
      refine Go.step (fun t k => st58.trans k) ?_
      show Go _ _ _ _ _ _ _ (T58.setTop (mkF m 185 #[.val (.long qe), .second, .val (.long qp), .second, .val (.int di), .val (.long qq), .second, .val (.int fl), .val (.int (1 : Int32)), .val (.int (1 : Int32)), .val (.ref ix), .val (.int (0 : Int32)), .val (.int (1 : Int32)), .val (.long ((qe + (1 : Int64)) + (((((((4294967295 : Int64) &&& (-4294967296 : Int64)) ||| ((0 : Int32).toInt64)) + (4294967296 : Int64)) ||| (4294967295 : Int64)).toUInt64 >>> ((32 : Int32) &&& 0x3f).toInt64.toUInt64).toInt64))), .second, .val (.long (1 : Int64)), .second] [(.int (((((4294967295 : Int64) &&& (-4294967296 : Int64)) ||| ((1 : Int32).toInt64)) ||| (4294967295 : Int64)).toInt32))]))
      refine Go.step (fun t k => XS.iconst X58.here hx rfl (hb hby at_185) k) ?_
      show Go _ _ _ _ _ _ _ (T58.setTop (mkF m 186 #[.val (.long qe), .second, .val (.long qp), .second, .val (.int di), .val (.long qq), .second, .val (.int fl), .val (.int (1 : Int32)), .val (.int (1 : Int32)), .val (.ref ix), .val (.int (0 : Int32)), .val (.int (1 : Int32)), .val (.long ((qe + (1 : Int64)) + (((((((4294967295 : Int64) &&& (-4294967296 : Int64)) ||| ((0 : Int32).toInt64)) + (4294967296 : Int64)) ||| (4294967295 : Int64)).toUInt64 >>> ((32 : Int32) &&& 0x3f).toInt64.toUInt64).toInt64))), .second, .val (.long (1 : Int64)), .second] [(.int (-1 : Int32)), (.int (((((4294967295 : Int64) &&& (-4294967296 : Int64)) ||| ((1 : Int32).toInt64)) ||| (4294967295 : Int64)).toInt32))]))
      refine Go.step (fun t k => XS.icmpYes X58.here hx rfl (pc0 := 186) (pc' := 191) rfl (hb hby at_186) rfl (teq ((by decide +kernel) : (((((4294967295 : Int64) &&& (-4294967296 : Int64)) ||| ((1 : Int32).toInt64)) ||| (4294967295 : Int64)).toInt32) = (-1 : Int32))).1 (by decide) (by decide) k) ?_
      show Go _ _ _ _ _ _ _ (T58.setTop (mkF m 191 #[.val (.long qe), .second, .val (.long qp), .second, .val (.int di), .val (.long qq), .second, .val (.int fl), .val (.int (1 : Int32)), .val (.int (1 : Int32)), .val (.ref ix), .val (.int (0 : Int32)), .val (.int (1 : Int32)), .val (.long ((qe + (1 : Int64)) + (((((((4294967295 : Int64) &&& (-4294967296 : Int64)) ||| ((0 : Int32).toInt64)) + (4294967296 : Int64)) ||| (4294967295 : Int64)).toUInt64 >>> ((32 : Int32) &&& 0x3f).toInt64.toUInt64).toInt64))), .second, .val (.long (1 : Int64)), .second] []))
      refine Go.step (fun t k => XS.aload X58.here hx rfl (hb hby at_191) rfl rfl k) ?_
      show Go _ _ _ _ _ _ _ (T58.setTop (mkF m 193 #[.val (.long qe), .second, .val (.long qp), .second, .val (.int di), .val (.long qq), .second, .val (.int fl), .val (.int (1 : Int32)), .val (.int (1 : Int32)), .val (.ref ix), .val (.int (0 : Int32)), .val (.int (1 : Int32)), .val (.long ((qe + (1 : Int64)) + (((((((4294967295 : Int64) &&& (-4294967296 : Int64)) ||| ((0 : Int32).toInt64)) + (4294967296 : Int64)) ||| (4294967295 : Int64)).toUInt64 >>> ((32 : Int32) &&& 0x3f).toInt64.toUInt64).toInt64))), .second, .val (.long (1 : Int64)), .second] [(.ref ix)]))
      refine Go.step (fun t k => XS.iconst X58.here hx rfl (hb hby at_193) k) ?_
      show Go _ _ _ _ _ _ _ (T58.setTop (mkF m 194 #[.val (.long qe), .second, .val (.long qp), .second, .val (.int di), .val (.long qq), .second, .val (.int fl), .val (.int (1 : Int32)), .val (.int (1 : Int32)), .val (.ref ix), .val (.int (0 : Int32)), .val (.int (1 : Int32)), .val (.long ((qe + (1 : Int64)) + (((((((4294967295 : Int64) &&& (-4294967296 : Int64)) ||| ((0 : Int32).toInt64)) + (4294967296 : Int64)) ||| (4294967295 : Int64)).toUInt64 >>> ((32 : Int32) &&& 0x3f).toInt64.toUInt64).toInt64))), .second, .val (.long (1 : Int64)), .second] [(.int (0 : Int32)), (.ref ix)]))
      obtain ⟨cq59, kq59, q59a, q59b, q59c⟩ := isOf hZ K58q E_ix
      obtain ⟨_, _, ⟨T59, L59, k59, n59⟩, -, X59, ⟨Lc59, hQ59, l59, y59, z59⟩, st59⟩ := X58.virtualBack hx (y := (⟨"com/example/ferrylog/ferrylog/store/LiveIndex", "runFirst", "(I)J"⟩ : MethodName)) (z := (⟨"com/example/ferrylog/ferrylog/store/LiveIndex", "runFirst", "(I)J"⟩ : MethodName)) hown (mvT hZ (hw _ (List.mem_of_getElem? (i := 75) rfl))) (mvT hZ (hw _ (List.mem_of_getElem? (i := 76) rfl))) (notFace_of_selects (args := #[]) (mvT hZ (hw _ (List.mem_of_getElem? (i := 78) rfl)))) (mvT hZ (hw _ (List.mem_of_getElem? (i := 78) rfl))) (mvT hZ (hw _ (List.mem_of_getElem? (i := 77) rfl))) (by decide) (backOf (W := 0) (rm12 l Z a0 hw [] ix bq bf (up (up (up (fun _ => (0 : Int32)) 0 (0 : Int32)) 1 (1 : Int32)) 0 (0 : Int32)) (up (up (up (fun _ => (0 : Int64)) 0 qe) 1 (0 : Int64)) 0 ((0 : Int64) + (1 : Int64))) T56.heap n0 Z56 F_runFirsts_ix F_runRecords_ix F_runCount_ix A_bq A_bf rfl) hZ (hw _ (List.mem_of_getElem? (i := 79) rfl)) (hw _ (List.mem_of_getElem? (i := 2) rfl)) (by decide) (by decide)) q59a q59c (g := (mkF m 194 #[.val (.long qe), .second, .val (.long qp), .second, .val (.int di), .val (.long qq), .second, .val (.int fl), .val (.int (1 : Int32)), .val (.int (1 : Int32)), .val (.ref ix), .val (.int (0 : Int32)), .val (.int (1 : Int32)), .val (.long ((qe + (1 : Int64)) + (((((((4294967295 : Int64) &&& (-4294967296 : Int64)) ||| ((0 : Int32).toInt64)) + (4294967296 : Int64)) ||| (4294967295 : Int64)).toUInt64 >>> ((32 : Int32) &&& 0x3f).toInt64.toUInt64).toInt64))), .second, .val (.long (1 : Int64)), .second] [(.int (0 : Int32)), (.ref ix)])) rfl (by rw [hml]; rfl) (Steps.refl _) (argsL := [(.int (0 : Int32))]) (rest := []) (lenOf pd_0_4 rfl) rfl (by show 2 * 0 + _ ≤ _; exact Nat.le_of_eq rfl) (hb hby at_194) (fun _ _ => ⟨rfl, K58q, (by decide : 5 + 0 ≤ _), (by decide : 3272 + 0 ≤ _)⟩)
      dsimp only [Pt.U, Pt.locs, Pt.cells, Pt.slots] at X59 l59 y59 z59 st59 hQ59
      subst l59 y59 z59
      obtain ⟨rfl, N59q, K59q⟩ := hQ59
      have N59 := Fr.app N58 N59q
      refine Go.step (fun t k => st59.trans k) ?_
      show Go _ _ _ _ _ _ _ (T59.setTop (mkF m 197 #[.val (.long qe), .second, .val (.long qp), .second, .val (.int di), .val (.long qq), .second, .val (.int fl), .val (.int (1 : Int32)), .val (.int (1 : Int32)), .val (.ref ix), .val (.int (0 : Int32)), .val (.int (1 : Int32)), .val (.long ((qe + (1 : Int64)) + (((((((4294967295 : Int64) &&& (-4294967296 : Int64)) ||| ((0 : Int32).toInt64)) + (4294967296 : Int64)) ||| (4294967295 : Int64)).toUInt64 >>> ((32 : Int32) &&& 0x3f).toInt64.toUInt64).toInt64))), .second, .val (.long (1 : Int64)), .second] [(.long ((0 : Int64) + (1 : Int64)))]))
      refine Go.step (fun t k => XS.lload X59.here hx rfl (hb hby at_197) rfl k) ?_
      show Go _ _ _ _ _ _ _ (T59.setTop (mkF m 199 #[.val (.long qe), .second, .val (.long qp), .second, .val (.int di), .val (.long qq), .second, .val (.int fl), .val (.int (1 : Int32)), .val (.int (1 : Int32)), .val (.ref ix), .val (.int (0 : Int32)), .val (.int (1 : Int32)), .val (.long ((qe + (1 : Int64)) + (((((((4294967295 : Int64) &&& (-4294967296 : Int64)) ||| ((0 : Int32).toInt64)) + (4294967296 : Int64)) ||| (4294967295 : Int64)).toUInt64 >>> ((32 : Int32) &&& 0x3f).toInt64.toUInt64).toInt64))), .second, .val (.long (1 : Int64)), .second] [(.long (1 : Int64)), (.long ((0 : Int64) + (1 : Int64)))]))
      refine Go.step (fun t k => XS.lcmp X59.here hx rfl (hb hby at_199) rfl k) ?_
      show Go _ _ _ _ _ _ _ (T59.setTop (mkF m 200 #[.val (.long qe), .second, .val (.long qp), .second, .val (.int di), .val (.long qq), .second, .val (.int fl), .val (.int (1 : Int32)), .val (.int (1 : Int32)), .val (.ref ix), .val (.int (0 : Int32)), .val (.int (1 : Int32)), .val (.long ((qe + (1 : Int64)) + (((((((4294967295 : Int64) &&& (-4294967296 : Int64)) ||| ((0 : Int32).toInt64)) + (4294967296 : Int64)) ||| (4294967295 : Int64)).toUInt64 >>> ((32 : Int32) &&& 0x3f).toInt64.toUInt64).toInt64))), .second, .val (.long (1 : Int64)), .second] [(.int (lcmpW ((0 : Int64) + (1 : Int64)) (1 : Int64)))]))
      refine Go.step (fun t k => XS.ifNo X59.here hx rfl (hb hby at_200) rfl ((if0 _ _).trans (teq (own_lweq ((by decide +kernel) : ((0 : Int64) + (1 : Int64)) = (1 : Int64)))).2) k) ?_
      show Go _ _ _ _ _ _ _ (T59.setTop (mkF m 203 #[.val (.long qe), .second, .val (.long qp), .second, .val (.int di), .val (.long qq), .second, .val (.int fl), .val (.int (1 : Int32)), .val (.int (1 : Int32)), .val (.ref ix), .val (.int (0 : Int32)), .val (.int (1 : Int32)), .val (.long ((qe + (1 : Int64)) + (((((((4294967295 : Int64) &&& (-4294967296 : Int64)) ||| ((0 : Int32).toInt64)) + (4294967296 : Int64)) ||| (4294967295 : Int64)).toUInt64 >>> ((32 : Int32) &&& 0x3f).toInt64.toUInt64).toInt64))), .second, .val (.long (1 : Int64)), .second] []))
      refine Go.step (fun t k => XS.iconst X59.here hx rfl (hb hby at_203) k) ?_
      show Go _ _ _ _ _ _ _ (T59.setTop (mkF m 204 #[.val (.long qe), .second, .val (.long qp), .second, .val (.int di), .val (.long qq), .second, .val (.int fl), .val (.int (1 : Int32)), .val (.int (1 : Int32)), .val (.ref ix), .val (.int (0 : Int32)), .val (.int (1 : Int32)), .val (.long ((qe + (1 : Int64)) + (((((((4294967295 : Int64) &&& (-4294967296 : Int64)) ||| ((0 : Int32).toInt64)) + (4294967296 : Int64)) ||| (4294967295 : Int64)).toUInt64 >>> ((32 : Int32) &&& 0x3f).toInt64.toUInt64).toInt64))), .second, .val (.long (1 : Int64)), .second] [(.int (1 : Int32))]))
      refine Go.step (fun t k => XS.goto X59.here hx rfl (pc0 := 204) (pc' := 208) rfl (hb hby at_204) (by decide) (by decide) k) ?_
      show Go _ _ _ _ _ _ _ (T59.setTop (mkF m 208 #[.val (.long qe), .second, .val (.long qp), .second, .val (.int di), .val (.long qq), .second, .val (.int fl), .val (.int (1 : Int32)), .val (.int (1 : Int32)), .val (.ref ix), .val (.int (0 : Int32)), .val (.int (1 : Int32)), .val (.long ((qe + (1 : Int64)) + (((((((4294967295 : Int64) &&& (-4294967296 : Int64)) ||| ((0 : Int32).toInt64)) + (4294967296 : Int64)) ||| (4294967295 : Int64)).toUInt64 >>> ((32 : Int32) &&& 0x3f).toInt64.toUInt64).toInt64))), .second, .val (.long (1 : Int64)), .second] [(.int (1 : Int32))]))
      refine Go.retN X59 Bd.notSynchronized hx (t := .boolean) Bd.returns (by simp) (hb hby at_208) (by decide) (by decide) (1 : Int32) rfl ?_
      rw [K59q]
      exact ⟨rfl, N59⟩
set_option maxRecDepth 65536 in
set_option maxHeartbeats 40000000 in
theorem comes_1 {Post : Tables → Env → Array Value → State → Outcome → State → Prop} (hpost : ∀ tb e args s v u, (limb_1_1.after args s (.returned v) u = true ∧ limb_1_2.after args s (.returned v) u = true ∧ True) → FrameEnd s (.returned v) u (Jvm.fieldLocs frame_1_writes args s ++ Jvm.arrayLocs frame_1_arrays args s ++ Jvm.staticLocs frame_1_statics s) 24 6656 → Post tb e args s (.returned v) u) :
    ArmFor flags0 classFile x code maxLocals ret World_1 tables_1 room_1 Calls_1 rest_1 Pre_1 Post := by
  intro l hfl _ _ p e ha hc hk s m args below hf hA hF happ hP
  obtain ⟨hcalls, hrest, hpre⟩ := hP
  obtain ⟨-, -, -, hnamed, -, -, -, hat⟩ := (Spec.applies_iff hf).mp happ
  obtain ⟨hg, hn⟩ := and_e (Cond.before_iff.mp (show (Jvm.Cond.and given_1 narrow_1).before args s = true from hpre))
  obtain ⟨gv1, gv2⟩ := and_e hg
  obtain ⟨gv3, gv4⟩ := and_e gv2
  obtain ⟨gv5, gv6⟩ := and_e gv4
  obtain ⟨gv7, gv8⟩ := and_e gv6
  obtain ⟨gv9, gv10⟩ := and_e gv8
  obtain ⟨w0, w1, w2, w3, w4, rfl⟩ : ∃ w0 w1 w2 w3 w4 : Value, args = #[w0, w1, w2, w3, w4] := by
    have hs : args.size = 5 := by simpa [Cond.value, given_1] using gv1
    obtain ⟨L⟩ := args
    match L, hs with
    | [w0, w1, w2, w3, w4], _ => exact ⟨w0, w1, w2, w3, w4, rfl⟩
  have hw := fun d (hd : d ∈ tables_1) => atoms_spec (ws := Jvm.Cond.code x code maxLocals ret :: tables_1) hat d (List.mem_cons_of_mem _ hd)
  have hfit : Fit s := fun {y c} hc i hi => by
    obtain ⟨ha, rfl⟩ := Array.getElem?_eq_some_iff.mp hc
    have q := List.all_eq_true.mp ((Array.all_eq_true_iff_forall_mem.mp hF) _ (Array.getElem_mem ha)) i (List.mem_range.mpr hi)
    simpa [Array.getElem?_eq_getElem hi] using q
  obtain ⟨i0, ei0⟩ := isL_v gv3
  obtain rfl : w0 = (.long i0) := Option.some.inj ei0
  obtain ⟨i1, ei1⟩ := isL_v gv5
  obtain rfl : w1 = (.long i1) := Option.some.inj ei1
  obtain ⟨i2, ei2⟩ := is_v gv7
  obtain rfl : w2 = (.int i2) := Option.some.inj ei2
  obtain ⟨i3, ei3⟩ := isL_v gv9
  obtain rfl : w3 = (.long i3) := Option.some.inj ei3
  obtain ⟨i4, ei4⟩ := is_v gv10
  obtain rfl : w4 = (.int i4) := Option.some.inj ei4
  obtain ⟨n, o, h1, h2, h3, _, L, rfl, ⟨rfl, N⟩, hq⟩ := rm0 l s _ hw tables_1 i0 i1 i2 i3 i4 s.heap s.heap.size (Nat.le_refl _) p e ha hc hk s m _ below hf ((Spec.applies_iff_loose hf).mp happ).1 ⟨rfl, State.Warmed39.refl s, rfl⟩ trivial
  refine ⟨n, _, h1, h2, h3, hpost _ _ _ _ _ _ ⟨Cond.after_iff.mpr rfl, Cond.after_iff.mpr (eq_i res_at (Term.int_eval (1)) rfl), trivial⟩ ⟨hq.1, hq.2.1, (hq.2.2.sift fun y hy => Or.inr (N y hy)).mono (by decide) (by decide)⟩⟩
theorem main_1_1 : Claimed_1_1 := comes_1 fun _ _ _ _ _ _ h hF => ⟨h.1, hF⟩
theorem main_1_2 : Claimed_1_2 := comes_1 fun _ _ _ _ _ _ h hF => ⟨h.2.1, hF⟩
end Jvm.Pilot.@@N@@
namespace Jvm.Pilot.@@N@@
open Jvm Jvm.ClassFile Sem Op Lib Jvm.Free Jvm.Stand Jvm.Pilot.@@N@@.Jvm.D
/-! MADE BY PROGRAM (witnessworld.py) out of the Statement's table words and the real class files: 13 classes; the members and pool entries that the words name. The judged class is class 1, her method 1. -/
namespace start1
open Jvm.ClassFile
def u (s : String) : CpInfo := .utf8 (stringToUtf16 s)
/-- a pool by its gaps: so many unusable entries, then the entry; so many at the end -/
def gap : Nat → List CpInfo → List CpInfo
  | 0, r => r
  | n + 1, r => .unusable :: gap n r
def poolList (es : List (Nat × CpInfo)) (last : Nat) : List CpInfo := es.foldr (fun e r => gap e.1 (e.2 :: r)) (gap last [])
def pool (es : List (Nat × CpInfo)) (last : Nat) : Array CpInfo := ⟨poolList es last⟩
def fileOf (pool : Array CpInfo) (this : Nat) (attrs : Array Attribute := #[]) (ms : Array MethodInfo := #[]) (fl : Nat := 33) (sup : Nat := 0) (ifs : Array Nat := #[]) (fds : Array FieldInfo := #[]) : ClassFile where
  minorVersion := 0
  majorVersion := 65
  constantPool := pool
  accessFlags := fl
  thisClass := this
  superClass := sup
  interfaces := ifs
  fields := fds
  methods := ms
  attributes := attrs
def plain (name : String) (sup : Option ClassId) : Class where
  name := name
  kind := .ordinary
  loader := none
  accessFlags := 33
  super := sup
  interfaces := #[]
  cf := none
  fields := #[]
  methods := #[]
  instanceTypes := #[]
  staticTypes := #[]
  resolved := #[]
  callSites := []
  init := .initialized
  statics := none
  mirror := none

def pool0 : Array CpInfo := pool [(5, u "<init>"), (0, u "()V"), (1, .class_ 10), (1, u "java/lang/Object")] 113

def k0c0 : Code := { maxStack := 0, maxLocals := 1, code := object_method_1_code, exceptionTable := #[], attributes := #[] }
def k0m0 : Method := { name := "<init>", desc := "()V", sig := { parameters := [], returnType := none }, accessFlags := 1, code := some k0c0 }
/-- java/lang/Object -/
def k0 : Class := { plain "java/lang/Object" none with
  accessFlags := 33
  interfaces := #[]
  cf := some (fileOf pool0 8 #[] #[{ accessFlags := 1, nameIndex := 5, descriptorIndex := 6, attributes := #[] }] 33 0 #[] #[])
  fields := #[]
  methods := #[k0m0]
  instanceTypes := #[]
  staticTypes := #[]
  resolved := Array.replicate 124 none
  statics := none }

def pool1 : Array CpInfo := pool [(2, .class_ 4), (0, .nameAndType 5 6), (0, u "java/lang/Object"), (0, u "<init>"), (0, u "()V"), (0, .class_ 8), (0, u "com/example/ferrylog/ferrylog/store/LiveIndex"), (0, .methodref 7 3), (0, .methodref 7 11), (0, .nameAndType 12 13), (0, u "addTopic"), (0, u "()I"), (0, .methodref 7 15), (0, .nameAndType 16 17), (0, u "setEnd"), (0, u "(IJ)V"), (0, .methodref 7 19), (0, .nameAndType 20 17), (0, u "addRecord"), (0, .methodref 7 22), (0, .nameAndType 23 24), (0, u "giveOffset"), (0, u "(I)J"), (0, .methodref 7 26), (0, .nameAndType 27 6), (0, u "checkpointed"), (0, .methodref 7 29), (0, .nameAndType 30 31), (0, u "last"), (0, u "(I)I"), (0, .methodref 7 33), (0, .nameAndType 34 31), (0, u "before"), (0, .methodref 7 36), (0, .nameAndType 37 24), (0, u "runFirst"), (0, .class_ 39), (0, u "com/example/ferrylog/ferrylog/store/LiveIndexCheckpointedPinLaw"), (2, u "law"), (0, u "(JJIJI)Z")] 3

def k1m0 : Method := { name := "<init>", desc := "()V", sig := { parameters := [], returnType := none }, accessFlags := 1, code := none }
def k1c1 : Code := { maxStack := 6, maxLocals := 17, code := code, exceptionTable := #[], attributes := #[] }
def k1m1 : Method := { name := "law", desc := "(JJIJI)Z", sig := { parameters := [.long, .long, .int, .long, .int], returnType := some .boolean }, accessFlags := 9, code := some k1c1 }
/-- com/example/ferrylog/ferrylog/store/LiveIndexCheckpointedPinLaw -/
def k1 : Class := { plain "com/example/ferrylog/ferrylog/store/LiveIndexCheckpointedPinLaw" (some 0) with
  accessFlags := 49
  interfaces := #[]
  cf := some (fileOf pool1 38 #[] #[{ accessFlags := 1, nameIndex := 5, descriptorIndex := 6, attributes := #[] }, { accessFlags := 9, nameIndex := 42, descriptorIndex := 43, attributes := #[] }] 49 2 #[] #[])
  fields := #[]
  methods := #[k1m0, k1m1]
  instanceTypes := #[]
  staticTypes := #[]
  resolved := Array.replicate 47 none
  statics := none }

def pool2 : Array CpInfo := pool [(3, .methodref 4 5), (0, .class_ 6), (0, .nameAndType 7 8), (0, u "java/lang/Object"), (0, u "<init>"), (0, u "()V"), (0, .class_ 10), (0, u "com/example/ferrylog/ferrylog/store/LiveIndex"), (0, .fieldref 9 12), (0, .nameAndType 13 14), (0, u "lines"), (0, u "[J"), (0, .fieldref 9 16), (0, .nameAndType 17 18), (0, u "records"), (0, u "[I"), (0, .fieldref 9 20), (0, .nameAndType 21 18), (0, u "runRecords"), (0, .fieldref 9 23), (0, .nameAndType 24 14), (0, u "runFirsts"), (0, .fieldref 9 26), (0, .nameAndType 27 28), (0, u "topics"), (0, u "I"), (1, .class_ 32), (1, u "java/util/Arrays"), (2, .long 18446744073709551615), (1, .long 4294967295), (1, .long 4294967296), (1, .fieldref 9 42), (0, .nameAndType 43 28), (0, u "recordCount"), (0, .fieldref 9 45), (0, .nameAndType 46 47), (0, u "origin"), (0, u "J"), (3, .methodref 52 53), (0, .class_ 54), (0, .nameAndType 55 56), (0, u "java/lang/Math"), (0, u "toIntExact"), (0, u "(J)I"), (0, .integer 2147483648), (0, .methodref 9 59), (0, .nameAndType 60 61), (0, u "beginRun"), (0, u "(IJ)V"), (0, .long 18446744069414584320), (1, .fieldref 9 65), (0, .nameAndType 66 28), (0, u "runCount"), (0, .methodref 30 68), (0, .nameAndType 69 70), (0, u "binarySearch"), (0, u "([IIII)I"), (3, u "(I)I"), (4, .class_ 80), (0, u "com/example/ferrylog/ferrylog/store/LiveIndex$Recent"), (4, u "LINE"), (2, u "END"), (1, u "LAST_READ"), (1, u "RUN_END"), (1, u "LAST_AND_GIVEN"), (1, u "LOW"), (0, u "RECORD"), (0, u "RUN_START"), (0, u "FIRST_RECORDS"), (1, u "FIRST_RUNS"), (3, u "addTopic"), (0, u "()I"), (2, u "(I)J"), (0, u "setEnd"), (2, u "giveOffset"), (2, u "addRecord"), (0, u "last"), (0, u "before"), (1, u "runFirst"), (4, u "checkpointed")] 5

def k2c0 : Code := { maxStack := 2, maxLocals := 1, code := prog_211_method_1_code, exceptionTable := #[], attributes := #[] }
def k2m0 : Method := { name := "<init>", desc := "()V", sig := { parameters := [], returnType := none }, accessFlags := 0, code := some k2c0 }
def k2c1 : Code := { maxStack := 4, maxLocals := 2, code := prog_211_method_2_code, exceptionTable := #[], attributes := #[] }
def k2m1 : Method := { name := "addTopic", desc := "()I", sig := { parameters := [], returnType := some .int }, accessFlags := 0, code := some k2c1 }
def k2c2 : Code := { maxStack := 4, maxLocals := 4, code := prog_211_method_4_code, exceptionTable := #[], attributes := #[] }
def k2m2 : Method := { name := "setEnd", desc := "(IJ)V", sig := { parameters := [.int, .long], returnType := none }, accessFlags := 0, code := some k2c2 }
def k2c3 : Code := { maxStack := 6, maxLocals := 5, code := prog_211_method_7_code, exceptionTable := #[], attributes := #[] }
def k2m3 : Method := { name := "giveOffset", desc := "(I)J", sig := { parameters := [.int], returnType := some .long }, accessFlags := 0, code := some k2c3 }
def k2c4 : Code := { maxStack := 8, maxLocals := 11, code := prog_211_method_9_code, exceptionTable := #[], attributes := #[] }
def k2m4 : Method := { name := "addRecord", desc := "(IJ)V", sig := { parameters := [.int, .long], returnType := none }, accessFlags := 0, code := some k2c4 }
def k2c5 : Code := { maxStack := 5, maxLocals := 4, code := prog_211_method_10_code, exceptionTable := #[], attributes := #[] }
def k2m5 : Method := { name := "beginRun", desc := "(IJ)V", sig := { parameters := [.int, .long], returnType := none }, accessFlags := 2, code := some k2c5 }
def k2c6 : Code := { maxStack := 3, maxLocals := 2, code := prog_211_method_11_code, exceptionTable := #[], attributes := #[] }
def k2m6 : Method := { name := "last", desc := "(I)I", sig := { parameters := [.int], returnType := some .int }, accessFlags := 0, code := some k2c6 }
def k2c7 : Code := { maxStack := 3, maxLocals := 2, code := prog_211_method_12_code, exceptionTable := #[], attributes := #[] }
def k2m7 : Method := { name := "before", desc := "(I)I", sig := { parameters := [.int], returnType := some .int }, accessFlags := 0, code := some k2c7 }
def k2c8 : Code := { maxStack := 5, maxLocals := 2, code := prog_211_method_15_code, exceptionTable := #[], attributes := #[] }
def k2m8 : Method := { name := "runFirst", desc := "(I)J", sig := { parameters := [.int], returnType := some .long }, accessFlags := 0, code := some k2c8 }
def k2c9 : Code := { maxStack := 6, maxLocals := 2, code := prog_211_method_17_code, exceptionTable := #[], attributes := #[] }
def k2m9 : Method := { name := "checkpointed", desc := "()V", sig := { parameters := [], returnType := none }, accessFlags := 0, code := some k2c9 }
/-- com/example/ferrylog/ferrylog/store/LiveIndex -/
def k2 : Class := { plain "com/example/ferrylog/ferrylog/store/LiveIndex" (some 0) with
  accessFlags := 48
  interfaces := #[]
  cf := some (fileOf pool2 9 #[.nestMembers #[79]] #[{ accessFlags := 0, nameIndex := 7, descriptorIndex := 8, attributes := #[] }, { accessFlags := 0, nameIndex := 105, descriptorIndex := 106, attributes := #[] }, { accessFlags := 0, nameIndex := 110, descriptorIndex := 61, attributes := #[] }, { accessFlags := 0, nameIndex := 113, descriptorIndex := 109, attributes := #[] }, { accessFlags := 0, nameIndex := 116, descriptorIndex := 61, attributes := #[] }, { accessFlags := 2, nameIndex := 60, descriptorIndex := 61, attributes := #[] }, { accessFlags := 0, nameIndex := 117, descriptorIndex := 74, attributes := #[] }, { accessFlags := 0, nameIndex := 118, descriptorIndex := 74, attributes := #[] }, { accessFlags := 0, nameIndex := 120, descriptorIndex := 109, attributes := #[] }, { accessFlags := 0, nameIndex := 125, descriptorIndex := 8, attributes := #[] }] 48 4 #[] #[{ accessFlags := 26, nameIndex := 85, descriptorIndex := 28, attributes := #[] }, { accessFlags := 26, nameIndex := 88, descriptorIndex := 28, attributes := #[] }, { accessFlags := 26, nameIndex := 90, descriptorIndex := 28, attributes := #[] }, { accessFlags := 26, nameIndex := 92, descriptorIndex := 28, attributes := #[] }, { accessFlags := 26, nameIndex := 94, descriptorIndex := 28, attributes := #[] }, { accessFlags := 26, nameIndex := 96, descriptorIndex := 47, attributes := #[] }, { accessFlags := 26, nameIndex := 97, descriptorIndex := 28, attributes := #[] }, { accessFlags := 26, nameIndex := 98, descriptorIndex := 28, attributes := #[] }, { accessFlags := 26, nameIndex := 99, descriptorIndex := 28, attributes := #[] }, { accessFlags := 26, nameIndex := 101, descriptorIndex := 28, attributes := #[] }, { accessFlags := 2, nameIndex := 13, descriptorIndex := 14, attributes := #[] }, { accessFlags := 2, nameIndex := 27, descriptorIndex := 28, attributes := #[] }, { accessFlags := 2, nameIndex := 17, descriptorIndex := 18, attributes := #[] }, { accessFlags := 2, nameIndex := 43, descriptorIndex := 28, attributes := #[] }, { accessFlags := 2, nameIndex := 46, descriptorIndex := 47, attributes := #[] }, { accessFlags := 2, nameIndex := 21, descriptorIndex := 18, attributes := #[] }, { accessFlags := 2, nameIndex := 24, descriptorIndex := 14, attributes := #[] }, { accessFlags := 2, nameIndex := 66, descriptorIndex := 28, attributes := #[] }])
  fields := #[{ name := "LINE", type := .int, accessFlags := 26, slot := 0, constantValue := 0 }, { name := "END", type := .int, accessFlags := 26, slot := 1, constantValue := 0 }, { name := "LAST_READ", type := .int, accessFlags := 26, slot := 2, constantValue := 0 }, { name := "RUN_END", type := .int, accessFlags := 26, slot := 3, constantValue := 0 }, { name := "LAST_AND_GIVEN", type := .int, accessFlags := 26, slot := 4, constantValue := 0 }, { name := "LOW", type := .long, accessFlags := 26, slot := 5, constantValue := 0 }, { name := "RECORD", type := .int, accessFlags := 26, slot := 6, constantValue := 0 }, { name := "RUN_START", type := .int, accessFlags := 26, slot := 7, constantValue := 0 }, { name := "FIRST_RECORDS", type := .int, accessFlags := 26, slot := 8, constantValue := 0 }, { name := "FIRST_RUNS", type := .int, accessFlags := 26, slot := 9, constantValue := 0 }, { name := "lines", type := (.array .long), accessFlags := 2, slot := 0, constantValue := 0 }, { name := "topics", type := .int, accessFlags := 2, slot := 1, constantValue := 0 }, { name := "records", type := (.array .int), accessFlags := 2, slot := 2, constantValue := 0 }, { name := "recordCount", type := .int, accessFlags := 2, slot := 3, constantValue := 0 }, { name := "origin", type := .long, accessFlags := 2, slot := 4, constantValue := 0 }, { name := "runRecords", type := (.array .int), accessFlags := 2, slot := 5, constantValue := 0 }, { name := "runFirsts", type := (.array .long), accessFlags := 2, slot := 6, constantValue := 0 }, { name := "runCount", type := .int, accessFlags := 2, slot := 7, constantValue := 0 }]
  methods := #[k2m0, k2m1, k2m2, k2m3, k2m4, k2m5, k2m6, k2m7, k2m8, k2m9]
  instanceTypes := #[(.array .long), .int, (.array .int), .int, .long, (.array .int), (.array .long), .int]
  staticTypes := #[.int, .int, .int, .int, .int, .long, .int, .int, .int, .int]
  resolved := Array.replicate 131 none
  statics := none }

def pool3 : Array CpInfo := pool [(1, .class_ 2), (0, u "java/lang/Math"), (1, .class_ 6), (1, u "java/lang/Object"), (0, u "<init>"), (0, u "()V"), (89, .class_ 100), (1, u "java/lang/Math$RandomNumberGeneratorHolder"), (71, u "negativeZeroFloatBits"), (0, u "J"), (2, u "negativeZeroDoubleBits"), (68, u "$assertionsDisabled"), (0, u "Z"), (91, u "twoToTheDoubleScaleDown"), (0, u "D"), (4, u "twoToTheDoubleScaleUp"), (9, u "E"), (3, u "PI"), (2, u "TAU"), (2, u "DEGREES_TO_RADIANS"), (0, u "RADIANS_TO_DEGREES"), (39, u "toIntExact"), (0, u "(J)I")] 53

def k3m0 : Method := { name := "<init>", desc := "()V", sig := { parameters := [], returnType := none }, accessFlags := 2, code := none }
def k3c1 : Code := { maxStack := 4, maxLocals := 2, code := jdk_29_method_43_code, exceptionTable := #[], attributes := #[] }
def k3m1 : Method := { name := "toIntExact", desc := "(J)I", sig := { parameters := [.long], returnType := some .int }, accessFlags := 9, code := some k3c1 }
/-- java/lang/Math -/
def k3 : Class := { plain "java/lang/Math" (some 0) with
  accessFlags := 49
  interfaces := #[]
  cf := some (fileOf pool3 1 #[.nestMembers #[98]] #[{ accessFlags := 2, nameIndex := 7, descriptorIndex := 8, attributes := #[] }, { accessFlags := 9, nameIndex := 405, descriptorIndex := 406, attributes := #[] }] 49 4 #[] #[{ accessFlags := 25, nameIndex := 354, descriptorIndex := 339, attributes := #[] }, { accessFlags := 25, nameIndex := 358, descriptorIndex := 339, attributes := #[] }, { accessFlags := 25, nameIndex := 361, descriptorIndex := 339, attributes := #[] }, { accessFlags := 26, nameIndex := 364, descriptorIndex := 339, attributes := #[] }, { accessFlags := 26, nameIndex := 365, descriptorIndex := 339, attributes := #[] }, { accessFlags := 26, nameIndex := 172, descriptorIndex := 173, attributes := #[] }, { accessFlags := 26, nameIndex := 176, descriptorIndex := 173, attributes := #[] }, { accessFlags := 8, nameIndex := 344, descriptorIndex := 339, attributes := #[] }, { accessFlags := 8, nameIndex := 338, descriptorIndex := 339, attributes := #[] }, { accessFlags := 4120, nameIndex := 245, descriptorIndex := 246, attributes := #[] }])
  fields := #[{ name := "E", type := .double, accessFlags := 25, slot := 0, constantValue := 0 }, { name := "PI", type := .double, accessFlags := 25, slot := 1, constantValue := 0 }, { name := "TAU", type := .double, accessFlags := 25, slot := 2, constantValue := 0 }, { name := "DEGREES_TO_RADIANS", type := .double, accessFlags := 26, slot := 3, constantValue := 0 }, { name := "RADIANS_TO_DEGREES", type := .double, accessFlags := 26, slot := 4, constantValue := 0 }, { name := "negativeZeroFloatBits", type := .long, accessFlags := 26, slot := 5, constantValue := 0 }, { name := "negativeZeroDoubleBits", type := .long, accessFlags := 26, slot := 6, constantValue := 0 }, { name := "twoToTheDoubleScaleUp", type := .double, accessFlags := 8, slot := 7, constantValue := 0 }, { name := "twoToTheDoubleScaleDown", type := .double, accessFlags := 8, slot := 8, constantValue := 0 }, { name := "$assertionsDisabled", type := .boolean, accessFlags := 4120, slot := 9, constantValue := 0 }]
  methods := #[k3m0, k3m1]
  instanceTypes := #[]
  staticTypes := #[.double, .double, .double, .double, .double, .long, .long, .double, .double, .boolean]
  resolved := Array.replicate 460 none
  statics := none }

def pool4 : Array CpInfo := pool [(2, .class_ 4), (1, u "java/lang/Object"), (0, u "<init>"), (0, u "()V"), (6, .methodref 14 15), (0, .class_ 16), (0, .nameAndType 17 18), (0, u "java/util/Arrays"), (0, u "rangeCheck"), (0, u "(III)V"), (55, .class_ 76), (1, u "java/util/Arrays$NaturalOrder"), (36, .class_ 115), (1, u "java/util/Arrays$LegacyMergeSort"), (1, u "Z"), (89, u "binarySearch0"), (1, .methodref 14 210), (0, .nameAndType 207 211), (0, u "([IIII)I"), (163, .class_ 376), (0, u "java/util/Arrays$ArrayList"), (68, u "$assertionsDisabled"), (269, u "MIN_ARRAY_SORT_GRAN"), (0, u "I"), (2, u "INSERTIONSORT_THRESHOLD"), (74, u "binarySearch"), (180, .class_ 976), (0, u "java/util/Arrays$ArrayItr")] 52

def k4m0 : Method := { name := "<init>", desc := "()V", sig := { parameters := [], returnType := none }, accessFlags := 2, code := none }
def k4c1 : Code := { maxStack := 4, maxLocals := 3, code := jdk_65_method_30_code, exceptionTable := #[], attributes := #[] }
def k4m1 : Method := { name := "rangeCheck", desc := "(III)V", sig := { parameters := [.int, .int, .int], returnType := none }, accessFlags := 8, code := some k4c1 }
def k4c2 : Code := { maxStack := 4, maxLocals := 4, code := jdk_65_method_58_code, exceptionTable := #[], attributes := #[] }
def k4m2 : Method := { name := "binarySearch", desc := "([IIII)I", sig := { parameters := [(.array .int), .int, .int, .int], returnType := some .int }, accessFlags := 9, code := some k4c2 }
def k4c3 : Code := { maxStack := 2, maxLocals := 8, code := jdk_65_method_59_code, exceptionTable := #[], attributes := #[] }
def k4m3 : Method := { name := "binarySearch0", desc := "([IIII)I", sig := { parameters := [(.array .int), .int, .int, .int], returnType := some .int }, accessFlags := 10, code := some k4c3 }
/-- java/util/Arrays -/
def k4 : Class := { plain "java/util/Arrays" (some 0) with
  accessFlags := 49
  interfaces := #[]
  cf := some (fileOf pool4 14 #[.nestMembers #[975, 375, 113, 74]] #[{ accessFlags := 2, nameIndex := 5, descriptorIndex := 6, attributes := #[] }, { accessFlags := 8, nameIndex := 17, descriptorIndex := 18, attributes := #[] }, { accessFlags := 9, nameIndex := 794, descriptorIndex := 211, attributes := #[] }, { accessFlags := 10, nameIndex := 207, descriptorIndex := 211, attributes := #[] }] 49 2 #[] #[{ accessFlags := 26, nameIndex := 715, descriptorIndex := 716, attributes := #[] }, { accessFlags := 26, nameIndex := 719, descriptorIndex := 716, attributes := #[] }, { accessFlags := 4120, nameIndex := 445, descriptorIndex := 117, attributes := #[] }])
  fields := #[{ name := "MIN_ARRAY_SORT_GRAN", type := .int, accessFlags := 26, slot := 0, constantValue := 0 }, { name := "INSERTIONSORT_THRESHOLD", type := .int, accessFlags := 26, slot := 1, constantValue := 0 }, { name := "$assertionsDisabled", type := .boolean, accessFlags := 4120, slot := 2, constantValue := 0 }]
  methods := #[k4m0, k4m1, k4m2, k4m3]
  instanceTypes := #[]
  staticTypes := #[.int, .int, .boolean]
  resolved := Array.replicate 1029 none
  statics := none }

def pool5 : Array CpInfo := pool [(1, u "java/lang/Cloneable"), (0, .class_ 1), (0, u "java/lang/Object"), (0, .class_ 3)] 3

/-- java/lang/Cloneable -/
def k5 : Class := { plain "java/lang/Cloneable" (some 0) with
  accessFlags := 1537
  interfaces := #[]
  cf := some (fileOf pool5 2 #[] #[] 1537 4 #[] #[])
  fields := #[]
  methods := #[]
  instanceTypes := #[]
  staticTypes := #[]
  resolved := Array.replicate 8 none
  statics := none }

def pool6 : Array CpInfo := pool [(1, u "java/io/Serializable"), (0, .class_ 1), (0, u "java/lang/Object"), (0, .class_ 3)] 3

/-- java/io/Serializable -/
def k6 : Class := { plain "java/io/Serializable" (some 0) with
  accessFlags := 1537
  interfaces := #[]
  cf := some (fileOf pool6 2 #[] #[] 1537 4 #[] #[])
  fields := #[]
  methods := #[]
  instanceTypes := #[]
  staticTypes := #[]
  resolved := Array.replicate 8 none
  statics := none }

/-- the primitive byte -/
def k7 : Class := { plain "byte" none with kind := .primitive 'B', accessFlags := 0x411 }
/-- [B -/
def k8 : Class := { plain "[B" (some 0) with kind := .array 7 .byte, interfaces := #[5, 6], accessFlags := 1041 }

/-- the primitive int -/
def k9 : Class := { plain "int" none with kind := .primitive 'I', accessFlags := 0x411 }
/-- [I -/
def k10 : Class := { plain "[I" (some 0) with kind := .array 9 .int, interfaces := #[5, 6], accessFlags := 1041 }

/-- the primitive long -/
def k11 : Class := { plain "long" none with kind := .primitive 'J', accessFlags := 0x411 }
/-- [J -/
def k12 : Class := { plain "[J" (some 0) with kind := .array 11 .long, interfaces := #[5, 6], accessFlags := 1041 }

def heap : Heap := #[]
def classes : Array Class := #[k0, k1, k2, k3, k4, k5, k6, k7, k8, k9, k10, k11, k12]
def interned : List (Array UInt16 × Addr) := []
def slotsUsed : Nat := 0
def theMethod : MethodId := ⟨1, 1⟩
def args0 : Array Value := #[.long 5, .long 7, .int 3, .long 9, .int 3]
def aboutOver (below : List Frame) : State where
  vm := { classes := classes, interned := interned.toArray }
  heap := heap
  slotsUsed := slotsUsed
  threads := #[{ frames := .invoking theMethod args0 :: below }]
def below0 : List Frame := [.native { method := ⟨0, 0⟩, args := #[] }]
def about1 : State := aboutOver below0
def p0 : Program := .bare "" "" ""
def e0 : Env := launch0.env 0 0 0
theorem w_frames : about1.frames = Frame.invoking theMethod args0 :: below0 := rfl
set_option maxRecDepth 65536 in
theorem w_args : argsFit about1.vm theMethod args0 = true := by decide +kernel
set_option maxRecDepth 65536 in
theorem w_heap : heapFits about1 = true := by decide +kernel
set_option maxRecDepth 65536 in
theorem w_runnable : about1.curStatus? = some .runnable := by decide +kernel
set_option maxRecDepth 65536 in
theorem w_alone : about1.alone = true := by decide +kernel
set_option maxRecDepth 65536 in
theorem w_named : about1.methodNamed? x = some theMethod := by decide +kernel
set_option maxRecDepth 65536 in
theorem w_hears : about1.hears theMethod below0 = true := by decide +kernel
set_option maxRecDepth 65536 in
theorem w_ripe : about1.ripe theMethod args0 below0 = true := by decide +kernel
theorem w_running : about1.status = .running := rfl
set_option maxRecDepth 65536 in
theorem w_room : about1.hasRoom e0.platform room_1 = true :=
  launch0.hasRoom_least _ room_1 (by decide +kernel) (by decide +kernel) (by decide +kernel) (by decide +kernel) (by decide +kernel) (by decide +kernel)
theorem allAtoms_all (ts : List Jvm.Cond) (a : Array Jvm.Value) (st : Jvm.State) : (allAtoms ts).before a st = ts.all (fun c => c.before a st) := by
  induction ts with
  | nil => rfl
  | cons c t ih =>
    show (Jvm.Cond.and c (allAtoms t)).before a st = _
    rw [Jvm.Cond.before_and, ih, List.all_cons]
def words1 : List Jvm.Cond := Jvm.Cond.code x code maxLocals ret :: tables_1
/-- a 'code' word, met by the world's own term for the bytes: nothing is compared byte by byte -/
theorem code_word {y : MethodName} {bytes : ByteArray} {mx : Nat} {rt : Option FieldType} {a : Array Value} {s : State} {m : MethodId} {meth : Method} {c : Code} (h1 : s.methodNamed? y = some m) (h2 : s.vm.method? m = some meth) (h3 : meth.code = some c) (h4 : c.code = bytes)
    (h5 : (c.maxLocals == mx && c.exceptionTable.isEmpty && decide (c.maxStack ≤ mostOperands) && decide (meth.sig.returnType = rt) && !meth.locks && decide (parseMethodDescriptor y.desc = some meth.sig)) = true) : (Jvm.Cond.code y bytes mx rt).before a s = true := by
  simp only [Bool.and_eq_true, beq_iff_eq, Bool.not_eq_true', decide_eq_true_eq] at h5
  obtain ⟨⟨⟨⟨⟨g1, g2⟩, g3⟩, g4⟩, g5⟩, g6⟩ := h5
  simp [Cond.before, Cond.holds, Cond.value, h1, h2, h3, h4, g1, g2, g3, g4, g5, g6]
def isCode : Jvm.Cond → Bool
  | .code _ _ _ _ => true
  | _ => false
theorem all_split {L : List Jvm.Cond} {P : Jvm.Cond → Bool} (h1 : L.all (fun c => isCode c || P c) = true) (h2 : ∀ c ∈ L.filter isCode, P c = true) : L.all P = true := by
  refine List.all_eq_true.mpr fun c hc => ?_
  have h := List.all_eq_true.mp h1 c hc
  rcases Bool.eq_false_or_eq_true (isCode c) with hi | hi
  · exact h2 c (List.mem_filter.mpr ⟨hc, hi⟩)
  · simpa [hi] using h
set_option maxRecDepth 65536 in
theorem w_c0 : (Jvm.Cond.code x code maxLocals ret).before args0 about1 = true := code_word (m := ⟨1, 1⟩) (meth := k1m1) (c := k1c1) (by decide +kernel) rfl rfl rfl (by decide +kernel)
set_option maxRecDepth 65536 in
theorem w_c1 : (Jvm.Cond.code ({ cls := "com/example/ferrylog/ferrylog/store/LiveIndex", name := "<init>", desc := "()V" } : Jvm.MethodName) prog_211_method_1_code (1 : Nat) (Option.none : Option Jvm.ClassFile.FieldType)).before args0 about1 = true := code_word (m := ⟨2, 0⟩) (meth := k2m0) (c := k2c0) (by decide +kernel) rfl rfl rfl (by decide +kernel)
set_option maxRecDepth 65536 in
theorem w_c2 : (Jvm.Cond.code ({ cls := "java/lang/Object", name := "<init>", desc := "()V" } : Jvm.MethodName) object_method_1_code (1 : Nat) (Option.none : Option Jvm.ClassFile.FieldType)).before args0 about1 = true := code_word (m := ⟨0, 0⟩) (meth := k0m0) (c := k0c0) (by decide +kernel) rfl rfl rfl (by decide +kernel)
set_option maxRecDepth 65536 in
theorem w_c3 : (Jvm.Cond.code ({ cls := "com/example/ferrylog/ferrylog/store/LiveIndex", name := "addTopic", desc := "()I" } : Jvm.MethodName) prog_211_method_2_code (2 : Nat) (Option.some Jvm.ClassFile.FieldType.int)).before args0 about1 = true := code_word (m := ⟨2, 1⟩) (meth := k2m1) (c := k2c1) (by decide +kernel) rfl rfl rfl (by decide +kernel)
set_option maxRecDepth 65536 in
theorem w_c4 : (Jvm.Cond.code ({ cls := "com/example/ferrylog/ferrylog/store/LiveIndex", name := "setEnd", desc := "(IJ)V" } : Jvm.MethodName) prog_211_method_4_code (4 : Nat) (Option.none : Option Jvm.ClassFile.FieldType)).before args0 about1 = true := code_word (m := ⟨2, 2⟩) (meth := k2m2) (c := k2c2) (by decide +kernel) rfl rfl rfl (by decide +kernel)
set_option maxRecDepth 65536 in
theorem w_c5 : (Jvm.Cond.code ({ cls := "com/example/ferrylog/ferrylog/store/LiveIndex", name := "addRecord", desc := "(IJ)V" } : Jvm.MethodName) prog_211_method_9_code (11 : Nat) (Option.none : Option Jvm.ClassFile.FieldType)).before args0 about1 = true := code_word (m := ⟨2, 4⟩) (meth := k2m4) (c := k2c4) (by decide +kernel) rfl rfl rfl (by decide +kernel)
set_option maxRecDepth 65536 in
theorem w_c6 : (Jvm.Cond.code ({ cls := "java/lang/Math", name := "toIntExact", desc := "(J)I" } : Jvm.MethodName) jdk_29_method_43_code (2 : Nat) (Option.some Jvm.ClassFile.FieldType.int)).before args0 about1 = true := code_word (m := ⟨3, 1⟩) (meth := k3m1) (c := k3c1) (by decide +kernel) rfl rfl rfl (by decide +kernel)
set_option maxRecDepth 65536 in
theorem w_c7 : (Jvm.Cond.code ({ cls := "com/example/ferrylog/ferrylog/store/LiveIndex", name := "beginRun", desc := "(IJ)V" } : Jvm.MethodName) prog_211_method_10_code (4 : Nat) (Option.none : Option Jvm.ClassFile.FieldType)).before args0 about1 = true := code_word (m := ⟨2, 5⟩) (meth := k2m5) (c := k2c5) (by decide +kernel) rfl rfl rfl (by decide +kernel)
set_option maxRecDepth 65536 in
theorem w_c8 : (Jvm.Cond.code ({ cls := "com/example/ferrylog/ferrylog/store/LiveIndex", name := "giveOffset", desc := "(I)J" } : Jvm.MethodName) prog_211_method_7_code (5 : Nat) (Option.some Jvm.ClassFile.FieldType.long)).before args0 about1 = true := code_word (m := ⟨2, 3⟩) (meth := k2m3) (c := k2c3) (by decide +kernel) rfl rfl rfl (by decide +kernel)
set_option maxRecDepth 65536 in
theorem w_c9 : (Jvm.Cond.code ({ cls := "com/example/ferrylog/ferrylog/store/LiveIndex", name := "checkpointed", desc := "()V" } : Jvm.MethodName) prog_211_method_17_code (2 : Nat) (Option.none : Option Jvm.ClassFile.FieldType)).before args0 about1 = true := code_word (m := ⟨2, 9⟩) (meth := k2m9) (c := k2c9) (by decide +kernel) rfl rfl rfl (by decide +kernel)
set_option maxRecDepth 65536 in
theorem w_c10 : (Jvm.Cond.code ({ cls := "com/example/ferrylog/ferrylog/store/LiveIndex", name := "last", desc := "(I)I" } : Jvm.MethodName) prog_211_method_11_code (2 : Nat) (Option.some Jvm.ClassFile.FieldType.int)).before args0 about1 = true := code_word (m := ⟨2, 6⟩) (meth := k2m6) (c := k2c6) (by decide +kernel) rfl rfl rfl (by decide +kernel)
set_option maxRecDepth 65536 in
theorem w_c11 : (Jvm.Cond.code ({ cls := "com/example/ferrylog/ferrylog/store/LiveIndex", name := "before", desc := "(I)I" } : Jvm.MethodName) prog_211_method_12_code (2 : Nat) (Option.some Jvm.ClassFile.FieldType.int)).before args0 about1 = true := code_word (m := ⟨2, 7⟩) (meth := k2m7) (c := k2c7) (by decide +kernel) rfl rfl rfl (by decide +kernel)
set_option maxRecDepth 65536 in
theorem w_c12 : (Jvm.Cond.code ({ cls := "com/example/ferrylog/ferrylog/store/LiveIndex", name := "runFirst", desc := "(I)J" } : Jvm.MethodName) prog_211_method_15_code (2 : Nat) (Option.some Jvm.ClassFile.FieldType.long)).before args0 about1 = true := code_word (m := ⟨2, 8⟩) (meth := k2m8) (c := k2c8) (by decide +kernel) rfl rfl rfl (by decide +kernel)
set_option maxRecDepth 65536 in
theorem w_c13 : (Jvm.Cond.code ({ cls := "java/util/Arrays", name := "binarySearch", desc := "([IIII)I" } : Jvm.MethodName) jdk_65_method_58_code (4 : Nat) (Option.some Jvm.ClassFile.FieldType.int)).before args0 about1 = true := code_word (m := ⟨4, 2⟩) (meth := k4m2) (c := k4c2) (by decide +kernel) rfl rfl rfl (by decide +kernel)
set_option maxRecDepth 65536 in
theorem w_c14 : (Jvm.Cond.code ({ cls := "java/util/Arrays", name := "rangeCheck", desc := "(III)V" } : Jvm.MethodName) jdk_65_method_30_code (3 : Nat) (Option.none : Option Jvm.ClassFile.FieldType)).before args0 about1 = true := code_word (m := ⟨4, 1⟩) (meth := k4m1) (c := k4c1) (by decide +kernel) rfl rfl rfl (by decide +kernel)
set_option maxRecDepth 65536 in
theorem w_c15 : (Jvm.Cond.code ({ cls := "java/util/Arrays", name := "binarySearch0", desc := "([IIII)I" } : Jvm.MethodName) jdk_65_method_59_code (8 : Nat) (Option.some Jvm.ClassFile.FieldType.int)).before args0 about1 = true := code_word (m := ⟨4, 3⟩) (meth := k4m3) (c := k4c3) (by decide +kernel) rfl rfl rfl (by decide +kernel)
def codes1 : List Jvm.Cond := [Jvm.Cond.code x code maxLocals ret, Jvm.Cond.code ({ cls := "com/example/ferrylog/ferrylog/store/LiveIndex", name := "<init>", desc := "()V" } : Jvm.MethodName) prog_211_method_1_code (1 : Nat) (Option.none : Option Jvm.ClassFile.FieldType), Jvm.Cond.code ({ cls := "java/lang/Object", name := "<init>", desc := "()V" } : Jvm.MethodName) object_method_1_code (1 : Nat) (Option.none : Option Jvm.ClassFile.FieldType), Jvm.Cond.code ({ cls := "com/example/ferrylog/ferrylog/store/LiveIndex", name := "addTopic", desc := "()I" } : Jvm.MethodName) prog_211_method_2_code (2 : Nat) (Option.some Jvm.ClassFile.FieldType.int), Jvm.Cond.code ({ cls := "com/example/ferrylog/ferrylog/store/LiveIndex", name := "setEnd", desc := "(IJ)V" } : Jvm.MethodName) prog_211_method_4_code (4 : Nat) (Option.none : Option Jvm.ClassFile.FieldType), Jvm.Cond.code ({ cls := "com/example/ferrylog/ferrylog/store/LiveIndex", name := "addRecord", desc := "(IJ)V" } : Jvm.MethodName) prog_211_method_9_code (11 : Nat) (Option.none : Option Jvm.ClassFile.FieldType), Jvm.Cond.code ({ cls := "java/lang/Math", name := "toIntExact", desc := "(J)I" } : Jvm.MethodName) jdk_29_method_43_code (2 : Nat) (Option.some Jvm.ClassFile.FieldType.int), Jvm.Cond.code ({ cls := "com/example/ferrylog/ferrylog/store/LiveIndex", name := "beginRun", desc := "(IJ)V" } : Jvm.MethodName) prog_211_method_10_code (4 : Nat) (Option.none : Option Jvm.ClassFile.FieldType), Jvm.Cond.code ({ cls := "com/example/ferrylog/ferrylog/store/LiveIndex", name := "giveOffset", desc := "(I)J" } : Jvm.MethodName) prog_211_method_7_code (5 : Nat) (Option.some Jvm.ClassFile.FieldType.long), Jvm.Cond.code ({ cls := "com/example/ferrylog/ferrylog/store/LiveIndex", name := "checkpointed", desc := "()V" } : Jvm.MethodName) prog_211_method_17_code (2 : Nat) (Option.none : Option Jvm.ClassFile.FieldType), Jvm.Cond.code ({ cls := "com/example/ferrylog/ferrylog/store/LiveIndex", name := "last", desc := "(I)I" } : Jvm.MethodName) prog_211_method_11_code (2 : Nat) (Option.some Jvm.ClassFile.FieldType.int), Jvm.Cond.code ({ cls := "com/example/ferrylog/ferrylog/store/LiveIndex", name := "before", desc := "(I)I" } : Jvm.MethodName) prog_211_method_12_code (2 : Nat) (Option.some Jvm.ClassFile.FieldType.int), Jvm.Cond.code ({ cls := "com/example/ferrylog/ferrylog/store/LiveIndex", name := "runFirst", desc := "(I)J" } : Jvm.MethodName) prog_211_method_15_code (2 : Nat) (Option.some Jvm.ClassFile.FieldType.long), Jvm.Cond.code ({ cls := "java/util/Arrays", name := "binarySearch", desc := "([IIII)I" } : Jvm.MethodName) jdk_65_method_58_code (4 : Nat) (Option.some Jvm.ClassFile.FieldType.int), Jvm.Cond.code ({ cls := "java/util/Arrays", name := "rangeCheck", desc := "(III)V" } : Jvm.MethodName) jdk_65_method_30_code (3 : Nat) (Option.none : Option Jvm.ClassFile.FieldType), Jvm.Cond.code ({ cls := "java/util/Arrays", name := "binarySearch0", desc := "([IIII)I" } : Jvm.MethodName) jdk_65_method_59_code (8 : Nat) (Option.some Jvm.ClassFile.FieldType.int)]
set_option maxRecDepth 65536 in
theorem codes_eq : words1.filter isCode = codes1 := rfl
theorem w_codes : ∀ c ∈ words1.filter isCode, c.before args0 about1 = true := by
  rw [codes_eq]
  intro c hc
  simp only [codes1, List.mem_cons, List.not_mem_nil, or_false] at hc
  rcases hc with rfl | rfl | rfl | rfl | rfl | rfl | rfl | rfl | rfl | rfl | rfl | rfl | rfl | rfl | rfl | rfl
  · exact w_c0
  · exact w_c1
  · exact w_c2
  · exact w_c3
  · exact w_c4
  · exact w_c5
  · exact w_c6
  · exact w_c7
  · exact w_c8
  · exact w_c9
  · exact w_c10
  · exact w_c11
  · exact w_c12
  · exact w_c13
  · exact w_c14
  · exact w_c15
set_option maxRecDepth 65536 in
theorem w_t1 : (words1.take 24).all (fun c => isCode c || c.before args0 about1) = true := by decide +kernel
set_option maxRecDepth 65536 in
theorem w_t2 : ((words1.drop 24).take 24).all (fun c => isCode c || c.before args0 about1) = true := by decide +kernel
set_option maxRecDepth 65536 in
theorem w_t3 : (((words1.drop 24).drop 24).take 24).all (fun c => isCode c || c.before args0 about1) = true := by decide +kernel
set_option maxRecDepth 65536 in
theorem w_t4 : (((words1.drop 24).drop 24).drop 24).all (fun c => isCode c || c.before args0 about1) = true := by decide +kernel
theorem w_tables : (allAtoms (Jvm.Cond.code x code maxLocals ret :: tables_1)).before args0 about1 = true := by
  rw [allAtoms_all]
  show words1.all (fun c => c.before args0 about1) = true
  refine all_split ?_ w_codes
  rw [← List.take_append_drop 24 words1, List.all_append, w_t1, ← List.take_append_drop 24 (words1.drop 24), List.all_append, w_t2, ← List.take_append_drop 24 ((words1.drop 24).drop 24), List.all_append, w_t3, w_t4]
  rfl
set_option maxRecDepth 65536 in
theorem w_case : (Jvm.Cond.and given_1 narrow_1).before args0 about1 = true := by decide +kernel
theorem w_applies : (headSpec (Jvm.Cond.code x code maxLocals ret :: tables_1) room_1).applies x e0.platform about1 = true :=
  (Spec.applies_iff w_frames).mpr ⟨w_running, w_runnable, w_alone, w_named, w_hears, w_ripe, w_room, w_tables⟩
theorem atStart : AtStart classFile x code maxLocals ret World_1 tables_1 room_1 Calls_1 rest_1 Pre_1 launch0 p0 e0 about1 theMethod args0 below0 :=
  ⟨lists_1, trivial, launch0.admits_env _ _ _, launch0.least_env, fairChoices_fair.cas, fairChoices_fair.clock, w_frames, w_args, w_heap, w_applies, trivial, trivial, w_case⟩
end start1
theorem witness_1 : WitnessClaimed_1 := ⟨start1.p0, start1.e0, start1.about1, start1.theMethod, start1.args0, start1.below0, start1.atStart⟩
end Jvm.Pilot.@@N@@
