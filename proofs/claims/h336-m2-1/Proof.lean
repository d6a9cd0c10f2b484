import JvmDerived
import JvmDerived.Pilot.@@N@@Statement
import JvmDerived.Pilot.@@N@@Code
set_option linter.unusedVariables false
set_option linter.unusedSimpArgs false
namespace Jvm.Pilot.@@N@@
open Jvm Jvm.ClassFile Sem Op Lib Jvm.Free Jvm.Stand Jvm.LawKit Jvm.RoadKit Bundle Jvm.Pilot.@@N@@.Jvm.D
section Own
variable {p : Program} {l : Launch} {e : Env} {R : Room} {s : State} {m : MethodId} {args : Array Value} {below : List Frame} {meth : Method} {c : Code} {T : State} {locs : List Loc} {cells slots : Nat} {Z : State} {h h' : Heap} {a b : Addr}
/-- from the state σ the run comes to a return that meets Qk -/
def Go (p : Program) (e : Env) (below : List Frame) (s : State) (Qk : Option Value → Heap → List Loc → Prop) (C S : Nat) (σ : State) : Prop :=
  ∃ s₂ o, Steps p.tables e below σ s₂ ∧ s₂.status = .running ∧ Ended s₂ below o ∧ ∃ v L, o = .returned v ∧ Qk v s₂.heap L ∧ FrameEnd s o s₂ L C S
variable {Qk : Option Value → Heap → List Loc → Prop} {C S : Nat}
theorem Go.step {σ σ' : State} (hs : ∀ t, Steps p.tables e below σ' t → Steps p.tables e below σ t) (k : Go p e below s Qk C S σ') : Go p e below s Qk C S σ := by
  obtain ⟨s₂, o, h1, r⟩ := k
  exact ⟨s₂, o, hs _ h1, r⟩
theorem Go.retV (X : Stand p l e R s m args below meth c T locs cells slots) (hlk : meth.locks = false) (hx : p.tables.exec = Jvm.exec) {pc : Nat} {Ls : Array Slot} (hret : meth.sig.returnType = none) (hd : decode c.code pc = .ok (.return_, 1)) (hc : cells ≤ C) (hs : slots ≤ S) (hQ : Qk none T.heap locs) :
    Go p e below s Qk C S (T.setTop (mkF m pc Ls [])) := by
  obtain ⟨fs, hr, hrun, hended, hW, hsame⟩ := X.leave (v := none) (fun _ => rfl) hlk
  exact ⟨_, _, X.returnOut hx hret hd hr, hrun, hended, _, _, rfl, hQ, ⟨_, rfl⟩, hW, hsame.mono hc hs⟩
theorem Go.retW (X : Stand p l e R s m args below meth c T locs cells slots) (hlk : meth.locks = false) (hx : p.tables.exec = Jvm.exec) {pc : Nat} {Ls : Array Slot} {w : Value} {t : FieldType} {i : Instr} {rest : List Value} (hret : meth.sig.returnType = some t) (hn : narrow t w = w)
    (hi : (i = .ireturn ∧ (t = .int ∨ t = .boolean ∨ t = .byte ∨ t = .char ∨ t = .short) ∧ ∃ z, w = .int z) ∨ (i = .lreturn ∧ t = .long ∧ ∃ z, w = .long z) ∨ (i = .dreturn ∧ t = .double ∧ ∃ z, w = .double z) ∨ (i = .freturn ∧ t = .float ∧ ∃ z, w = .float z) ∨ (i = .areturn ∧ t.isReference = true ∧ w.isRef = true))
    (hd : decode c.code pc = .ok (i, 1)) (hc : cells ≤ C) (hs : slots ≤ S) (hQ : Qk (some w) T.heap locs) :
    Go p e below s Qk C S (T.setTop (mkF m pc Ls (w :: rest))) := by
  obtain ⟨fs, hr, hrun, hended, hW, hsame⟩ := X.leave (v := some w) (fun q => by rw [hret] at q; cases q) hlk
  exact ⟨_, _, retOut X hx hret hn hi hd hr, hrun, hended, _, _, rfl, hQ, ⟨_, rfl⟩, hW, hsame.mono hc hs⟩
theorem Go.retI (X : Stand p l e R s m args below meth c T locs cells slots) (hlk : meth.locks = false) (hx : p.tables.exec = Jvm.exec) {pc : Nat} {Ls : Array Slot} {z : Int32} {rest : List Value} (hret : meth.sig.returnType = some .int) (hd : decode c.code pc = .ok (.ireturn, 1)) (hc : cells ≤ C) (hs : slots ≤ S) (hQ : Qk (some (.int z)) T.heap locs) :
    Go p e below s Qk C S (T.setTop (mkF m pc Ls (.int z :: rest))) :=
  Go.retW X hlk hx hret rfl (Or.inl ⟨rfl, Or.inl rfl, z, rfl⟩) hd hc hs hQ
theorem Go.retJ (X : Stand p l e R s m args below meth c T locs cells slots) (hlk : meth.locks = false) (hx : p.tables.exec = Jvm.exec) {pc : Nat} {Ls : Array Slot} {z : Int64} {rest : List Value} (hret : meth.sig.returnType = some .long) (hd : decode c.code pc = .ok (.lreturn, 1)) (hc : cells ≤ C) (hs : slots ≤ S) (hQ : Qk (some (.long z)) T.heap locs) :
    Go p e below s Qk C S (T.setTop (mkF m pc Ls (.long z :: rest))) :=
  Go.retW X hlk hx hret rfl (Or.inr (Or.inl ⟨rfl, rfl, z, rfl⟩)) hd hc hs hQ
theorem Go.retA (X : Stand p l e R s m args below meth c T locs cells slots) (hlk : meth.locks = false) (hx : p.tables.exec = Jvm.exec) {pc : Nat} {Ls : Array Slot} {w : Value} {t : FieldType} {rest : List Value} (hret : meth.sig.returnType = some t) (hn : narrow t w = w) (ht : t.isReference = true) (hw : w.isRef = true) (hd : decode c.code pc = .ok (.areturn, 1)) (hc : cells ≤ C) (hs : slots ≤ S) (hQ : Qk (some w) T.heap locs) :
    Go p e below s Qk C S (T.setTop (mkF m pc Ls (w :: rest))) :=
  Go.retW X hlk hx hret hn (Or.inr (Or.inr (Or.inr (Or.inr ⟨rfl, ht, hw⟩)))) hd hc hs hQ
theorem Go.retN (X : Stand p l e R s m args below meth c T locs cells slots) (hlk : meth.locks = false) (hx : p.tables.exec = Jvm.exec) {pc : Nat} {Ls : Array Slot} {z : Int32} {t : FieldType} {rest : List Value} (hret : meth.sig.returnType = some t) (ht : t = .boolean ∨ t = .byte ∨ t = .char ∨ t = .short) (hd : decode c.code pc = .ok (.ireturn, 1)) (hc : cells ≤ C) (hs : slots ≤ S) (z' : Int32) (hz : nar t z = z') (hQ : Qk (some (.int z')) T.heap locs) :
    Go p e below s Qk C S (T.setTop (mkF m pc Ls (.int z :: rest))) := by
  subst hz
  obtain ⟨fs, hr, hrun, hended, hW, hsame⟩ := X.leave (v := some (.int (nar t z))) (fun q => by rw [hret] at q; cases q) hlk
  exact ⟨_, _, Jvm.RoadKit.retN X hx hret ht hd hr, hrun, hended, _, _, rfl, hQ, ⟨_, rfl⟩, hW, hsame.mono hc hs⟩
theorem own_narb {P : Prop} [Decidable P] : nar .boolean (if P then (1 : Int32) else (0 : Int32)) = (if P then (1 : Int32) else (0 : Int32)) := by split <;> rfl
theorem own_narb01 {z : Int32} (h : z = 0 ∨ z = 1) : nar .boolean z = z := by rcases h with rfl | rfl <;> rfl
/-- a function turned at one place -/
def up {α : Type} (f : Nat → α) (k : Nat) (v : α) : Nat → α := fun i => if i = k then v else f i
theorem up_same {α : Type} (f : Nat → α) (k : Nat) (v : α) : up f k v k = v := if_pos rfl
theorem up_ne {α : Type} (f : Nat → α) {k i : Nat} (v : α) (q : i ≠ k) : up f k v i = f i := if_neg q
/-- an array of n places; place i holds g i -/
def Ary (Z : State) (h : Heap) (a : Addr) (ty : FieldType) (n : Nat) (g : Nat → Value) : Prop := ∃ c : Cell, Arr Z h a c ty ∧ c.slots.size = n ∧ n < 2 ^ 31 ∧ ∀ i, i < n → c.slots[i]? = some (g i)
variable {ty : FieldType} {n : Nat} {g : Nat → Value}
theorem Ary.lt (F : Ary Z h a ty n g) : a < h.size := by obtain ⟨c, A, -⟩ := F; exact A.lt
theorem Ary.ext (F : Ary Z h a ty n g) (E : Ext h h') : Ary Z h' a ty n g := by obtain ⟨c, A, r⟩ := F; exact ⟨c, A.ext E, r⟩
theorem Ary.other {sl : Nat} {v : Value} (F : Ary Z h b ty n g) (W : Wr h h' a sl v) (q : b ≠ a) : Ary Z h' b ty n g := by obtain ⟨c, A, r⟩ := F; exact ⟨c, A.other W q, r⟩
theorem Ary.keep {ws : List Addr} (F : Ary Z h a ty n g) (K : Keep h h' ws) (q : a ∉ ws) : Ary Z h' a ty n g := by obtain ⟨c, A, r⟩ := F; exact ⟨c, ⟨K.2.1 a c A.1 q, A.2⟩, r⟩
theorem Ary.set {k : Nat} {v : Value} (F : Ary Z h a ty n g) (W : Wr h h' a k v) : Ary Z h' a ty n (up g k v) := by
  obtain ⟨c, A, S, B, H⟩ := F
  refine ⟨_, A.same W, by rw [sz_set]; exact S, B, fun i hi => ?_⟩
  by_cases q : k = i
  · subst q; rw [up_same]; simp [Cell.setSlot, S, hi]
  · rw [up_ne _ _ (Ne.symm q), ← H i hi]; simp only [Cell.setSlot]; rw [Array.getElem?_setIfInBounds_ne q]
theorem Ary.new {k : ClassId} {z : Int32} (A : Arr Z h a (newA k ty z) ty) (q : z.toInt = n) : Ary Z h a ty n (fun _ => defaultValue ty) := by
  have e1 : z.toNatClampNeg = n := by simp only [Int32.toNatClampNeg]; omega
  refine ⟨_, A, by rw [sz_new]; exact e1, ?_, fun i hi => ?_⟩
  · have := Int32.toInt_lt z; omega
  · simp [newA, e1, hi]
theorem Ary.congr {g' : Nat → Value} (F : Ary Z h a ty n g) (q : ∀ i, i < n → g i = g' i) : Ary Z h a ty n g' := by
  obtain ⟨c, A, S, B, H⟩ := F
  exact ⟨c, A, S, B, fun i hi => by rw [← q i hi]; exact H i hi⟩
abbrev AryI (Z : State) (h : Heap) (a : Addr) (ty : FieldType) (n : Nat) (g : Nat → Int32) : Prop := Ary Z h a ty n (fun i => .int (g i))
abbrev AryJ (Z : State) (h : Heap) (a : Addr) (n : Nat) (g : Nat → Int64) : Prop := Ary Z h a .long n (fun i => .long (g i))
theorem own_upI (f : Nat → Int32) (k : Nat) (v : Int32) : up (fun i => Value.int (f i)) k (.int v) = fun i => Value.int (up f k v i) := by funext i; simp only [up]; split <;> rfl
theorem own_upJ (f : Nat → Int64) (k : Nat) (v : Int64) : up (fun i => Value.long (f i)) k (.long v) = fun i => Value.long (up f k v i) := by funext i; simp only [up]; split <;> rfl
theorem Ary.setI {f : Nat → Int32} {k : Nat} {v : Int32} (F : AryI Z h a ty n f) (W : Wr h h' a k (.int v)) : AryI Z h' a ty n (up f k v) := by have r := Ary.set F W; rw [own_upI] at r; exact r
theorem Ary.setJ {f : Nat → Int64} {k : Nat} {v : Int64} (F : AryJ Z h a n f) (W : Wr h h' a k (.long v)) : AryJ Z h' a n (up f k v) := by have r := Ary.set F W; rw [own_upJ] at r; exact r
theorem own_idx {c : Cell} {j : Int32} {k : Nat} (S : c.slots.size = n) (q : j.toInt = k) (hk : k < n) : ¬ (j < 0 ∨ c.slots.size ≤ j.toNatClampNeg) ∧ j.toNatClampNeg = k := by
  have e1 : j.toNatClampNeg = k := by simp only [Int32.toNatClampNeg]; omega
  have e0 : (0 : Int32).toInt = 0 := rfl
  refine ⟨?_, e1⟩
  rw [e1, S, Int32.lt_iff_toInt_lt]; omega
theorem own_ld (X : Stand p l e R s m args below meth c T locs cells slots) (hx : p.tables.exec = Jvm.exec) (hZ : Z.Warmed39 s.vm) (eT : T.heap = h) (F : Ary Z h a ty n g) {j : Int32} (k : Nat) (q : j.toInt = k) (hk : k < n) {v : Value} (hv : g k = v) {i : Instr}
    (hi : (i = .iaload ∧ ty = .int) ∨ (i = .laload ∧ ty = .long) ∨ (i = .caload ∧ ty = .char) ∨ (i = .baload ∧ ty = .byte)) {f : JFrame} (hg : f.method = m) {rest : List Value} (hs : f.stack = .int j :: .ref a :: rest) (hd : decode c.code f.pc = .ok (i, 1)) :
    ∀ target, Steps p.tables e below (T.setTop { f with pc := f.pc + 1, stack := v :: rest }) target → Steps p.tables e below (T.setTop f) target := by
  subst hv
  obtain ⟨cl, A, S, -, H⟩ := F
  obtain ⟨hin, e1⟩ := own_idx S q hk
  have hat : cl.slots[j.toNatClampNeg]? = some (g k) := by rw [e1]; exact H k hk
  intro t kt
  rcases hi with ⟨rfl, rfl⟩ | ⟨rfl, rfl⟩ | ⟨rfl, rfl⟩ | ⟨rfl, rfl⟩
  · exact X.iaload hx (by rw [eT]; exact A.1) (State.isArrayOf_alike hZ.alike A.2.1) A.2.2 hin hat hg hs hd t kt
  · exact X.laload hx (by rw [eT]; exact A.1) (State.isArrayOf_alike hZ.alike A.2.1) A.2.2 hin hat hg hs hd t kt
  · exact X.caload hx (by rw [eT]; exact A.1) (State.isArrayOf_alike hZ.alike A.2.1) A.2.2 hin hat hg hs hd t kt
  · exact X.baloadBytes hx (by rw [eT]; exact A.1) (State.isArrayOf_alike hZ.alike A.2.1) A.2.2 hin hat hg hs hd t kt
theorem own_len (X : Stand p l e R s m args below meth c T locs cells slots) (hx : p.tables.exec = Jvm.exec) (hZ : Z.Warmed39 s.vm) (eT : T.heap = h) (F : Ary Z h a ty n g) {z : Int32} (hz : n.toInt32 = z) {f : JFrame} (hg : f.method = m) {rest : List Value} (hs : f.stack = .ref a :: rest) (hd : decode c.code f.pc = .ok (.arraylength, 1)) :
    ∀ target, Steps p.tables e below (T.setTop { f with pc := f.pc + 1, stack := .int z :: rest }) target → Steps p.tables e below (T.setTop f) target := by
  subst hz
  obtain ⟨cl, A, S, -⟩ := F
  intro t kt
  refine X.arraylength hx (by rw [eT]; exact A.1) (State.isArrayOf_alike hZ.alike A.2.1) hg hs hd t ?_
  rw [S]; exact kt
theorem own_stI (X : Stand p l e R s m args below meth c T locs cells slots) (hx : p.tables.exec = Jvm.exec) (hZ : Z.Warmed39 s.vm) (eT : T.heap = h) (F : Ary Z h a .int n g) {j x : Int32} (k : Nat) (q : j.toInt = k) (hk : k < n) {f : JFrame} (hg : f.method = m) {rest : List Value} (hs : f.stack = .int x :: .int j :: .ref a :: rest) (hd : decode c.code f.pc = .ok (.iastore, 1)) :
    ∃ T' h', Stand p l e R s m args below meth c T' (locs ++ [⟨a, k⟩]) cells slots ∧ T'.heap = h' ∧ Wr h h' a k (.int x) ∧ ∀ target, Steps p.tables e below (T'.setTop { f with pc := f.pc + 1, stack := rest }) target → Steps p.tables e below (T.setTop f) target := by
  obtain ⟨cl, A, S, -, -⟩ := F
  obtain ⟨hin, e1⟩ := own_idx S q hk
  have r := stI X hx hZ eT A hin hg hs hd
  rw [e1] at r; exact r
theorem own_stJ (X : Stand p l e R s m args below meth c T locs cells slots) (hx : p.tables.exec = Jvm.exec) (hZ : Z.Warmed39 s.vm) (eT : T.heap = h) (F : Ary Z h a .long n g) {j : Int32} {x : Int64} (k : Nat) (q : j.toInt = k) (hk : k < n) {f : JFrame} (hg : f.method = m) {rest : List Value} (hs : f.stack = .long x :: .int j :: .ref a :: rest) (hd : decode c.code f.pc = .ok (.lastore, 1)) :
    ∃ T' h', Stand p l e R s m args below meth c T' (locs ++ [⟨a, k⟩]) cells slots ∧ T'.heap = h' ∧ Wr h h' a k (.long x) ∧ ∀ target, Steps p.tables e below (T'.setTop { f with pc := f.pc + 1, stack := rest }) target → Steps p.tables e below (T.setTop f) target := by
  obtain ⟨cl, A, S, -, -⟩ := F
  obtain ⟨hin, e1⟩ := own_idx S q hk
  have r := stJ X hx hZ eT A hin hg hs hd
  rw [e1] at r; exact r
theorem own_stB (X : Stand p l e R s m args below meth c T locs cells slots) (hx : p.tables.exec = Jvm.exec) (hZ : Z.Warmed39 s.vm) (eT : T.heap = h) (F : Ary Z h a .byte n g) {j x : Int32} (k : Nat) (q : j.toInt = k) (hk : k < n) {f : JFrame} (hg : f.method = m) {rest : List Value} (hs : f.stack = .int x :: .int j :: .ref a :: rest) (hd : decode c.code f.pc = .ok (.bastore, 1)) :
    ∃ T' h', Stand p l e R s m args below meth c T' (locs ++ [⟨a, k⟩]) cells slots ∧ T'.heap = h' ∧ Wr h h' a k (.int (nar .byte x)) ∧ ∀ target, Steps p.tables e below (T'.setTop { f with pc := f.pc + 1, stack := rest }) target → Steps p.tables e below (T.setTop f) target := by
  obtain ⟨cl, A, S, -, -⟩ := F
  obtain ⟨hin, e1⟩ := own_idx S q hk
  have r := stB X hx hZ eT A hin hg hs hd
  rw [e1] at r; exact r
theorem own_stC (X : Stand p l e R s m args below meth c T locs cells slots) (hx : p.tables.exec = Jvm.exec) (hZ : Z.Warmed39 s.vm) (eT : T.heap = h) (F : Ary Z h a .char n g) {j x : Int32} (k : Nat) (q : j.toInt = k) (hk : k < n) {f : JFrame} (hg : f.method = m) {rest : List Value} (hs : f.stack = .int x :: .int j :: .ref a :: rest) (hd : decode c.code f.pc = .ok (.castore, 1)) :
    ∃ T' h', Stand p l e R s m args below meth c T' (locs ++ [⟨a, k⟩]) cells slots ∧ T'.heap = h' ∧ Wr h h' a k (.int (nar .char x)) ∧ ∀ target, Steps p.tables e below (T'.setTop { f with pc := f.pc + 1, stack := rest }) target → Steps p.tables e below (T.setTop f) target := by
  obtain ⟨cl, A, S, -, -⟩ := F
  obtain ⟨hin, e1⟩ := own_idx S q hk
  have r := stC X hx hZ eT A hin hg hs hd
  rw [e1] at r; exact r
theorem own_neA {a0 : Array Value} {k : Nat} {K : String} (F : Exa Z h a K) (wi : (Cond.instantiable K k).before a0 Z = true) (G : Ary Z h b ty n g) : a ≠ b := by
  obtain ⟨cl, A, -⟩ := G
  exact ne_arr F wi A
theorem own_selP {y : MethodName} {k : Nat} {a0 as' : Array Value} (hZ : Z.Warmed39 s.vm) (wi : (Cond.instantiable y.cls k).before a0 Z = true) (wn : (Cond.instanceMethod y).before a0 Z = true) (wp : (Cond.privateMethod y).before a0 Z = true) (hy : y.cls ≠ "java/lang/invoke/MethodHandle" ∧ y.cls ≠ "java/lang/invoke/VarHandle") : (Cond.selects y.cls y y).before as' s = true := by
  have wi' : (Cond.instantiable y.cls k).before as' s = true := mvT hZ wi
  obtain ⟨c, kc, h1, h2, -, h4, -⟩ := Cond.instantiable_spec wi'
  refine selects_self_of_private h1 h2 ?_ (Cond.privateMethod_at (mvP hZ wp (args := #[]))) (mvT hZ wn) hy
  cases hi : kc.isInterface with
  | false => rfl
  | true => rw [hi] at h4; simp at h4
/-- long comparisons -/
theorem own_lwlt {x y : Int64} (h : x < y) : lcmpW x y < 0 := (lw_lt x y).mpr h
theorem own_nlwlt {x y : Int64} (h : ¬ x < y) : ¬ lcmpW x y < 0 := fun q => h ((lw_lt x y).mp q)
theorem own_lwgt {x y : Int64} (h : y < x) : 0 < lcmpW x y := (lw_gt x y).mpr h
theorem own_nlwgt {x y : Int64} (h : ¬ y < x) : ¬ 0 < lcmpW x y := fun q => h ((lw_gt x y).mp q)
theorem own_lweq {x y : Int64} (h : x = y) : lcmpW x y = 0 := (lw_eq x y).mpr h
theorem own_nlweq {x y : Int64} (h : ¬ x = y) : ¬ lcmpW x y = 0 := fun q => h ((lw_eq x y).mp q)
end Own
theorem own_lt {x y : Int32} (h : x < y) : x.toInt < y.toInt := Int32.lt_iff_toInt_lt.mp h
theorem own_nlt {x y : Int32} (h : ¬ x < y) : ¬ x.toInt < y.toInt := fun q => h (Int32.lt_iff_toInt_lt.mpr q)
theorem own_eq {x y : Int32} (h : x = y) : x.toInt = y.toInt := by rw [h]
theorem own_neq {x y : Int32} (h : ¬ x = y) : ¬ x.toInt = y.toInt := fun q => h (Int32.toInt_inj.mp q)
theorem own_ltL {x y : Int64} (h : x < y) : x.toInt < y.toInt := Int64.lt_iff_toInt_lt.mp h
theorem own_nltL {x y : Int64} (h : ¬ x < y) : ¬ x.toInt < y.toInt := fun q => h (Int64.lt_iff_toInt_lt.mpr q)
theorem own_eqL {x y : Int64} (h : x = y) : x.toInt = y.toInt := by rw [h]
theorem own_neqL {x y : Int64} (h : ¬ x = y) : ¬ x.toInt = y.toInt := fun q => h (Int64.toInt_inj.mp q)
theorem own_rng32 (x : Int32) : -2147483648 ≤ x.toInt ∧ x.toInt ≤ 2147483647 := by
  have h1 := Int32.le_toInt x
  have h2 := Int32.toInt_lt x
  omega
theorem own_rng64 (x : Int64) : -9223372036854775808 ≤ x.toInt ∧ x.toInt ≤ 9223372036854775807 := by
  have h1 := Int64.le_toInt x
  have h2 := Int64.toInt_lt x
  omega

theorem own_inc {x : Int32} {k : Nat} (h : x.toInt = (k : Int)) (hk : k < 5) : (x + (1 : Int32)).toInt = ((k + 1 : Nat) : Int) := by
  have h1 := c_iadd x 1
  have h2 := own_rng32 (x + 1)
  have h3 : (1 : Int32).toInt = 1 := rfl
  omega

theorem own_nz {pp va : Int32} (q : ((1 : Int32) + ((pp &&& (2147483647 : Int32)) % (6 : Int32))) = va) : ((7 : Int32) - va) ≠ (0 : Int32) := by
  have ar1 := own_rng32 (((1 : Int32) + ((pp &&& (2147483647 : Int32)) % (6 : Int32))))
  have ar2 : ((1 : Int32)).toInt = 1 := rfl
  have ar3 := own_rng32 (((pp &&& (2147483647 : Int32)) % (6 : Int32)))
  have ar4 := own_rng32 ((pp &&& (2147483647 : Int32)))
  have ar5 := own_rng32 (pp)
  have ar6 := c_mask (pp) (2147483647 : Int32) 31 (by decide) (by decide)
  have ar7 := c_irem ((pp &&& (2147483647 : Int32))) (6 : Int32) 6 rfl
  have ar8 := c_iadd ((1 : Int32)) (((pp &&& (2147483647 : Int32)) % (6 : Int32)))
  have ar9 := own_rng32 (((7 : Int32) - va))
  have ar10 : ((7 : Int32)).toInt = 7 := rfl
  have ar11 := own_rng32 (va)
  have ar12 := c_isub ((7 : Int32)) (va)
  have t1 := congrArg Int32.toInt q
  intro r
  have t2 := congrArg Int32.toInt r
  have e0 : (0 : Int32).toInt = 0 := rfl
  omega

theorem own_z0 (va : Int32) : (va - (0 : Int32)) = va := by
  have ar2 := own_rng32 (va)
  have ar8 : ((8 : Int32)).toInt = 8 := rfl
  have ar11 := own_rng32 (((8 : Int32) - va))
  have ar12 := c_isub ((8 : Int32)) (va)
  have ar14 := own_rng32 ((va - (0 : Int32)))
  have ar15 : ((0 : Int32)).toInt = 0 := rfl
  have ar16 := c_isub (va) ((0 : Int32))
  apply Int32.toInt_inj.mp; omega
theorem own_z1 (va vb : Int32) : ((va + vb) - va) = vb := by
  have ar1 := own_rng32 ((va + vb))
  have ar2 := own_rng32 (va)
  have ar3 := own_rng32 (vb)
  have ar4 := c_iadd (va) (vb)
  have ar5 := own_rng32 (((va + vb) - va))
  have ar6 := c_isub ((va + vb)) (va)
  have ar7 := own_rng32 (((8 : Int32) - (va + vb)))
  have ar8 : ((8 : Int32)).toInt = 8 := rfl
  have ar9 := c_isub ((8 : Int32)) ((va + vb))
  have ar10 := own_rng32 ((((8 : Int32) - va) - vb))
  have ar11 := own_rng32 (((8 : Int32) - va))
  have ar12 := c_isub ((8 : Int32)) (va)
  have ar13 := c_isub (((8 : Int32) - va)) (vb)
  have ar14 := own_rng32 ((va - (0 : Int32)))
  have ar15 : ((0 : Int32)).toInt = 0 := rfl
  have ar16 := c_isub (va) ((0 : Int32))
  apply Int32.toInt_inj.mp; omega
theorem own_z2 (va vb : Int32) : ((8 : Int32) - (va + vb)) = (((8 : Int32) - va) - vb) := by
  have ar1 := own_rng32 ((va + vb))
  have ar2 := own_rng32 (va)
  have ar3 := own_rng32 (vb)
  have ar4 := c_iadd (va) (vb)
  have ar5 := own_rng32 (((va + vb) - va))
  have ar6 := c_isub ((va + vb)) (va)
  have ar7 := own_rng32 (((8 : Int32) - (va + vb)))
  have ar8 : ((8 : Int32)).toInt = 8 := rfl
  have ar9 := c_isub ((8 : Int32)) ((va + vb))
  have ar10 := own_rng32 ((((8 : Int32) - va) - vb))
  have ar11 := own_rng32 (((8 : Int32) - va))
  have ar12 := c_isub ((8 : Int32)) (va)
  have ar13 := c_isub (((8 : Int32) - va)) (vb)
  have ar14 := own_rng32 ((va - (0 : Int32)))
  have ar15 : ((0 : Int32)).toInt = 0 := rfl
  have ar16 := c_isub (va) ((0 : Int32))
  apply Int32.toInt_inj.mp; omega
theorem d2_0 : decode jdk_30_method_1_code 0 = .ok (.aload_n 0, 1) := by decide +kernel
theorem d2_1 : decode jdk_30_method_1_code 1 = .ok (.invokespecial 1, 3) := by decide +kernel
theorem d2_4 : decode jdk_30_method_1_code 4 = .ok (.return_, 1) := by decide +kernel
theorem pn_2 : plainName "java/lang/Record" = true := by first | (simp [plainName, overriddenIn]; done) | decide +kernel
theorem ef_2 (m : MethodId) (x0 : Addr) : entryFrame m #[(.ref x0)] 1 = mkF m 0 #[.val (.ref x0)] [] := by first | (simp [entryFrame, mkF, argsToLocals, Value.category]; done) | rfl
def Q2 (Z : State) (aa : Addr) (h0 : Heap) (n0 : Nat) (v : Option Value) (h : Heap) (L : List Loc) : Prop := v = none ∧ Fr n0 L ∧ h = h0
set_option maxRecDepth 65536 in
set_option maxHeartbeats 40000000 in
theorem rm2 (l : Launch) (Z : State) (a0 : Array Value) (hw : ∀ d ∈ tables_1, d.before a0 Z = true) (ws : List Jvm.Cond) (aa : Addr) (h0 : Heap) (n0 : Nat) (Z0 : n0 ≤ h0.size) :
    MetFree l (⟨"java/lang/Record", "<init>", "()V"⟩ : MethodName) (head1 (Jvm.Cond.code (⟨"java/lang/Record", "<init>", "()V"⟩ : MethodName) jdk_30_method_1_code 1 none :: ws) ({ frames := 1, cells := 0, slots := 0, locals := 12 } : Room)) (fun a U => a = #[(.ref aa)] ∧ Z.Warmed39 U.vm ∧ U.heap = h0) (fun _ _ _ _ _ => True) (fun _ U o U' => ∃ v L, o = .returned v ∧ Q2 Z aa h0 n0 v U'.heap L ∧ FrameEnd U o U' L ({ frames := 1, cells := 0, slots := 0, locals := 12 } : Room).cells ({ frames := 1, cells := 0, slots := 0, locals := 12 } : Room).slots) := by
  refine MetFree.of_bodySF (plainFor_of_name pn_2) hisR ?_
  intro p e s m args below meth c s₁ Bd hml0 hP hK
  obtain ⟨rfl, hZ, hh⟩ := hP
  have hx := Bd.exec
  have hby := Bd.bytes
  have hml : c.maxLocals = 1 := hml0
  have hown : s.vm.findClass "java/lang/Record" = some m.cls := findClass_of_methodNamed Bd.named
  have hnm := (name_of_methodNamed Bd.named Bd.method).1
  have X0 : Stand p l e ({ frames := 1, cells := 0, slots := 0, locals := 12 } : Room) s m #[(.ref aa)] below meth c s₁ [] 0 0 := Stand.of_body Bd
  have e0 : s₁.heap = h0 := by rw [← hh, Bd.state]; rfl
  have N0 := Fr.nil n0
  show Go p e below s (Q2 Z aa h0 n0) ({ frames := 1, cells := 0, slots := 0, locals := 12 } : Room).cells ({ frames := 1, cells := 0, slots := 0, locals := 12 } : Room).slots (s₁.setTop (entryFrame m #[(.ref aa)] 1))
  rw [ef_2]
  show Go _ _ _ _ _ _ _ (s₁.setTop (mkF m 0 #[.val (.ref aa)] []))
  refine Go.step (fun t k => XS.aloadN X0.here hx rfl (hb hby d2_0) rfl rfl k) ?_
  show Go _ _ _ _ _ _ _ (s₁.setTop (mkF m 1 #[.val (.ref aa)] [(.ref aa)]))
  obtain ⟨T1, X1, e1, st1⟩ := initO X0 hx hZ hown (hw _ (List.mem_of_getElem? (i := 14) rfl)) (hw _ (List.mem_of_getElem? (i := 15) rfl)) (hw _ (List.mem_of_getElem? (i := 16) rfl)) e0 (g := (mkF m 1 #[.val (.ref aa)] [(.ref aa)])) rfl (by rw [hml]; rfl) rfl (hb hby d2_1) (by decide) (W := 0) (by show 2 * 0 + _ ≤ _; exact Nat.le_of_eq rfl) (by decide)
  refine Go.step st1 ?_
  show Go _ _ _ _ _ _ _ (T1.setTop (mkF m 4 #[.val (.ref aa)] []))
  refine Go.retV X1 Bd.notSynchronized hx Bd.returns (hb hby d2_4) (by decide) (by decide) ?_
  rw [e1]
  exact ⟨rfl, N0, rfl⟩
theorem d1_0 : decode prog_212_method_1_code 0 = .ok (.aload_n 0, 1) := by decide +kernel
theorem d1_1 : decode prog_212_method_1_code 1 = .ok (.invokespecial 1, 3) := by decide +kernel
theorem d1_4 : decode prog_212_method_1_code 4 = .ok (.aload_n 0, 1) := by decide +kernel
theorem d1_5 : decode prog_212_method_1_code 5 = .ok (.aload_n 1, 1) := by decide +kernel
theorem d1_6 : decode prog_212_method_1_code 6 = .ok (.putfield 7, 3) := by decide +kernel
theorem d1_9 : decode prog_212_method_1_code 9 = .ok (.aload_n 0, 1) := by decide +kernel
theorem d1_10 : decode prog_212_method_1_code 10 = .ok (.aload_n 2, 1) := by decide +kernel
theorem d1_11 : decode prog_212_method_1_code 11 = .ok (.putfield 13, 3) := by decide +kernel
theorem d1_14 : decode prog_212_method_1_code 14 = .ok (.aload_n 0, 1) := by decide +kernel
theorem d1_15 : decode prog_212_method_1_code 15 = .ok (.aload_n 3, 1) := by decide +kernel
theorem d1_16 : decode prog_212_method_1_code 16 = .ok (.putfield 16, 3) := by decide +kernel
theorem d1_19 : decode prog_212_method_1_code 19 = .ok (.aload_n 0, 1) := by decide +kernel
theorem d1_20 : decode prog_212_method_1_code 20 = .ok (.aload 4, 2) := by decide +kernel
theorem d1_22 : decode prog_212_method_1_code 22 = .ok (.putfield 19, 3) := by decide +kernel
theorem d1_25 : decode prog_212_method_1_code 25 = .ok (.aload_n 0, 1) := by decide +kernel
theorem d1_26 : decode prog_212_method_1_code 26 = .ok (.aload 5, 2) := by decide +kernel
theorem d1_28 : decode prog_212_method_1_code 28 = .ok (.putfield 23, 3) := by decide +kernel
theorem d1_31 : decode prog_212_method_1_code 31 = .ok (.return_, 1) := by decide +kernel
theorem pn_1 : plainName "com/example/ferrylog/ferrylog/store/LiveIndex$Recent" = true := by first | (simp [plainName, overriddenIn]; done) | decide +kernel
theorem pd_1_0 : parseMethodDescriptor "()V" = some ⟨[], none⟩ := by decide +kernel
theorem ef_1 (m : MethodId) (x0 : Addr) (x1 : Addr) (x2 : Addr) (x3 : Addr) (x4 : Addr) (x5 : Addr) : entryFrame m #[(.ref x0), (.ref x1), (.ref x2), (.ref x3), (.ref x4), (.ref x5)] 6 = mkF m 0 #[.val (.ref x0), .val (.ref x1), .val (.ref x2), .val (.ref x3), .val (.ref x4), .val (.ref x5)] [] := by first | (simp [entryFrame, mkF, argsToLocals, Value.category]; done) | rfl
def Q1 (Z : State) (aa : Addr) (x1 : Addr) (x2 : Addr) (x3 : Addr) (x4 : Addr) (x5 : Addr) (h0 : Heap) (n0 : Nat) (v : Option Value) (h : Heap) (L : List Loc) : Prop := v = none ∧ Fr n0 L ∧ Keep h0 h [aa] ∧ Fld Z h aa "com/example/ferrylog/ferrylog/store/LiveIndex$Recent" "starts" "[I" (.ref x1) ∧ Fld Z h aa "com/example/ferrylog/ferrylog/store/LiveIndex$Recent" "positions" "[I" (.ref x2) ∧ Fld Z h aa "com/example/ferrylog/ferrylog/store/LiveIndex$Recent" "runStarts" "[I" (.ref x3) ∧ Fld Z h aa "com/example/ferrylog/ferrylog/store/LiveIndex$Recent" "firsts" "[J" (.ref x4) ∧ Fld Z h aa "com/example/ferrylog/ferrylog/store/LiveIndex$Recent" "runAt" "[I" (.ref x5)
set_option maxRecDepth 65536 in
set_option maxHeartbeats 40000000 in
theorem rm1 (l : Launch) (Z : State) (a0 : Array Value) (hw : ∀ d ∈ tables_1, d.before a0 Z = true) (ws : List Jvm.Cond) (aa : Addr) (x1 : Addr) (x2 : Addr) (x3 : Addr) (x4 : Addr) (x5 : Addr) (h0 : Heap) (n0 : Nat) (Z0 : n0 ≤ h0.size) (F_starts_aa : Fld Z h0 aa "com/example/ferrylog/ferrylog/store/LiveIndex$Recent" "starts" "[I" .null) (F_positions_aa : Fld Z h0 aa "com/example/ferrylog/ferrylog/store/LiveIndex$Recent" "positions" "[I" .null) (F_runStarts_aa : Fld Z h0 aa "com/example/ferrylog/ferrylog/store/LiveIndex$Recent" "runStarts" "[I" .null) (F_firsts_aa : Fld Z h0 aa "com/example/ferrylog/ferrylog/store/LiveIndex$Recent" "firsts" "[J" .null) (F_runAt_aa : Fld Z h0 aa "com/example/ferrylog/ferrylog/store/LiveIndex$Recent" "runAt" "[I" .null) (E_aa : Exa Z h0 aa "com/example/ferrylog/ferrylog/store/LiveIndex$Recent") (g_aa : n0 ≤ aa) :
    MetFree l (⟨"com/example/ferrylog/ferrylog/store/LiveIndex$Recent", "<init>", "([I[I[I[J[I)V"⟩ : MethodName) (head1 (Jvm.Cond.code (⟨"com/example/ferrylog/ferrylog/store/LiveIndex$Recent", "<init>", "([I[I[I[J[I)V"⟩ : MethodName) prog_212_method_1_code 6 none :: ws) ({ frames := 2, cells := 0, slots := 0, locals := 24 } : Room)) (fun a U => a = #[(.ref aa), (.ref x1), (.ref x2), (.ref x3), (.ref x4), (.ref x5)] ∧ Z.Warmed39 U.vm ∧ U.heap = h0) (fun _ _ _ _ _ => True) (fun _ U o U' => ∃ v L, o = .returned v ∧ Q1 Z aa x1 x2 x3 x4 x5 h0 n0 v U'.heap L ∧ FrameEnd U o U' L ({ frames := 2, cells := 0, slots := 0, locals := 24 } : Room).cells ({ frames := 2, cells := 0, slots := 0, locals := 24 } : Room).slots) := by
  refine MetFree.of_bodySF (plainFor_of_name pn_1) hisR ?_
  intro p e s m args below meth c s₁ Bd hml0 hP hK
  obtain ⟨rfl, hZ, hh⟩ := hP
  have hx := Bd.exec
  have hby := Bd.bytes
  have hml : c.maxLocals = 6 := hml0
  have hown : s.vm.findClass "com/example/ferrylog/ferrylog/store/LiveIndex$Recent" = some m.cls := findClass_of_methodNamed Bd.named
  have hnm := (name_of_methodNamed Bd.named Bd.method).1
  have X0 : Stand p l e ({ frames := 2, cells := 0, slots := 0, locals := 24 } : Room) s m #[(.ref aa), (.ref x1), (.ref x2), (.ref x3), (.ref x4), (.ref x5)] below meth c s₁ [] 0 0 := Stand.of_body Bd
  have e0 : s₁.heap = h0 := by rw [← hh, Bd.state]; rfl
  have N0 := Fr.nil n0
  have K0 := Keep.refl h0 ([aa] : List Addr)
  show Go p e below s (Q1 Z aa x1 x2 x3 x4 x5 h0 n0) ({ frames := 2, cells := 0, slots := 0, locals := 24 } : Room).cells ({ frames := 2, cells := 0, slots := 0, locals := 24 } : Room).slots (s₁.setTop (entryFrame m #[(.ref aa), (.ref x1), (.ref x2), (.ref x3), (.ref x4), (.ref x5)] 6))
  rw [ef_1]
  show Go _ _ _ _ _ _ _ (s₁.setTop (mkF m 0 #[.val (.ref aa), .val (.ref x1), .val (.ref x2), .val (.ref x3), .val (.ref x4), .val (.ref x5)] []))
  refine Go.step (fun t k => XS.aloadN X0.here hx rfl (hb hby d1_0) rfl rfl k) ?_
  show Go _ _ _ _ _ _ _ (s₁.setTop (mkF m 1 #[.val (.ref aa), .val (.ref x1), .val (.ref x2), .val (.ref x3), .val (.ref x4), .val (.ref x5)] [(.ref aa)]))
  obtain ⟨_, _, ⟨T1, L1, k1, n1⟩, -, X1, ⟨Lc1, hQ1, l1, y1, z1⟩, st1⟩ := X0.specialBack hx (y := (⟨"java/lang/Record", "<init>", "()V"⟩ : MethodName)) rfl hown (mvT hZ (hw _ (List.mem_of_getElem? (i := 9) rfl))) (mvT hZ (hw _ (List.mem_of_getElem? (i := 10) rfl))) (mvT hZ (hw _ (List.mem_of_getElem? (i := 13) rfl))) (by decide) (backOf (W := 0) (rm2 l Z a0 hw [] aa h0 n0 Z0) hZ (hw _ (List.mem_of_getElem? (i := 13) rfl)) (hw _ (List.mem_of_getElem? (i := 12) rfl)) (by decide) (by decide)) (g := (mkF m 1 #[.val (.ref aa), .val (.ref x1), .val (.ref x2), .val (.ref x3), .val (.ref x4), .val (.ref x5)] [(.ref aa)])) rfl (by rw [hml]; rfl) (Steps.refl _) (a := aa) (argsL := []) (rest := []) (lenOf pd_1_0 rfl) rfl (by show 2 * 0 + _ ≤ _; exact Nat.le_of_eq rfl) (hb hby d1_1) (fun _ _ => ⟨rfl, e0, (by decide : 0 + 0 ≤ _), (by decide : 0 + 0 ≤ _)⟩)
  dsimp only [Pt.U, Pt.locs, Pt.cells, Pt.slots] at X1 l1 y1 z1 st1 hQ1
  subst l1 y1 z1
  obtain ⟨rfl, N1q, K1q⟩ := hQ1
  have N1 := Fr.app N0 N1q
  refine Go.step (fun t k => st1.trans k) ?_
  show Go _ _ _ _ _ _ _ (T1.setTop (mkF m 4 #[.val (.ref aa), .val (.ref x1), .val (.ref x2), .val (.ref x3), .val (.ref x4), .val (.ref x5)] []))
  refine Go.step (fun t k => XS.aloadN X1.here hx rfl (hb hby d1_4) rfl rfl k) ?_
  show Go _ _ _ _ _ _ _ (T1.setTop (mkF m 5 #[.val (.ref aa), .val (.ref x1), .val (.ref x2), .val (.ref x3), .val (.ref x4), .val (.ref x5)] [(.ref aa)]))
  refine Go.step (fun t k => XS.aloadN X1.here hx rfl (hb hby d1_5) rfl rfl k) ?_
  show Go _ _ _ _ _ _ _ (T1.setTop (mkF m 6 #[.val (.ref aa), .val (.ref x1), .val (.ref x2), .val (.ref x3), .val (.ref x4), .val (.ref x5)] [(.ref x1), (.ref aa)]))
  obtain ⟨T2, h2, X2, e2, W2, st2⟩ := putF X1 hx hZ hown (host := "") (Or.inl (hw _ (List.mem_of_getElem? (i := 17) rfl))) Via.refl K1q F_starts_aa E_aa (Or.inr ⟨(hw _ (List.mem_of_getElem? (i := 18) rfl)), rfl, hnm⟩) (hw _ (List.mem_of_getElem? (i := 4) rfl)) (ty := (.array .int)) (by decide) rfl rfl (g := (mkF m 6 #[.val (.ref aa), .val (.ref x1), .val (.ref x2), .val (.ref x3), .val (.ref x4), .val (.ref x5)] [(.ref x1), (.ref aa)])) rfl rfl (hb hby d1_6)
  replace F_positions_aa := F_positions_aa.other W2 (Or.inr (slot_ne (Or.inr (hw _ (List.mem_of_getElem? (i := 20) rfl))) (Or.inr (hw _ (List.mem_of_getElem? (i := 18) rfl))) (by decide) (t := (.array .int)) (t' := (.array .int)) (by decide) (by decide)))
  replace F_runStarts_aa := F_runStarts_aa.other W2 (Or.inr (slot_ne (Or.inr (hw _ (List.mem_of_getElem? (i := 22) rfl))) (Or.inr (hw _ (List.mem_of_getElem? (i := 18) rfl))) (by decide) (t := (.array .int)) (t' := (.array .int)) (by decide) (by decide)))
  replace F_firsts_aa := F_firsts_aa.other W2 (Or.inr (slot_ne (Or.inr (hw _ (List.mem_of_getElem? (i := 24) rfl))) (Or.inr (hw _ (List.mem_of_getElem? (i := 18) rfl))) (by decide) (t := (.array .long)) (t' := (.array .int)) (by decide) (by decide)))
  replace F_runAt_aa := F_runAt_aa.other W2 (Or.inr (slot_ne (Or.inr (hw _ (List.mem_of_getElem? (i := 26) rfl))) (Or.inr (hw _ (List.mem_of_getElem? (i := 18) rfl))) (by decide) (t := (.array .int)) (t' := (.array .int)) (by decide) (by decide)))
  replace E_aa := E_aa.wr W2
  have Z2 := Nat.le_trans Z0 (Keep.of_wr W2).1
  have N2 := Fr.snoc X2 N1 g_aa
  have K2 := K0.wr W2 (Or.inl (List.mem_of_getElem? (i := 0) rfl))
  replace F_starts_aa := F_starts_aa.same W2
  refine Go.step st2 ?_
  show Go _ _ _ _ _ _ _ (T2.setTop (mkF m 9 #[.val (.ref aa), .val (.ref x1), .val (.ref x2), .val (.ref x3), .val (.ref x4), .val (.ref x5)] []))
  refine Go.step (fun t k => XS.aloadN X2.here hx rfl (hb hby d1_9) rfl rfl k) ?_
  show Go _ _ _ _ _ _ _ (T2.setTop (mkF m 10 #[.val (.ref aa), .val (.ref x1), .val (.ref x2), .val (.ref x3), .val (.ref x4), .val (.ref x5)] [(.ref aa)]))
  refine Go.step (fun t k => XS.aloadN X2.here hx rfl (hb hby d1_10) rfl rfl k) ?_
  show Go _ _ _ _ _ _ _ (T2.setTop (mkF m 11 #[.val (.ref aa), .val (.ref x1), .val (.ref x2), .val (.ref x3), .val (.ref x4), .val (.ref x5)] [(.ref x2), (.ref aa)]))
  obtain ⟨T3, h3, X3, e3, W3, st3⟩ := putF X2 hx hZ hown (host := "") (Or.inl (hw _ (List.mem_of_getElem? (i := 19) rfl))) Via.refl e2 F_positions_aa E_aa (Or.inr ⟨(hw _ (List.mem_of_getElem? (i := 20) rfl)), rfl, hnm⟩) (hw _ (List.mem_of_getElem? (i := 4) rfl)) (ty := (.array .int)) (by decide) rfl rfl (g := (mkF m 11 #[.val (.ref aa), .val (.ref x1), .val (.ref x2), .val (.ref x3), .val (.ref x4), .val (.ref x5)] [(.ref x2), (.ref aa)])) rfl rfl (hb hby d1_11)
  replace F_starts_aa := F_starts_aa.other W3 (Or.inr (slot_ne (Or.inr (hw _ (List.mem_of_getElem? (i := 18) rfl))) (Or.inr (hw _ (List.mem_of_getElem? (i := 20) rfl))) (by decide) (t := (.array .int)) (t' := (.array .int)) (by decide) (by decide)))
  replace F_runStarts_aa := F_runStarts_aa.other W3 (Or.inr (slot_ne (Or.inr (hw _ (List.mem_of_getElem? (i := 22) rfl))) (Or.inr (hw _ (List.mem_of_getElem? (i := 20) rfl))) (by decide) (t := (.array .int)) (t' := (.array .int)) (by decide) (by decide)))
  replace F_firsts_aa := F_firsts_aa.other W3 (Or.inr (slot_ne (Or.inr (hw _ (List.mem_of_getElem? (i := 24) rfl))) (Or.inr (hw _ (List.mem_of_getElem? (i := 20) rfl))) (by decide) (t := (.array .long)) (t' := (.array .int)) (by decide) (by decide)))
  replace F_runAt_aa := F_runAt_aa.other W3 (Or.inr (slot_ne (Or.inr (hw _ (List.mem_of_getElem? (i := 26) rfl))) (Or.inr (hw _ (List.mem_of_getElem? (i := 20) rfl))) (by decide) (t := (.array .int)) (t' := (.array .int)) (by decide) (by decide)))
  replace E_aa := E_aa.wr W3
  have Z3 := Nat.le_trans Z2 (Keep.of_wr W3).1
  have N3 := Fr.snoc X3 N2 g_aa
  have K3 := K2.wr W3 (Or.inl (List.mem_of_getElem? (i := 0) rfl))
  replace F_positions_aa := F_positions_aa.same W3
  refine Go.step st3 ?_
  show Go _ _ _ _ _ _ _ (T3.setTop (mkF m 14 #[.val (.ref aa), .val (.ref x1), .val (.ref x2), .val (.ref x3), .val (.ref x4), .val (.ref x5)] []))
  refine Go.step (fun t k => XS.aloadN X3.here hx rfl (hb hby d1_14) rfl rfl k) ?_
  show Go _ _ _ _ _ _ _ (T3.setTop (mkF m 15 #[.val (.ref aa), .val (.ref x1), .val (.ref x2), .val (.ref x3), .val (.ref x4), .val (.ref x5)] [(.ref aa)]))
  refine Go.step (fun t k => XS.aloadN X3.here hx rfl (hb hby d1_15) rfl rfl k) ?_
  show Go _ _ _ _ _ _ _ (T3.setTop (mkF m 16 #[.val (.ref aa), .val (.ref x1), .val (.ref x2), .val (.ref x3), .val (.ref x4), .val (.ref x5)] [(.ref x3), (.ref aa)]))
  obtain ⟨T4, h4, X4, e4, W4, st4⟩ := putF X3 hx hZ hown (host := "") (Or.inl (hw _ (List.mem_of_getElem? (i := 21) rfl))) Via.refl e3 F_runStarts_aa E_aa (Or.inr ⟨(hw _ (List.mem_of_getElem? (i := 22) rfl)), rfl, hnm⟩) (hw _ (List.mem_of_getElem? (i := 4) rfl)) (ty := (.array .int)) (by decide) rfl rfl (g := (mkF m 16 #[.val (.ref aa), .val (.ref x1), .val (.ref x2), .val (.ref x3), .val (.ref x4), .val (.ref x5)] [(.ref x3), (.ref aa)])) rfl rfl (hb hby d1_16)
  replace F_starts_aa := F_starts_aa.other W4 (Or.inr (slot_ne (Or.inr (hw _ (List.mem_of_getElem? (i := 18) rfl))) (Or.inr (hw _ (List.mem_of_getElem? (i := 22) rfl))) (by decide) (t := (.array .int)) (t' := (.array .int)) (by decide) (by decide)))
  replace F_positions_aa := F_positions_aa.other W4 (Or.inr (slot_ne (Or.inr (hw _ (List.mem_of_getElem? (i := 20) rfl))) (Or.inr (hw _ (List.mem_of_getElem? (i := 22) rfl))) (by decide) (t := (.array .int)) (t' := (.array .int)) (by decide) (by decide)))
  replace F_firsts_aa := F_firsts_aa.other W4 (Or.inr (slot_ne (Or.inr (hw _ (List.mem_of_getElem? (i := 24) rfl))) (Or.inr (hw _ (List.mem_of_getElem? (i := 22) rfl))) (by decide) (t := (.array .long)) (t' := (.array .int)) (by decide) (by decide)))
  replace F_runAt_aa := F_runAt_aa.other W4 (Or.inr (slot_ne (Or.inr (hw _ (List.mem_of_getElem? (i := 26) rfl))) (Or.inr (hw _ (List.mem_of_getElem? (i := 22) rfl))) (by decide) (t := (.array .int)) (t' := (.array .int)) (by decide) (by decide)))
  replace E_aa := E_aa.wr W4
  have Z4 := Nat.le_trans Z3 (Keep.of_wr W4).1
  have N4 := Fr.snoc X4 N3 g_aa
  have K4 := K3.wr W4 (Or.inl (List.mem_of_getElem? (i := 0) rfl))
  replace F_runStarts_aa := F_runStarts_aa.same W4
  refine Go.step st4 ?_
  show Go _ _ _ _ _ _ _ (T4.setTop (mkF m 19 #[.val (.ref aa), .val (.ref x1), .val (.ref x2), .val (.ref x3), .val (.ref x4), .val (.ref x5)] []))
  refine Go.step (fun t k => XS.aloadN X4.here hx rfl (hb hby d1_19) rfl rfl k) ?_
  show Go _ _ _ _ _ _ _ (T4.setTop (mkF m 20 #[.val (.ref aa), .val (.ref x1), .val (.ref x2), .val (.ref x3), .val (.ref x4), .val (.ref x5)] [(.ref aa)]))
  refine Go.step (fun t k => XS.aload X4.here hx rfl (hb hby d1_20) rfl rfl k) ?_
  show Go _ _ _ _ _ _ _ (T4.setTop (mkF m 22 #[.val (.ref aa), .val (.ref x1), .val (.ref x2), .val (.ref x3), .val (.ref x4), .val (.ref x5)] [(.ref x4), (.ref aa)]))
  obtain ⟨T5, h5, X5, e5, W5, st5⟩ := putF X4 hx hZ hown (host := "") (Or.inl (hw _ (List.mem_of_getElem? (i := 23) rfl))) Via.refl e4 F_firsts_aa E_aa (Or.inr ⟨(hw _ (List.mem_of_getElem? (i := 24) rfl)), rfl, hnm⟩) (hw _ (List.mem_of_getElem? (i := 4) rfl)) (ty := (.array .long)) (by decide) rfl rfl (g := (mkF m 22 #[.val (.ref aa), .val (.ref x1), .val (.ref x2), .val (.ref x3), .val (.ref x4), .val (.ref x5)] [(.ref x4), (.ref aa)])) rfl rfl (hb hby d1_22)
  replace F_starts_aa := F_starts_aa.other W5 (Or.inr (slot_ne (Or.inr (hw _ (List.mem_of_getElem? (i := 18) rfl))) (Or.inr (hw _ (List.mem_of_getElem? (i := 24) rfl))) (by decide) (t := (.array .int)) (t' := (.array .long)) (by decide) (by decide)))
  replace F_positions_aa := F_positions_aa.other W5 (Or.inr (slot_ne (Or.inr (hw _ (List.mem_of_getElem? (i := 20) rfl))) (Or.inr (hw _ (List.mem_of_getElem? (i := 24) rfl))) (by decide) (t := (.array .int)) (t' := (.array .long)) (by decide) (by decide)))
  replace F_runStarts_aa := F_runStarts_aa.other W5 (Or.inr (slot_ne (Or.inr (hw _ (List.mem_of_getElem? (i := 22) rfl))) (Or.inr (hw _ (List.mem_of_getElem? (i := 24) rfl))) (by decide) (t := (.array .int)) (t' := (.array .long)) (by decide) (by decide)))
  replace F_runAt_aa := F_runAt_aa.other W5 (Or.inr (slot_ne (Or.inr (hw _ (List.mem_of_getElem? (i := 26) rfl))) (Or.inr (hw _ (List.mem_of_getElem? (i := 24) rfl))) (by decide) (t := (.array .int)) (t' := (.array .long)) (by decide) (by decide)))
  replace E_aa := E_aa.wr W5
  have Z5 := Nat.le_trans Z4 (Keep.of_wr W5).1
  have N5 := Fr.snoc X5 N4 g_aa
  have K5 := K4.wr W5 (Or.inl (List.mem_of_getElem? (i := 0) rfl))
  replace F_firsts_aa := F_firsts_aa.same W5
  refine Go.step st5 ?_
  show Go _ _ _ _ _ _ _ (T5.setTop (mkF m 25 #[.val (.ref aa), .val (.ref x1), .val (.ref x2), .val (.ref x3), .val (.ref x4), .val (.ref x5)] []))
  refine Go.step (fun t k => XS.aloadN X5.here hx rfl (hb hby d1_25) rfl rfl k) ?_
  show Go _ _ _ _ _ _ _ (T5.setTop (mkF m 26 #[.val (.ref aa), .val (.ref x1), .val (.ref x2), .val (.ref x3), .val (.ref x4), .val (.ref x5)] [(.ref aa)]))
  refine Go.step (fun t k => XS.aload X5.here hx rfl (hb hby d1_26) rfl rfl k) ?_
  show Go _ _ _ _ _ _ _ (T5.setTop (mkF m 28 #[.val (.ref aa), .val (.ref x1), .val (.ref x2), .val (.ref x3), .val (.ref x4), .val (.ref x5)] [(.ref x5), (.ref aa)]))
  obtain ⟨T6, h6, X6, e6, W6, st6⟩ := putF X5 hx hZ hown (host := "") (Or.inl (hw _ (List.mem_of_getElem? (i := 25) rfl))) Via.refl e5 F_runAt_aa E_aa (Or.inr ⟨(hw _ (List.mem_of_getElem? (i := 26) rfl)), rfl, hnm⟩) (hw _ (List.mem_of_getElem? (i := 4) rfl)) (ty := (.array .int)) (by decide) rfl rfl (g := (mkF m 28 #[.val (.ref aa), .val (.ref x1), .val (.ref x2), .val (.ref x3), .val (.ref x4), .val (.ref x5)] [(.ref x5), (.ref aa)])) rfl rfl (hb hby d1_28)
  replace F_starts_aa := F_starts_aa.other W6 (Or.inr (slot_ne (Or.inr (hw _ (List.mem_of_getElem? (i := 18) rfl))) (Or.inr (hw _ (List.mem_of_getElem? (i := 26) rfl))) (by decide) (t := (.array .int)) (t' := (.array .int)) (by decide) (by decide)))
  replace F_positions_aa := F_positions_aa.other W6 (Or.inr (slot_ne (Or.inr (hw _ (List.mem_of_getElem? (i := 20) rfl))) (Or.inr (hw _ (List.mem_of_getElem? (i := 26) rfl))) (by decide) (t := (.array .int)) (t' := (.array .int)) (by decide) (by decide)))
  replace F_runStarts_aa := F_runStarts_aa.other W6 (Or.inr (slot_ne (Or.inr (hw _ (List.mem_of_getElem? (i := 22) rfl))) (Or.inr (hw _ (List.mem_of_getElem? (i := 26) rfl))) (by decide) (t := (.array .int)) (t' := (.array .int)) (by decide) (by decide)))
  replace F_firsts_aa := F_firsts_aa.other W6 (Or.inr (slot_ne (Or.inr (hw _ (List.mem_of_getElem? (i := 24) rfl))) (Or.inr (hw _ (List.mem_of_getElem? (i := 26) rfl))) (by decide) (t := (.array .long)) (t' := (.array .int)) (by decide) (by decide)))
  replace E_aa := E_aa.wr W6
  have Z6 := Nat.le_trans Z5 (Keep.of_wr W6).1
  have N6 := Fr.snoc X6 N5 g_aa
  have K6 := K5.wr W6 (Or.inl (List.mem_of_getElem? (i := 0) rfl))
  replace F_runAt_aa := F_runAt_aa.same W6
  refine Go.step st6 ?_
  show Go _ _ _ _ _ _ _ (T6.setTop (mkF m 31 #[.val (.ref aa), .val (.ref x1), .val (.ref x2), .val (.ref x3), .val (.ref x4), .val (.ref x5)] []))
  refine Go.retV X6 Bd.notSynchronized hx Bd.returns (hb hby d1_31) (by decide) (by decide) ?_
  rw [e6]
  exact ⟨rfl, N6, K6, F_starts_aa, F_positions_aa, F_runStarts_aa, F_firsts_aa, F_runAt_aa⟩
theorem d4_0 : decode prog_212_method_5_code 0 = .ok (.iload_n 2, 1) := by decide +kernel
theorem d4_1 : decode prog_212_method_5_code 1 = .ok (.iconst 1, 1) := by decide +kernel
theorem d4_2 : decode prog_212_method_5_code 2 = .ok (.iadd, 1) := by decide +kernel
theorem d4_3 : decode prog_212_method_5_code 3 = .ok (.aload_n 0, 1) := by decide +kernel
theorem d4_4 : decode prog_212_method_5_code 4 = .ok (.getfield 16, 3) := by decide +kernel
theorem d4_7 : decode prog_212_method_5_code 7 = .ok (.iload_n 1, 1) := by decide +kernel
theorem d4_8 : decode prog_212_method_5_code 8 = .ok (.iconst 1, 1) := by decide +kernel
theorem d4_9 : decode prog_212_method_5_code 9 = .ok (.iadd, 1) := by decide +kernel
theorem d4_10 : decode prog_212_method_5_code 10 = .ok (.iaload, 1) := by decide +kernel
theorem d4_11 : decode prog_212_method_5_code 11 = .ok (.if_icmp .ge 14, 3) := by decide +kernel
theorem d4_14 : decode prog_212_method_5_code 14 = .ok (.aload_n 0, 1) := by decide +kernel
theorem d4_15 : decode prog_212_method_5_code 15 = .ok (.getfield 23, 3) := by decide +kernel
theorem d4_18 : decode prog_212_method_5_code 18 = .ok (.iload_n 2, 1) := by decide +kernel
theorem d4_19 : decode prog_212_method_5_code 19 = .ok (.iconst 1, 1) := by decide +kernel
theorem d4_20 : decode prog_212_method_5_code 20 = .ok (.iadd, 1) := by decide +kernel
theorem d4_21 : decode prog_212_method_5_code 21 = .ok (.iaload, 1) := by decide +kernel
theorem d4_22 : decode prog_212_method_5_code 22 = .ok (.goto 11, 3) := by decide +kernel
theorem d4_25 : decode prog_212_method_5_code 25 = .ok (.aload_n 0, 1) := by decide +kernel
theorem d4_26 : decode prog_212_method_5_code 26 = .ok (.getfield 7, 3) := by decide +kernel
theorem d4_29 : decode prog_212_method_5_code 29 = .ok (.iload_n 1, 1) := by decide +kernel
theorem d4_30 : decode prog_212_method_5_code 30 = .ok (.iconst 1, 1) := by decide +kernel
theorem d4_31 : decode prog_212_method_5_code 31 = .ok (.iadd, 1) := by decide +kernel
theorem d4_32 : decode prog_212_method_5_code 32 = .ok (.iaload, 1) := by decide +kernel
theorem d4_33 : decode prog_212_method_5_code 33 = .ok (.aload_n 0, 1) := by decide +kernel
theorem d4_34 : decode prog_212_method_5_code 34 = .ok (.getfield 23, 3) := by decide +kernel
theorem d4_37 : decode prog_212_method_5_code 37 = .ok (.iload_n 2, 1) := by decide +kernel
theorem d4_38 : decode prog_212_method_5_code 38 = .ok (.iaload, 1) := by decide +kernel
theorem d4_39 : decode prog_212_method_5_code 39 = .ok (.isub, 1) := by decide +kernel
theorem d4_40 : decode prog_212_method_5_code 40 = .ok (.ireturn, 1) := by decide +kernel
theorem pn_4 : plainName "com/example/ferrylog/ferrylog/store/LiveIndex$Recent" = true := by first | (simp [plainName, overriddenIn]; done) | decide +kernel
theorem ef_4 (m : MethodId) (x0 : Addr) (x1 : Int32) (x2 : Int32) : entryFrame m #[(.ref x0), (.int x1), (.int x2)] 3 = mkF m 0 #[.val (.ref x0), .val (.int x1), .val (.int x2)] [] := by first | (simp [entryFrame, mkF, argsToLocals, Value.category]; done) | rfl
def Q4 (Z : State) (aa : Addr) (tp : Int32) (rn : Int32) (x1 : Addr) (x3 : Addr) (x5 : Addr) (f1 : Nat → Int32) (f3 : Nat → Int32) (f5 : Nat → Int32) (kt : Nat) (kr : Nat) (h0 : Heap) (n0 : Nat) (v : Option Value) (h : Heap) (L : List Loc) : Prop := v = some (.int ((if (rn + (1 : Int32)) < f3 (kt + 1) then f5 (kr + 1) else f1 (kt + 1)) - f5 kr)) ∧ Fr n0 L ∧ h = h0
set_option maxRecDepth 65536 in
set_option maxHeartbeats 40000000 in
theorem rm4 (l : Launch) (Z : State) (a0 : Array Value) (hw : ∀ d ∈ tables_1, d.before a0 Z = true) (ws : List Jvm.Cond) (aa : Addr) (tp : Int32) (rn : Int32) (x1 : Addr) (x3 : Addr) (x5 : Addr) (f1 : Nat → Int32) (f3 : Nat → Int32) (f5 : Nat → Int32) (kt : Nat) (kr : Nat) (h0 : Heap) (n0 : Nat) (Z0 : n0 ≤ h0.size) (F_starts_aa : Fld Z h0 aa "com/example/ferrylog/ferrylog/store/LiveIndex$Recent" "starts" "[I" (.ref x1)) (F_runStarts_aa : Fld Z h0 aa "com/example/ferrylog/ferrylog/store/LiveIndex$Recent" "runStarts" "[I" (.ref x3)) (F_runAt_aa : Fld Z h0 aa "com/example/ferrylog/ferrylog/store/LiveIndex$Recent" "runAt" "[I" (.ref x5)) (A_x1 : AryI Z h0 x1 .int 3 f1) (A_x3 : AryI Z h0 x3 .int 3 f3) (A_x5 : AryI Z h0 x5 .int 3 f5) (ht : (tp.toInt = (kt : Int))) (hr : (rn.toInt = (kr : Int))) (hkt : (kt < 2)) (hkr : (kr < 3)) (hlt : ((rn + (1 : Int32)) < f3 (kt + 1) → kr < 2)) :
    MetFree l (⟨"com/example/ferrylog/ferrylog/store/LiveIndex$Recent", "count", "(II)I"⟩ : MethodName) (head1 (Jvm.Cond.code (⟨"com/example/ferrylog/ferrylog/store/LiveIndex$Recent", "count", "(II)I"⟩ : MethodName) prog_212_method_5_code 3 (some .int) :: ws) ({ frames := 0, cells := 0, slots := 0, locals := 0 } : Room)) (fun a U => a = #[(.ref aa), (.int tp), (.int rn)] ∧ Z.Warmed39 U.vm ∧ U.heap = h0) (fun _ _ _ _ _ => True) (fun _ U o U' => ∃ v L, o = .returned v ∧ Q4 Z aa tp rn x1 x3 x5 f1 f3 f5 kt kr h0 n0 v U'.heap L ∧ FrameEnd U o U' L ({ frames := 0, cells := 0, slots := 0, locals := 0 } : Room).cells ({ frames := 0, cells := 0, slots := 0, locals := 0 } : Room).slots) := by
  refine MetFree.of_bodySF (plainFor_of_name pn_4) hisR ?_
  intro p e s m args below meth c s₁ Bd hml0 hP hK
  obtain ⟨rfl, hZ, hh⟩ := hP
  have hx := Bd.exec
  have hby := Bd.bytes
  have hml : c.maxLocals = 3 := hml0
  have hown : s.vm.findClass "com/example/ferrylog/ferrylog/store/LiveIndex$Recent" = some m.cls := findClass_of_methodNamed Bd.named
  have hnm := (name_of_methodNamed Bd.named Bd.method).1
  have X0 : Stand p l e ({ frames := 0, cells := 0, slots := 0, locals := 0 } : Room) s m #[(.ref aa), (.int tp), (.int rn)] below meth c s₁ [] 0 0 := Stand.of_body Bd
  have e0 : s₁.heap = h0 := by rw [← hh, Bd.state]; rfl
  have N0 := Fr.nil n0
  show Go p e below s (Q4 Z aa tp rn x1 x3 x5 f1 f3 f5 kt kr h0 n0) ({ frames := 0, cells := 0, slots := 0, locals := 0 } : Room).cells ({ frames := 0, cells := 0, slots := 0, locals := 0 } : Room).slots (s₁.setTop (entryFrame m #[(.ref aa), (.int tp), (.int rn)] 3))
  rw [ef_4]
  show Go _ _ _ _ _ _ _ (s₁.setTop (mkF m 0 #[.val (.ref aa), .val (.int tp), .val (.int rn)] []))
  refine Go.step (fun t k => XS.iloadN X0.here hx rfl (hb hby d4_0) rfl k) ?_
  show Go _ _ _ _ _ _ _ (s₁.setTop (mkF m 1 #[.val (.ref aa), .val (.int tp), .val (.int rn)] [(.int rn)]))
  refine Go.step (fun t k => XS.iconst X0.here hx rfl (hb hby d4_1) k) ?_
  show Go _ _ _ _ _ _ _ (s₁.setTop (mkF m 2 #[.val (.ref aa), .val (.int tp), .val (.int rn)] [(.int (1 : Int32)), (.int rn)]))
  refine Go.step (fun t k => XS.iadd X0.here hx rfl (hb hby d4_2) rfl k) ?_
  show Go _ _ _ _ _ _ _ (s₁.setTop (mkF m 3 #[.val (.ref aa), .val (.int tp), .val (.int rn)] [(.int (rn + (1 : Int32)))]))
  refine Go.step (fun t k => XS.aloadN X0.here hx rfl (hb hby d4_3) rfl rfl k) ?_
  show Go _ _ _ _ _ _ _ (s₁.setTop (mkF m 4 #[.val (.ref aa), .val (.int tp), .val (.int rn)] [(.ref aa), (.int (rn + (1 : Int32)))]))
  obtain ⟨T1, X1, e1, st1⟩ := getF X0 hx hZ hown (host := "") (Or.inl (hw _ (List.mem_of_getElem? (i := 21) rfl))) Via.refl e0 F_runStarts_aa (g := (mkF m 4 #[.val (.ref aa), .val (.int tp), .val (.int rn)] [(.ref aa), (.int (rn + (1 : Int32)))])) rfl rfl (hb hby d4_4)
  refine Go.step st1 ?_
  show Go _ _ _ _ _ _ _ (T1.setTop (mkF m 7 #[.val (.ref aa), .val (.int tp), .val (.int rn)] [(.ref x3), (.int (rn + (1 : Int32)))]))
  refine Go.step (fun t k => XS.iloadN X1.here hx rfl (hb hby d4_7) rfl k) ?_
  show Go _ _ _ _ _ _ _ (T1.setTop (mkF m 8 #[.val (.ref aa), .val (.int tp), .val (.int rn)] [(.int tp), (.ref x3), (.int (rn + (1 : Int32)))]))
  refine Go.step (fun t k => XS.iconst X1.here hx rfl (hb hby d4_8) k) ?_
  show Go _ _ _ _ _ _ _ (T1.setTop (mkF m 9 #[.val (.ref aa), .val (.int tp), .val (.int rn)] [(.int (1 : Int32)), (.int tp), (.ref x3), (.int (rn + (1 : Int32)))]))
  refine Go.step (fun t k => XS.iadd X1.here hx rfl (hb hby d4_9) rfl k) ?_
  show Go _ _ _ _ _ _ _ (T1.setTop (mkF m 10 #[.val (.ref aa), .val (.int tp), .val (.int rn)] [(.int (tp + (1 : Int32))), (.ref x3), (.int (rn + (1 : Int32)))]))
  refine Go.step (own_ld X1 hx hZ e1 A_x3 (j := (tp + (1 : Int32))) (kt + 1) (own_inc ht (by omega)) (by omega) (v := (.int (f3 (kt + 1)))) rfl (Or.inl ⟨rfl, rfl⟩) (f := (mkF m 10 #[.val (.ref aa), .val (.int tp), .val (.int rn)] [(.int (tp + (1 : Int32))), (.ref x3), (.int (rn + (1 : Int32)))])) rfl rfl (hb hby d4_10)) ?_
  show Go _ _ _ _ _ _ _ (T1.setTop (mkF m 11 #[.val (.ref aa), .val (.int tp), .val (.int rn)] [(.int (f3 (kt + 1))), (.int (rn + (1 : Int32)))]))
  by_cases hc11_3 : (rn + (1 : Int32)) < (f3 (kt + 1))
  · refine Go.step (fun t k => XS.icmpNo X1.here hx rfl (hb hby d4_11) rfl (tlt hc11_3).2.1 k) ?_
    show Go _ _ _ _ _ _ _ (T1.setTop (mkF m 14 #[.val (.ref aa), .val (.int tp), .val (.int rn)] []))
    refine Go.step (fun t k => XS.aloadN X1.here hx rfl (hb hby d4_14) rfl rfl k) ?_
    show Go _ _ _ _ _ _ _ (T1.setTop (mkF m 15 #[.val (.ref aa), .val (.int tp), .val (.int rn)] [(.ref aa)]))
    obtain ⟨T4, X4, e4, st4⟩ := getF X1 hx hZ hown (host := "") (Or.inl (hw _ (List.mem_of_getElem? (i := 25) rfl))) Via.refl e1 F_runAt_aa (g := (mkF m 15 #[.val (.ref aa), .val (.int tp), .val (.int rn)] [(.ref aa)])) rfl rfl (hb hby d4_15)
    refine Go.step st4 ?_
    show Go _ _ _ _ _ _ _ (T4.setTop (mkF m 18 #[.val (.ref aa), .val (.int tp), .val (.int rn)] [(.ref x5)]))
    refine Go.step (fun t k => XS.iloadN X4.here hx rfl (hb hby d4_18) rfl k) ?_
    show Go _ _ _ _ _ _ _ (T4.setTop (mkF m 19 #[.val (.ref aa), .val (.int tp), .val (.int rn)] [(.int rn), (.ref x5)]))
    refine Go.step (fun t k => XS.iconst X4.here hx rfl (hb hby d4_19) k) ?_
    show Go _ _ _ _ _ _ _ (T4.setTop (mkF m 20 #[.val (.ref aa), .val (.int tp), .val (.int rn)] [(.int (1 : Int32)), (.int rn), (.ref x5)]))
    refine Go.step (fun t k => XS.iadd X4.here hx rfl (hb hby d4_20) rfl k) ?_
    show Go _ _ _ _ _ _ _ (T4.setTop (mkF m 21 #[.val (.ref aa), .val (.int tp), .val (.int rn)] [(.int (rn + (1 : Int32))), (.ref x5)]))
    refine Go.step (own_ld X4 hx hZ e4 A_x5 (j := (rn + (1 : Int32))) (kr + 1) (own_inc hr (by omega)) (by have := hlt (by assumption); omega) (v := (.int (f5 (kr + 1)))) rfl (Or.inl ⟨rfl, rfl⟩) (f := (mkF m 21 #[.val (.ref aa), .val (.int tp), .val (.int rn)] [(.int (rn + (1 : Int32))), (.ref x5)])) rfl rfl (hb hby d4_21)) ?_
    show Go _ _ _ _ _ _ _ (T4.setTop (mkF m 22 #[.val (.ref aa), .val (.int tp), .val (.int rn)] [(.int (f5 (kr + 1)))]))
    refine Go.step (fun t k => XS.goto X4.here hx rfl (pc0 := 22) (pc' := 33) rfl (hb hby d4_22) (by decide) (by decide) k) ?_
    show Go _ _ _ _ _ _ _ (T4.setTop (mkF m 33 #[.val (.ref aa), .val (.int tp), .val (.int rn)] [(.int (f5 (kr + 1)))]))
    refine Go.step (fun t k => XS.aloadN X4.here hx rfl (hb hby d4_33) rfl rfl k) ?_
    show Go _ _ _ _ _ _ _ (T4.setTop (mkF m 34 #[.val (.ref aa), .val (.int tp), .val (.int rn)] [(.ref aa), (.int (f5 (kr + 1)))]))
    obtain ⟨T6, X6, e6, st6⟩ := getF X4 hx hZ hown (host := "") (Or.inl (hw _ (List.mem_of_getElem? (i := 25) rfl))) Via.refl e4 F_runAt_aa (g := (mkF m 34 #[.val (.ref aa), .val (.int tp), .val (.int rn)] [(.ref aa), (.int (f5 (kr + 1)))])) rfl rfl (hb hby d4_34)
    refine Go.step st6 ?_
    show Go _ _ _ _ _ _ _ (T6.setTop (mkF m 37 #[.val (.ref aa), .val (.int tp), .val (.int rn)] [(.ref x5), (.int (f5 (kr + 1)))]))
    refine Go.step (fun t k => XS.iloadN X6.here hx rfl (hb hby d4_37) rfl k) ?_
    show Go _ _ _ _ _ _ _ (T6.setTop (mkF m 38 #[.val (.ref aa), .val (.int tp), .val (.int rn)] [(.int rn), (.ref x5), (.int (f5 (kr + 1)))]))
    refine Go.step (own_ld X6 hx hZ e6 A_x5 (j := rn) kr hr hkr (v := (.int (f5 kr))) rfl (Or.inl ⟨rfl, rfl⟩) (f := (mkF m 38 #[.val (.ref aa), .val (.int tp), .val (.int rn)] [(.int rn), (.ref x5), (.int (f5 (kr + 1)))])) rfl rfl (hb hby d4_38)) ?_
    show Go _ _ _ _ _ _ _ (T6.setTop (mkF m 39 #[.val (.ref aa), .val (.int tp), .val (.int rn)] [(.int (f5 kr)), (.int (f5 (kr + 1)))]))
    refine Go.step (fun t k => XS.isub X6.here hx rfl (hb hby d4_39) rfl k) ?_
    show Go _ _ _ _ _ _ _ (T6.setTop (mkF m 40 #[.val (.ref aa), .val (.int tp), .val (.int rn)] [(.int ((f5 (kr + 1)) - (f5 kr)))]))
    refine Go.retI X6 Bd.notSynchronized hx Bd.returns (hb hby d4_40) (by decide) (by decide) ?_
    rw [e6]
    exact ⟨(by rw [if_pos hc11_3]), N0, rfl⟩
  · refine Go.step (fun t k => XS.icmpYes X1.here hx rfl (pc0 := 11) (pc' := 25) rfl (hb hby d4_11) rfl (flt hc11_3).2.1 (by decide) (by decide) k) ?_
    show Go _ _ _ _ _ _ _ (T1.setTop (mkF m 25 #[.val (.ref aa), .val (.int tp), .val (.int rn)] []))
    refine Go.step (fun t k => XS.aloadN X1.here hx rfl (hb hby d4_25) rfl rfl k) ?_
    show Go _ _ _ _ _ _ _ (T1.setTop (mkF m 26 #[.val (.ref aa), .val (.int tp), .val (.int rn)] [(.ref aa)]))
    obtain ⟨T8, X8, e8, st8⟩ := getF X1 hx hZ hown (host := "") (Or.inl (hw _ (List.mem_of_getElem? (i := 17) rfl))) Via.refl e1 F_starts_aa (g := (mkF m 26 #[.val (.ref aa), .val (.int tp), .val (.int rn)] [(.ref aa)])) rfl rfl (hb hby d4_26)
    refine Go.step st8 ?_
    show Go _ _ _ _ _ _ _ (T8.setTop (mkF m 29 #[.val (.ref aa), .val (.int tp), .val (.int rn)] [(.ref x1)]))
    refine Go.step (fun t k => XS.iloadN X8.here hx rfl (hb hby d4_29) rfl k) ?_
    show Go _ _ _ _ _ _ _ (T8.setTop (mkF m 30 #[.val (.ref aa), .val (.int tp), .val (.int rn)] [(.int tp), (.ref x1)]))
    refine Go.step (fun t k => XS.iconst X8.here hx rfl (hb hby d4_30) k) ?_
    show Go _ _ _ _ _ _ _ (T8.setTop (mkF m 31 #[.val (.ref aa), .val (.int tp), .val (.int rn)] [(.int (1 : Int32)), (.int tp), (.ref x1)]))
    refine Go.step (fun t k => XS.iadd X8.here hx rfl (hb hby d4_31) rfl k) ?_
    show Go _ _ _ _ _ _ _ (T8.setTop (mkF m 32 #[.val (.ref aa), .val (.int tp), .val (.int rn)] [(.int (tp + (1 : Int32))), (.ref x1)]))
    refine Go.step (own_ld X8 hx hZ e8 A_x1 (j := (tp + (1 : Int32))) (kt + 1) (own_inc ht (by omega)) (by omega) (v := (.int (f1 (kt + 1)))) rfl (Or.inl ⟨rfl, rfl⟩) (f := (mkF m 32 #[.val (.ref aa), .val (.int tp), .val (.int rn)] [(.int (tp + (1 : Int32))), (.ref x1)])) rfl rfl (hb hby d4_32)) ?_
    show Go _ _ _ _ _ _ _ (T8.setTop (mkF m 33 #[.val (.ref aa), .val (.int tp), .val (.int rn)] [(.int (f1 (kt + 1)))]))
    refine Go.step (fun t k => XS.aloadN X8.here hx rfl (hb hby d4_33) rfl rfl k) ?_
    show Go _ _ _ _ _ _ _ (T8.setTop (mkF m 34 #[.val (.ref aa), .val (.int tp), .val (.int rn)] [(.ref aa), (.int (f1 (kt + 1)))]))
    obtain ⟨T10, X10, e10, st10⟩ := getF X8 hx hZ hown (host := "") (Or.inl (hw _ (List.mem_of_getElem? (i := 25) rfl))) Via.refl e8 F_runAt_aa (g := (mkF m 34 #[.val (.ref aa), .val (.int tp), .val (.int rn)] [(.ref aa), (.int (f1 (kt + 1)))])) rfl rfl (hb hby d4_34)
    refine Go.step st10 ?_
    show Go _ _ _ _ _ _ _ (T10.setTop (mkF m 37 #[.val (.ref aa), .val (.int tp), .val (.int rn)] [(.ref x5), (.int (f1 (kt + 1)))]))
    refine Go.step (fun t k => XS.iloadN X10.here hx rfl (hb hby d4_37) rfl k) ?_
    show Go _ _ _ _ _ _ _ (T10.setTop (mkF m 38 #[.val (.ref aa), .val (.int tp), .val (.int rn)] [(.int rn), (.ref x5), (.int (f1 (kt + 1)))]))
    refine Go.step (own_ld X10 hx hZ e10 A_x5 (j := rn) kr hr hkr (v := (.int (f5 kr))) rfl (Or.inl ⟨rfl, rfl⟩) (f := (mkF m 38 #[.val (.ref aa), .val (.int tp), .val (.int rn)] [(.int rn), (.ref x5), (.int (f1 (kt + 1)))])) rfl rfl (hb hby d4_38)) ?_
    show Go _ _ _ _ _ _ _ (T10.setTop (mkF m 39 #[.val (.ref aa), .val (.int tp), .val (.int rn)] [(.int (f5 kr)), (.int (f1 (kt + 1)))]))
    refine Go.step (fun t k => XS.isub X10.here hx rfl (hb hby d4_39) rfl k) ?_
    show Go _ _ _ _ _ _ _ (T10.setTop (mkF m 40 #[.val (.ref aa), .val (.int tp), .val (.int rn)] [(.int ((f1 (kt + 1)) - (f5 kr)))]))
    refine Go.retI X10 Bd.notSynchronized hx Bd.returns (hb hby d4_40) (by decide) (by decide) ?_
    rw [e10]
    exact ⟨(by rw [if_neg hc11_3]), N0, rfl⟩
theorem pn_0 : plainName "com/example/ferrylog/ferrylog/store/RecentCountPinLaw" = true := by first | (simp [plainName, overriddenIn]; done) | decide +kernel
theorem pd_0_0 : parseMethodDescriptor "([I[I[I[J[I)V" = some ⟨[(.array .int), (.array .int), (.array .int), (.array .long), (.array .int)], none⟩ := by decide +kernel
theorem pd_0_1 : parseMethodDescriptor "(II)I" = some ⟨[.int, .int], some .int⟩ := by decide +kernel
theorem ef_0 (m : MethodId) (x0 : Int32) (x1 : Int32) (x2 : Int32) : entryFrame m #[(.int x0), (.int x1), (.int x2)] maxLocals = mkF m 0 #[.val (.int x0), .val (.int x1), .val (.int x2), .unset, .unset, .unset, .unset, .unset, .unset, .unset, .unset, .unset, .unset, .unset] [] := by first | (simp [entryFrame, mkF, argsToLocals, Value.category, maxLocals]; done) | rfl
def Q0 (Z : State) (pp : Int32) (pq : Int32) (fl : Int32) (h0 : Heap) (n0 : Nat) (v : Option Value) (h : Heap) (L : List Loc) : Prop := v = some (.int (1 : Int32)) ∧ Fr n0 L
set_option maxRecDepth 65536 in
set_option maxHeartbeats 40000000 in
theorem rm0 (l : Launch) (Z : State) (a0 : Array Value) (hw : ∀ d ∈ tables_1, d.before a0 Z = true) (ws : List Jvm.Cond) (pp : Int32) (pq : Int32) (fl : Int32) (h0 : Heap) (n0 : Nat) (Z0 : n0 ≤ h0.size) :
    MetFree l x (head1 (Jvm.Cond.code x code maxLocals ret :: ws) room_1) (fun a U => a = #[(.int pp), (.int pq), (.int fl)] ∧ Z.Warmed39 U.vm ∧ U.heap = h0) (fun _ _ _ _ _ => True) (fun _ U o U' => ∃ v L, o = .returned v ∧ Q0 Z pp pq fl h0 n0 v U'.heap L ∧ FrameEnd U o U' L 24 128) := by
  refine MetFree.of_bodySF (plainFor_of_name pn_0) hisR ?_
  intro p e s m args below meth c s₁ Bd hml0 hP hK
  obtain ⟨rfl, hZ, hh⟩ := hP
  have hx := Bd.exec
  have hby := Bd.bytes
  have hml : c.maxLocals = 14 := hml0
  have hown : s.vm.findClass "com/example/ferrylog/ferrylog/store/RecentCountPinLaw" = some m.cls := findClass_of_methodNamed Bd.named
  have hnm := (name_of_methodNamed Bd.named Bd.method).1
  have X0 : Stand p l e room_1 s m #[(.int pp), (.int pq), (.int fl)] below meth c s₁ [] 0 0 := Stand.of_body Bd
  have e0 : s₁.heap = h0 := by rw [← hh, Bd.state]; rfl
  have N0 := Fr.nil n0
  show Go p e below s (Q0 Z pp pq fl h0 n0) 24 128 (s₁.setTop (entryFrame m #[(.int pp), (.int pq), (.int fl)] maxLocals))
  rw [ef_0]
  show Go _ _ _ _ _ _ _ (s₁.setTop (mkF m 0 #[.val (.int pp), .val (.int pq), .val (.int fl), .unset, .unset, .unset, .unset, .unset, .unset, .unset, .unset, .unset, .unset, .unset] []))
  refine Go.step (fun t k => XS.iconst X0.here hx rfl (hb hby at_0) k) ?_
  show Go _ _ _ _ _ _ _ (s₁.setTop (mkF m 1 #[.val (.int pp), .val (.int pq), .val (.int fl), .unset, .unset, .unset, .unset, .unset, .unset, .unset, .unset, .unset, .unset, .unset] [(.int (1 : Int32))]))
  refine Go.step (fun t k => XS.iloadN X0.here hx rfl (hb hby at_1) rfl k) ?_
  show Go _ _ _ _ _ _ _ (s₁.setTop (mkF m 2 #[.val (.int pp), .val (.int pq), .val (.int fl), .unset, .unset, .unset, .unset, .unset, .unset, .unset, .unset, .unset, .unset, .unset] [(.int pp), (.int (1 : Int32))]))
  refine Go.step (fun t k => X0.ldcInt hx hown (mvT hZ (hw _ (List.mem_of_getElem? (i := 0) rfl))) (g := (mkF m 2 #[.val (.int pp), .val (.int pq), .val (.int fl), .unset, .unset, .unset, .unset, .unset, .unset, .unset, .unset, .unset, .unset, .unset] [(.int pp), (.int (1 : Int32))])) rfl (hb hby at_2) _ k) ?_
  show Go _ _ _ _ _ _ _ (s₁.setTop (mkF m 4 #[.val (.int pp), .val (.int pq), .val (.int fl), .unset, .unset, .unset, .unset, .unset, .unset, .unset, .unset, .unset, .unset, .unset] [(.int (2147483647 : Int32)), (.int pp), (.int (1 : Int32))]))
  refine Go.step (fun t k => XS.iand X0.here hx rfl (hb hby at_4) rfl k) ?_
  show Go _ _ _ _ _ _ _ (s₁.setTop (mkF m 5 #[.val (.int pp), .val (.int pq), .val (.int fl), .unset, .unset, .unset, .unset, .unset, .unset, .unset, .unset, .unset, .unset, .unset] [(.int (pp &&& (2147483647 : Int32))), (.int (1 : Int32))]))
  refine Go.step (fun t k => XS.bipush X0.here hx rfl (hb hby at_5) k) ?_
  show Go _ _ _ _ _ _ _ (s₁.setTop (mkF m 7 #[.val (.int pp), .val (.int pq), .val (.int fl), .unset, .unset, .unset, .unset, .unset, .unset, .unset, .unset, .unset, .unset, .unset] [(.int (6 : Int32)), (.int (pp &&& (2147483647 : Int32))), (.int (1 : Int32))]))
  refine Go.step (fun t k => iremM X0 hx rfl (hb hby at_7) rfl (by decide) k) ?_
  show Go _ _ _ _ _ _ _ (s₁.setTop (mkF m 8 #[.val (.int pp), .val (.int pq), .val (.int fl), .unset, .unset, .unset, .unset, .unset, .unset, .unset, .unset, .unset, .unset, .unset] [(.int ((pp &&& (2147483647 : Int32)) % (6 : Int32))), (.int (1 : Int32))]))
  refine Go.step (fun t k => XS.iadd X0.here hx rfl (hb hby at_8) rfl k) ?_
  show Go _ _ _ _ _ _ _ (s₁.setTop (mkF m 9 #[.val (.int pp), .val (.int pq), .val (.int fl), .unset, .unset, .unset, .unset, .unset, .unset, .unset, .unset, .unset, .unset, .unset] [(.int ((1 : Int32) + ((pp &&& (2147483647 : Int32)) % (6 : Int32))))]))
  refine Go.step (fun t k => XS.istoreN X0.here hx rfl (hb hby at_9) rfl (l' := #[.val (.int pp), .val (.int pq), .val (.int fl), .val (.int ((1 : Int32) + ((pp &&& (2147483647 : Int32)) % (6 : Int32)))), .unset, .unset, .unset, .unset, .unset, .unset, .unset, .unset, .unset, .unset]) rfl k) ?_
  show Go _ _ _ _ _ _ _ (s₁.setTop (mkF m 10 #[.val (.int pp), .val (.int pq), .val (.int fl), .val (.int ((1 : Int32) + ((pp &&& (2147483647 : Int32)) % (6 : Int32)))), .unset, .unset, .unset, .unset, .unset, .unset, .unset, .unset, .unset, .unset] []))
  generalize hva : ((1 : Int32) + ((pp &&& (2147483647 : Int32)) % (6 : Int32))) = va
  show Go _ _ _ _ _ _ _ (s₁.setTop (mkF m 10 #[.val (.int pp), .val (.int pq), .val (.int fl), .val (.int va), .unset, .unset, .unset, .unset, .unset, .unset, .unset, .unset, .unset, .unset] []))
  refine Go.step (fun t k => XS.iconst X0.here hx rfl (hb hby at_10) k) ?_
  show Go _ _ _ _ _ _ _ (s₁.setTop (mkF m 11 #[.val (.int pp), .val (.int pq), .val (.int fl), .val (.int va), .unset, .unset, .unset, .unset, .unset, .unset, .unset, .unset, .unset, .unset] [(.int (1 : Int32))]))
  refine Go.step (fun t k => XS.iloadN X0.here hx rfl (hb hby at_11) rfl k) ?_
  show Go _ _ _ _ _ _ _ (s₁.setTop (mkF m 12 #[.val (.int pp), .val (.int pq), .val (.int fl), .val (.int va), .unset, .unset, .unset, .unset, .unset, .unset, .unset, .unset, .unset, .unset] [(.int pq), (.int (1 : Int32))]))
  refine Go.step (fun t k => X0.ldcInt hx hown (mvT hZ (hw _ (List.mem_of_getElem? (i := 0) rfl))) (g := (mkF m 12 #[.val (.int pp), .val (.int pq), .val (.int fl), .val (.int va), .unset, .unset, .unset, .unset, .unset, .unset, .unset, .unset, .unset, .unset] [(.int pq), (.int (1 : Int32))])) rfl (hb hby at_12) _ k) ?_
  show Go _ _ _ _ _ _ _ (s₁.setTop (mkF m 14 #[.val (.int pp), .val (.int pq), .val (.int fl), .val (.int va), .unset, .unset, .unset, .unset, .unset, .unset, .unset, .unset, .unset, .unset] [(.int (2147483647 : Int32)), (.int pq), (.int (1 : Int32))]))
  refine Go.step (fun t k => XS.iand X0.here hx rfl (hb hby at_14) rfl k) ?_
  show Go _ _ _ _ _ _ _ (s₁.setTop (mkF m 15 #[.val (.int pp), .val (.int pq), .val (.int fl), .val (.int va), .unset, .unset, .unset, .unset, .unset, .unset, .unset, .unset, .unset, .unset] [(.int (pq &&& (2147483647 : Int32))), (.int (1 : Int32))]))
  refine Go.step (fun t k => XS.bipush X0.here hx rfl (hb hby at_15) k) ?_
  show Go _ _ _ _ _ _ _ (s₁.setTop (mkF m 17 #[.val (.int pp), .val (.int pq), .val (.int fl), .val (.int va), .unset, .unset, .unset, .unset, .unset, .unset, .unset, .unset, .unset, .unset] [(.int (7 : Int32)), (.int (pq &&& (2147483647 : Int32))), (.int (1 : Int32))]))
  refine Go.step (fun t k => XS.iloadN X0.here hx rfl (hb hby at_17) rfl k) ?_
  show Go _ _ _ _ _ _ _ (s₁.setTop (mkF m 18 #[.val (.int pp), .val (.int pq), .val (.int fl), .val (.int va), .unset, .unset, .unset, .unset, .unset, .unset, .unset, .unset, .unset, .unset] [(.int va), (.int (7 : Int32)), (.int (pq &&& (2147483647 : Int32))), (.int (1 : Int32))]))
  refine Go.step (fun t k => XS.isub X0.here hx rfl (hb hby at_18) rfl k) ?_
  show Go _ _ _ _ _ _ _ (s₁.setTop (mkF m 19 #[.val (.int pp), .val (.int pq), .val (.int fl), .val (.int va), .unset, .unset, .unset, .unset, .unset, .unset, .unset, .unset, .unset, .unset] [(.int ((7 : Int32) - va)), (.int (pq &&& (2147483647 : Int32))), (.int (1 : Int32))]))
  refine Go.step (fun t k => iremM X0 hx rfl (hb hby at_19) rfl (own_nz hva) k) ?_
  show Go _ _ _ _ _ _ _ (s₁.setTop (mkF m 20 #[.val (.int pp), .val (.int pq), .val (.int fl), .val (.int va), .unset, .unset, .unset, .unset, .unset, .unset, .unset, .unset, .unset, .unset] [(.int ((pq &&& (2147483647 : Int32)) % ((7 : Int32) - va))), (.int (1 : Int32))]))
  refine Go.step (fun t k => XS.iadd X0.here hx rfl (hb hby at_20) rfl k) ?_
  show Go _ _ _ _ _ _ _ (s₁.setTop (mkF m 21 #[.val (.int pp), .val (.int pq), .val (.int fl), .val (.int va), .unset, .unset, .unset, .unset, .unset, .unset, .unset, .unset, .unset, .unset] [(.int ((1 : Int32) + ((pq &&& (2147483647 : Int32)) % ((7 : Int32) - va))))]))
  refine Go.step (fun t k => XS.istore X0.here hx rfl (hb hby at_21) rfl (l' := #[.val (.int pp), .val (.int pq), .val (.int fl), .val (.int va), .val (.int ((1 : Int32) + ((pq &&& (2147483647 : Int32)) % ((7 : Int32) - va)))), .unset, .unset, .unset, .unset, .unset, .unset, .unset, .unset, .unset]) rfl k) ?_
  show Go _ _ _ _ _ _ _ (s₁.setTop (mkF m 23 #[.val (.int pp), .val (.int pq), .val (.int fl), .val (.int va), .val (.int ((1 : Int32) + ((pq &&& (2147483647 : Int32)) % ((7 : Int32) - va)))), .unset, .unset, .unset, .unset, .unset, .unset, .unset, .unset, .unset] []))
  generalize hvb : ((1 : Int32) + ((pq &&& (2147483647 : Int32)) % ((7 : Int32) - va))) = vb
  show Go _ _ _ _ _ _ _ (s₁.setTop (mkF m 23 #[.val (.int pp), .val (.int pq), .val (.int fl), .val (.int va), .val (.int vb), .unset, .unset, .unset, .unset, .unset, .unset, .unset, .unset, .unset] []))
  refine Go.step (fun t k => XS.bipush X0.here hx rfl (hb hby at_23) k) ?_
  show Go _ _ _ _ _ _ _ (s₁.setTop (mkF m 25 #[.val (.int pp), .val (.int pq), .val (.int fl), .val (.int va), .val (.int vb), .unset, .unset, .unset, .unset, .unset, .unset, .unset, .unset, .unset] [(.int (8 : Int32))]))
  refine Go.step (fun t k => XS.iloadN X0.here hx rfl (hb hby at_25) rfl k) ?_
  show Go _ _ _ _ _ _ _ (s₁.setTop (mkF m 26 #[.val (.int pp), .val (.int pq), .val (.int fl), .val (.int va), .val (.int vb), .unset, .unset, .unset, .unset, .unset, .unset, .unset, .unset, .unset] [(.int va), (.int (8 : Int32))]))
  refine Go.step (fun t k => XS.isub X0.here hx rfl (hb hby at_26) rfl k) ?_
  show Go _ _ _ _ _ _ _ (s₁.setTop (mkF m 27 #[.val (.int pp), .val (.int pq), .val (.int fl), .val (.int va), .val (.int vb), .unset, .unset, .unset, .unset, .unset, .unset, .unset, .unset, .unset] [(.int ((8 : Int32) - va))]))
  refine Go.step (fun t k => XS.iload X0.here hx rfl (hb hby at_27) rfl k) ?_
  show Go _ _ _ _ _ _ _ (s₁.setTop (mkF m 29 #[.val (.int pp), .val (.int pq), .val (.int fl), .val (.int va), .val (.int vb), .unset, .unset, .unset, .unset, .unset, .unset, .unset, .unset, .unset] [(.int vb), (.int ((8 : Int32) - va))]))
  refine Go.step (fun t k => XS.isub X0.here hx rfl (hb hby at_29) rfl k) ?_
  show Go _ _ _ _ _ _ _ (s₁.setTop (mkF m 30 #[.val (.int pp), .val (.int pq), .val (.int fl), .val (.int va), .val (.int vb), .unset, .unset, .unset, .unset, .unset, .unset, .unset, .unset, .unset] [(.int (((8 : Int32) - va) - vb))]))
  refine Go.step (fun t k => XS.istore X0.here hx rfl (hb hby at_30) rfl (l' := #[.val (.int pp), .val (.int pq), .val (.int fl), .val (.int va), .val (.int vb), .val (.int (((8 : Int32) - va) - vb)), .unset, .unset, .unset, .unset, .unset, .unset, .unset, .unset]) rfl k) ?_
  show Go _ _ _ _ _ _ _ (s₁.setTop (mkF m 32 #[.val (.int pp), .val (.int pq), .val (.int fl), .val (.int va), .val (.int vb), .val (.int (((8 : Int32) - va) - vb)), .unset, .unset, .unset, .unset, .unset, .unset, .unset, .unset] []))
  refine Go.step (fun t k => XS.iloadN X0.here hx rfl (hb hby at_32) rfl k) ?_
  show Go _ _ _ _ _ _ _ (s₁.setTop (mkF m 33 #[.val (.int pp), .val (.int pq), .val (.int fl), .val (.int va), .val (.int vb), .val (.int (((8 : Int32) - va) - vb)), .unset, .unset, .unset, .unset, .unset, .unset, .unset, .unset] [(.int fl)]))
  refine Go.step (fun t k => XS.iconst X0.here hx rfl (hb hby at_33) k) ?_
  show Go _ _ _ _ _ _ _ (s₁.setTop (mkF m 34 #[.val (.int pp), .val (.int pq), .val (.int fl), .val (.int va), .val (.int vb), .val (.int (((8 : Int32) - va) - vb)), .unset, .unset, .unset, .unset, .unset, .unset, .unset, .unset] [(.int (1 : Int32)), (.int fl)]))
  refine Go.step (fun t k => XS.iand X0.here hx rfl (hb hby at_34) rfl k) ?_
  show Go _ _ _ _ _ _ _ (s₁.setTop (mkF m 35 #[.val (.int pp), .val (.int pq), .val (.int fl), .val (.int va), .val (.int vb), .val (.int (((8 : Int32) - va) - vb)), .unset, .unset, .unset, .unset, .unset, .unset, .unset, .unset] [(.int (fl &&& (1 : Int32)))]))
  by_cases hc35_1 : (fl &&& (1 : Int32)) = (0 : Int32)
  · refine Go.step (fun t k => XS.ifYes X0.here hx rfl (pc0 := 35) (pc' := 42) rfl (hb hby at_35) rfl ((if0 _ _).trans (teq hc35_1).1) (by decide) (by decide) k) ?_
    show Go _ _ _ _ _ _ _ (s₁.setTop (mkF m 42 #[.val (.int pp), .val (.int pq), .val (.int fl), .val (.int va), .val (.int vb), .val (.int (((8 : Int32) - va) - vb)), .unset, .unset, .unset, .unset, .unset, .unset, .unset, .unset] []))
    refine Go.step (fun t k => XS.iconst X0.here hx rfl (hb hby at_42) k) ?_
    show Go _ _ _ _ _ _ _ (s₁.setTop (mkF m 43 #[.val (.int pp), .val (.int pq), .val (.int fl), .val (.int va), .val (.int vb), .val (.int (((8 : Int32) - va) - vb)), .unset, .unset, .unset, .unset, .unset, .unset, .unset, .unset] [(.int (0 : Int32))]))
    refine Go.step (fun t k => XS.istore X0.here hx rfl (hb hby at_43) rfl (l' := #[.val (.int pp), .val (.int pq), .val (.int fl), .val (.int va), .val (.int vb), .val (.int (((8 : Int32) - va) - vb)), .val (.int (0 : Int32)), .unset, .unset, .unset, .unset, .unset, .unset, .unset]) rfl k) ?_
    show Go _ _ _ _ _ _ _ (s₁.setTop (mkF m 45 #[.val (.int pp), .val (.int pq), .val (.int fl), .val (.int va), .val (.int vb), .val (.int (((8 : Int32) - va) - vb)), .val (.int (0 : Int32)), .unset, .unset, .unset, .unset, .unset, .unset, .unset] []))
    refine Go.step (fun t k => XS.iconst X0.here hx rfl (hb hby at_45) k) ?_
    show Go _ _ _ _ _ _ _ (s₁.setTop (mkF m 46 #[.val (.int pp), .val (.int pq), .val (.int fl), .val (.int va), .val (.int vb), .val (.int (((8 : Int32) - va) - vb)), .val (.int (0 : Int32)), .unset, .unset, .unset, .unset, .unset, .unset, .unset] [(.int (3 : Int32))]))
    obtain ⟨T2, h2, k2, X2, e2, E2, A2, st2⟩ := newP X0 hx hZ (hw _ (List.mem_of_getElem? (i := 1) rfl)) e0 (g := (mkF m 46 #[.val (.int pp), .val (.int pq), .val (.int fl), .val (.int va), .val (.int vb), .val (.int (((8 : Int32) - va) - vb)), .val (.int (0 : Int32)), .unset, .unset, .unset, .unset, .unset, .unset, .unset] [(.int (3 : Int32))])) rfl (hb hby at_46) rfl (by decide) (cap := 3) (by decide) (by decide) (by decide) (by decide)
    obtain ⟨ab, gz2⟩ : ∃ z, z = h0.size := ⟨_, rfl⟩
    have g_ab : n0 ≤ ab := Nat.le_trans Z0 (Nat.le_of_eq gz2.symm)
    rw [← gz2] at A2 st2
    have Z2 := Nat.le_trans Z0 E2.1
    have A_ab : AryI Z h2 ab .int 3 (fun _ => (0 : Int32)) := Ary.new A2 rfl
    refine Go.step st2 ?_
    show Go _ _ _ _ _ _ _ (T2.setTop (mkF m 48 #[.val (.int pp), .val (.int pq), .val (.int fl), .val (.int va), .val (.int vb), .val (.int (((8 : Int32) - va) - vb)), .val (.int (0 : Int32)), .unset, .unset, .unset, .unset, .unset, .unset, .unset] [(.ref ab)]))
    refine Go.step (fun t k => XS.dup X2.here hx rfl (hb hby at_48) rfl rfl k) ?_
    show Go _ _ _ _ _ _ _ (T2.setTop (mkF m 49 #[.val (.int pp), .val (.int pq), .val (.int fl), .val (.int va), .val (.int vb), .val (.int (((8 : Int32) - va) - vb)), .val (.int (0 : Int32)), .unset, .unset, .unset, .unset, .unset, .unset, .unset] [(.ref ab), (.ref ab)]))
    refine Go.step (fun t k => XS.iconst X2.here hx rfl (hb hby at_49) k) ?_
    show Go _ _ _ _ _ _ _ (T2.setTop (mkF m 50 #[.val (.int pp), .val (.int pq), .val (.int fl), .val (.int va), .val (.int vb), .val (.int (((8 : Int32) - va) - vb)), .val (.int (0 : Int32)), .unset, .unset, .unset, .unset, .unset, .unset, .unset] [(.int (0 : Int32)), (.ref ab), (.ref ab)]))
    refine Go.step (fun t k => XS.iconst X2.here hx rfl (hb hby at_50) k) ?_
    show Go _ _ _ _ _ _ _ (T2.setTop (mkF m 51 #[.val (.int pp), .val (.int pq), .val (.int fl), .val (.int va), .val (.int vb), .val (.int (((8 : Int32) - va) - vb)), .val (.int (0 : Int32)), .unset, .unset, .unset, .unset, .unset, .unset, .unset] [(.int (0 : Int32)), (.int (0 : Int32)), (.ref ab), (.ref ab)]))
    obtain ⟨T3, h3, X3, e3, W3, st3⟩ := own_stI X2 hx hZ e2 A_ab 0 rfl (by decide) (f := (mkF m 51 #[.val (.int pp), .val (.int pq), .val (.int fl), .val (.int va), .val (.int vb), .val (.int (((8 : Int32) - va) - vb)), .val (.int (0 : Int32)), .unset, .unset, .unset, .unset, .unset, .unset, .unset] [(.int (0 : Int32)), (.int (0 : Int32)), (.ref ab), (.ref ab)])) rfl rfl (hb hby at_51)
    have Z3 := Nat.le_trans Z2 (Keep.of_wr W3).1
    have N3 := Fr.snoc X3 N0 g_ab
    replace A_ab := A_ab.setI W3
    refine Go.step st3 ?_
    show Go _ _ _ _ _ _ _ (T3.setTop (mkF m 52 #[.val (.int pp), .val (.int pq), .val (.int fl), .val (.int va), .val (.int vb), .val (.int (((8 : Int32) - va) - vb)), .val (.int (0 : Int32)), .unset, .unset, .unset, .unset, .unset, .unset, .unset] [(.ref ab)]))
    refine Go.step (fun t k => XS.dup X3.here hx rfl (hb hby at_52) rfl rfl k) ?_
    show Go _ _ _ _ _ _ _ (T3.setTop (mkF m 53 #[.val (.int pp), .val (.int pq), .val (.int fl), .val (.int va), .val (.int vb), .val (.int (((8 : Int32) - va) - vb)), .val (.int (0 : Int32)), .unset, .unset, .unset, .unset, .unset, .unset, .unset] [(.ref ab), (.ref ab)]))
    refine Go.step (fun t k => XS.iconst X3.here hx rfl (hb hby at_53) k) ?_
    show Go _ _ _ _ _ _ _ (T3.setTop (mkF m 54 #[.val (.int pp), .val (.int pq), .val (.int fl), .val (.int va), .val (.int vb), .val (.int (((8 : Int32) - va) - vb)), .val (.int (0 : Int32)), .unset, .unset, .unset, .unset, .unset, .unset, .unset] [(.int (1 : Int32)), (.ref ab), (.ref ab)]))
    refine Go.step (fun t k => XS.iload X3.here hx rfl (hb hby at_54) rfl k) ?_
    show Go _ _ _ _ _ _ _ (T3.setTop (mkF m 56 #[.val (.int pp), .val (.int pq), .val (.int fl), .val (.int va), .val (.int vb), .val (.int (((8 : Int32) - va) - vb)), .val (.int (0 : Int32)), .unset, .unset, .unset, .unset, .unset, .unset, .unset] [(.int (0 : Int32)), (.int (1 : Int32)), (.ref ab), (.ref ab)]))
    refine Go.step (fun t k => XS.ifYes X3.here hx rfl (pc0 := 56) (pc' := 66) rfl (hb hby at_56) rfl ((if0 _ _).trans (teq (by decide : (0 : Int32) = (0 : Int32))).1) (by decide) (by decide) k) ?_
    show Go _ _ _ _ _ _ _ (T3.setTop (mkF m 66 #[.val (.int pp), .val (.int pq), .val (.int fl), .val (.int va), .val (.int vb), .val (.int (((8 : Int32) - va) - vb)), .val (.int (0 : Int32)), .unset, .unset, .unset, .unset, .unset, .unset, .unset] [(.int (1 : Int32)), (.ref ab), (.ref ab)]))
    refine Go.step (fun t k => XS.iloadN X3.here hx rfl (hb hby at_66) rfl k) ?_
    show Go _ _ _ _ _ _ _ (T3.setTop (mkF m 67 #[.val (.int pp), .val (.int pq), .val (.int fl), .val (.int va), .val (.int vb), .val (.int (((8 : Int32) - va) - vb)), .val (.int (0 : Int32)), .unset, .unset, .unset, .unset, .unset, .unset, .unset] [(.int va), (.int (1 : Int32)), (.ref ab), (.ref ab)]))
    obtain ⟨T4, h4, X4, e4, W4, st4⟩ := own_stI X3 hx hZ e3 A_ab 1 rfl (by decide) (f := (mkF m 67 #[.val (.int pp), .val (.int pq), .val (.int fl), .val (.int va), .val (.int vb), .val (.int (((8 : Int32) - va) - vb)), .val (.int (0 : Int32)), .unset, .unset, .unset, .unset, .unset, .unset, .unset] [(.int va), (.int (1 : Int32)), (.ref ab), (.ref ab)])) rfl rfl (hb hby at_67)
    have Z4 := Nat.le_trans Z3 (Keep.of_wr W4).1
    have N4 := Fr.snoc X4 N3 g_ab
    replace A_ab := A_ab.setI W4
    refine Go.step st4 ?_
    show Go _ _ _ _ _ _ _ (T4.setTop (mkF m 68 #[.val (.int pp), .val (.int pq), .val (.int fl), .val (.int va), .val (.int vb), .val (.int (((8 : Int32) - va) - vb)), .val (.int (0 : Int32)), .unset, .unset, .unset, .unset, .unset, .unset, .unset] [(.ref ab)]))
    refine Go.step (fun t k => XS.dup X4.here hx rfl (hb hby at_68) rfl rfl k) ?_
    show Go _ _ _ _ _ _ _ (T4.setTop (mkF m 69 #[.val (.int pp), .val (.int pq), .val (.int fl), .val (.int va), .val (.int vb), .val (.int (((8 : Int32) - va) - vb)), .val (.int (0 : Int32)), .unset, .unset, .unset, .unset, .unset, .unset, .unset] [(.ref ab), (.ref ab)]))
    refine Go.step (fun t k => XS.iconst X4.here hx rfl (hb hby at_69) k) ?_
    show Go _ _ _ _ _ _ _ (T4.setTop (mkF m 70 #[.val (.int pp), .val (.int pq), .val (.int fl), .val (.int va), .val (.int vb), .val (.int (((8 : Int32) - va) - vb)), .val (.int (0 : Int32)), .unset, .unset, .unset, .unset, .unset, .unset, .unset] [(.int (2 : Int32)), (.ref ab), (.ref ab)]))
    refine Go.step (fun t k => XS.bipush X4.here hx rfl (hb hby at_70) k) ?_
    show Go _ _ _ _ _ _ _ (T4.setTop (mkF m 72 #[.val (.int pp), .val (.int pq), .val (.int fl), .val (.int va), .val (.int vb), .val (.int (((8 : Int32) - va) - vb)), .val (.int (0 : Int32)), .unset, .unset, .unset, .unset, .unset, .unset, .unset] [(.int (8 : Int32)), (.int (2 : Int32)), (.ref ab), (.ref ab)]))
    obtain ⟨T5, h5, X5, e5, W5, st5⟩ := own_stI X4 hx hZ e4 A_ab 2 rfl (by decide) (f := (mkF m 72 #[.val (.int pp), .val (.int pq), .val (.int fl), .val (.int va), .val (.int vb), .val (.int (((8 : Int32) - va) - vb)), .val (.int (0 : Int32)), .unset, .unset, .unset, .unset, .unset, .unset, .unset] [(.int (8 : Int32)), (.int (2 : Int32)), (.ref ab), (.ref ab)])) rfl rfl (hb hby at_72)
    have Z5 := Nat.le_trans Z4 (Keep.of_wr W5).1
    have N5 := Fr.snoc X5 N4 g_ab
    replace A_ab := A_ab.setI W5
    refine Go.step st5 ?_
    show Go _ _ _ _ _ _ _ (T5.setTop (mkF m 73 #[.val (.int pp), .val (.int pq), .val (.int fl), .val (.int va), .val (.int vb), .val (.int (((8 : Int32) - va) - vb)), .val (.int (0 : Int32)), .unset, .unset, .unset, .unset, .unset, .unset, .unset] [(.ref ab)]))
    refine Go.step (fun t k => XS.astore X5.here hx rfl (hb hby at_73) rfl rfl (l' := #[.val (.int pp), .val (.int pq), .val (.int fl), .val (.int va), .val (.int vb), .val (.int (((8 : Int32) - va) - vb)), .val (.int (0 : Int32)), .val (.ref ab), .unset, .unset, .unset, .unset, .unset, .unset]) rfl k) ?_
    show Go _ _ _ _ _ _ _ (T5.setTop (mkF m 75 #[.val (.int pp), .val (.int pq), .val (.int fl), .val (.int va), .val (.int vb), .val (.int (((8 : Int32) - va) - vb)), .val (.int (0 : Int32)), .val (.ref ab), .unset, .unset, .unset, .unset, .unset, .unset] []))
    refine Go.step (fun t k => XS.iconst X5.here hx rfl (hb hby at_75) k) ?_
    show Go _ _ _ _ _ _ _ (T5.setTop (mkF m 76 #[.val (.int pp), .val (.int pq), .val (.int fl), .val (.int va), .val (.int vb), .val (.int (((8 : Int32) - va) - vb)), .val (.int (0 : Int32)), .val (.ref ab), .unset, .unset, .unset, .unset, .unset, .unset] [(.int (3 : Int32))]))
    obtain ⟨T6, h6, k6, X6, e6, E6, A6, st6⟩ := newP X5 hx hZ (hw _ (List.mem_of_getElem? (i := 1) rfl)) e5 (g := (mkF m 76 #[.val (.int pp), .val (.int pq), .val (.int fl), .val (.int va), .val (.int vb), .val (.int (((8 : Int32) - va) - vb)), .val (.int (0 : Int32)), .val (.ref ab), .unset, .unset, .unset, .unset, .unset, .unset] [(.int (3 : Int32))])) rfl (hb hby at_76) rfl (by decide) (cap := 3) (by decide) (by decide) (by decide) (by decide)
    obtain ⟨ac, gz6⟩ : ∃ z, z = h5.size := ⟨_, rfl⟩
    have ne_ab_ac : ab ≠ ac := Nat.ne_of_lt (Nat.lt_of_lt_of_le A_ab.lt (Nat.le_of_eq gz6.symm))
    have g_ac : n0 ≤ ac := Nat.le_trans Z5 (Nat.le_of_eq gz6.symm)
    rw [← gz6] at A6 st6
    replace A_ab := A_ab.ext E6
    have Z6 := Nat.le_trans Z5 E6.1
    have A_ac : AryI Z h6 ac .int 3 (fun _ => (0 : Int32)) := Ary.new A6 rfl
    refine Go.step st6 ?_
    show Go _ _ _ _ _ _ _ (T6.setTop (mkF m 78 #[.val (.int pp), .val (.int pq), .val (.int fl), .val (.int va), .val (.int vb), .val (.int (((8 : Int32) - va) - vb)), .val (.int (0 : Int32)), .val (.ref ab), .unset, .unset, .unset, .unset, .unset, .unset] [(.ref ac)]))
    refine Go.step (fun t k => XS.dup X6.here hx rfl (hb hby at_78) rfl rfl k) ?_
    show Go _ _ _ _ _ _ _ (T6.setTop (mkF m 79 #[.val (.int pp), .val (.int pq), .val (.int fl), .val (.int va), .val (.int vb), .val (.int (((8 : Int32) - va) - vb)), .val (.int (0 : Int32)), .val (.ref ab), .unset, .unset, .unset, .unset, .unset, .unset] [(.ref ac), (.ref ac)]))
    refine Go.step (fun t k => XS.iconst X6.here hx rfl (hb hby at_79) k) ?_
    show Go _ _ _ _ _ _ _ (T6.setTop (mkF m 80 #[.val (.int pp), .val (.int pq), .val (.int fl), .val (.int va), .val (.int vb), .val (.int (((8 : Int32) - va) - vb)), .val (.int (0 : Int32)), .val (.ref ab), .unset, .unset, .unset, .unset, .unset, .unset] [(.int (0 : Int32)), (.ref ac), (.ref ac)]))
    refine Go.step (fun t k => XS.iconst X6.here hx rfl (hb hby at_80) k) ?_
    show Go _ _ _ _ _ _ _ (T6.setTop (mkF m 81 #[.val (.int pp), .val (.int pq), .val (.int fl), .val (.int va), .val (.int vb), .val (.int (((8 : Int32) - va) - vb)), .val (.int (0 : Int32)), .val (.ref ab), .unset, .unset, .unset, .unset, .unset, .unset] [(.int (0 : Int32)), (.int (0 : Int32)), (.ref ac), (.ref ac)]))
    obtain ⟨T7, h7, X7, e7, W7, st7⟩ := own_stI X6 hx hZ e6 A_ac 0 rfl (by decide) (f := (mkF m 81 #[.val (.int pp), .val (.int pq), .val (.int fl), .val (.int va), .val (.int vb), .val (.int (((8 : Int32) - va) - vb)), .val (.int (0 : Int32)), .val (.ref ab), .unset, .unset, .unset, .unset, .unset, .unset] [(.int (0 : Int32)), (.int (0 : Int32)), (.ref ac), (.ref ac)])) rfl rfl (hb hby at_81)
    replace A_ab := A_ab.other W7 ne_ab_ac
    have Z7 := Nat.le_trans Z6 (Keep.of_wr W7).1
    have N7 := Fr.snoc X7 N5 g_ac
    replace A_ac := A_ac.setI W7
    refine Go.step st7 ?_
    show Go _ _ _ _ _ _ _ (T7.setTop (mkF m 82 #[.val (.int pp), .val (.int pq), .val (.int fl), .val (.int va), .val (.int vb), .val (.int (((8 : Int32) - va) - vb)), .val (.int (0 : Int32)), .val (.ref ab), .unset, .unset, .unset, .unset, .unset, .unset] [(.ref ac)]))
    refine Go.step (fun t k => XS.dup X7.here hx rfl (hb hby at_82) rfl rfl k) ?_
    show Go _ _ _ _ _ _ _ (T7.setTop (mkF m 83 #[.val (.int pp), .val (.int pq), .val (.int fl), .val (.int va), .val (.int vb), .val (.int (((8 : Int32) - va) - vb)), .val (.int (0 : Int32)), .val (.ref ab), .unset, .unset, .unset, .unset, .unset, .unset] [(.ref ac), (.ref ac)]))
    refine Go.step (fun t k => XS.iconst X7.here hx rfl (hb hby at_83) k) ?_
    show Go _ _ _ _ _ _ _ (T7.setTop (mkF m 84 #[.val (.int pp), .val (.int pq), .val (.int fl), .val (.int va), .val (.int vb), .val (.int (((8 : Int32) - va) - vb)), .val (.int (0 : Int32)), .val (.ref ab), .unset, .unset, .unset, .unset, .unset, .unset] [(.int (1 : Int32)), (.ref ac), (.ref ac)]))
    refine Go.step (fun t k => XS.iload X7.here hx rfl (hb hby at_84) rfl k) ?_
    show Go _ _ _ _ _ _ _ (T7.setTop (mkF m 86 #[.val (.int pp), .val (.int pq), .val (.int fl), .val (.int va), .val (.int vb), .val (.int (((8 : Int32) - va) - vb)), .val (.int (0 : Int32)), .val (.ref ab), .unset, .unset, .unset, .unset, .unset, .unset] [(.int (0 : Int32)), (.int (1 : Int32)), (.ref ac), (.ref ac)]))
    refine Go.step (fun t k => XS.ifYes X7.here hx rfl (pc0 := 86) (pc' := 93) rfl (hb hby at_86) rfl ((if0 _ _).trans (teq (by decide : (0 : Int32) = (0 : Int32))).1) (by decide) (by decide) k) ?_
    show Go _ _ _ _ _ _ _ (T7.setTop (mkF m 93 #[.val (.int pp), .val (.int pq), .val (.int fl), .val (.int va), .val (.int vb), .val (.int (((8 : Int32) - va) - vb)), .val (.int (0 : Int32)), .val (.ref ab), .unset, .unset, .unset, .unset, .unset, .unset] [(.int (1 : Int32)), (.ref ac), (.ref ac)]))
    refine Go.step (fun t k => XS.iconst X7.here hx rfl (hb hby at_93) k) ?_
    show Go _ _ _ _ _ _ _ (T7.setTop (mkF m 94 #[.val (.int pp), .val (.int pq), .val (.int fl), .val (.int va), .val (.int vb), .val (.int (((8 : Int32) - va) - vb)), .val (.int (0 : Int32)), .val (.ref ab), .unset, .unset, .unset, .unset, .unset, .unset] [(.int (1 : Int32)), (.int (1 : Int32)), (.ref ac), (.ref ac)]))
    obtain ⟨T8, h8, X8, e8, W8, st8⟩ := own_stI X7 hx hZ e7 A_ac 1 rfl (by decide) (f := (mkF m 94 #[.val (.int pp), .val (.int pq), .val (.int fl), .val (.int va), .val (.int vb), .val (.int (((8 : Int32) - va) - vb)), .val (.int (0 : Int32)), .val (.ref ab), .unset, .unset, .unset, .unset, .unset, .unset] [(.int (1 : Int32)), (.int (1 : Int32)), (.ref ac), (.ref ac)])) rfl rfl (hb hby at_94)
    replace A_ab := A_ab.other W8 ne_ab_ac
    have Z8 := Nat.le_trans Z7 (Keep.of_wr W8).1
    have N8 := Fr.snoc X8 N7 g_ac
    replace A_ac := A_ac.setI W8
    refine Go.step st8 ?_
    show Go _ _ _ _ _ _ _ (T8.setTop (mkF m 95 #[.val (.int pp), .val (.int pq), .val (.int fl), .val (.int va), .val (.int vb), .val (.int (((8 : Int32) - va) - vb)), .val (.int (0 : Int32)), .val (.ref ab), .unset, .unset, .unset, .unset, .unset, .unset] [(.ref ac)]))
    refine Go.step (fun t k => XS.dup X8.here hx rfl (hb hby at_95) rfl rfl k) ?_
    show Go _ _ _ _ _ _ _ (T8.setTop (mkF m 96 #[.val (.int pp), .val (.int pq), .val (.int fl), .val (.int va), .val (.int vb), .val (.int (((8 : Int32) - va) - vb)), .val (.int (0 : Int32)), .val (.ref ab), .unset, .unset, .unset, .unset, .unset, .unset] [(.ref ac), (.ref ac)]))
    refine Go.step (fun t k => XS.iconst X8.here hx rfl (hb hby at_96) k) ?_
    show Go _ _ _ _ _ _ _ (T8.setTop (mkF m 97 #[.val (.int pp), .val (.int pq), .val (.int fl), .val (.int va), .val (.int vb), .val (.int (((8 : Int32) - va) - vb)), .val (.int (0 : Int32)), .val (.ref ab), .unset, .unset, .unset, .unset, .unset, .unset] [(.int (2 : Int32)), (.ref ac), (.ref ac)]))
    refine Go.step (fun t k => XS.iconst X8.here hx rfl (hb hby at_97) k) ?_
    show Go _ _ _ _ _ _ _ (T8.setTop (mkF m 98 #[.val (.int pp), .val (.int pq), .val (.int fl), .val (.int va), .val (.int vb), .val (.int (((8 : Int32) - va) - vb)), .val (.int (0 : Int32)), .val (.ref ab), .unset, .unset, .unset, .unset, .unset, .unset] [(.int (3 : Int32)), (.int (2 : Int32)), (.ref ac), (.ref ac)]))
    obtain ⟨T9, h9, X9, e9, W9, st9⟩ := own_stI X8 hx hZ e8 A_ac 2 rfl (by decide) (f := (mkF m 98 #[.val (.int pp), .val (.int pq), .val (.int fl), .val (.int va), .val (.int vb), .val (.int (((8 : Int32) - va) - vb)), .val (.int (0 : Int32)), .val (.ref ab), .unset, .unset, .unset, .unset, .unset, .unset] [(.int (3 : Int32)), (.int (2 : Int32)), (.ref ac), (.ref ac)])) rfl rfl (hb hby at_98)
    replace A_ab := A_ab.other W9 ne_ab_ac
    have Z9 := Nat.le_trans Z8 (Keep.of_wr W9).1
    have N9 := Fr.snoc X9 N8 g_ac
    replace A_ac := A_ac.setI W9
    refine Go.step st9 ?_
    show Go _ _ _ _ _ _ _ (T9.setTop (mkF m 99 #[.val (.int pp), .val (.int pq), .val (.int fl), .val (.int va), .val (.int vb), .val (.int (((8 : Int32) - va) - vb)), .val (.int (0 : Int32)), .val (.ref ab), .unset, .unset, .unset, .unset, .unset, .unset] [(.ref ac)]))
    refine Go.step (fun t k => XS.astore X9.here hx rfl (hb hby at_99) rfl rfl (l' := #[.val (.int pp), .val (.int pq), .val (.int fl), .val (.int va), .val (.int vb), .val (.int (((8 : Int32) - va) - vb)), .val (.int (0 : Int32)), .val (.ref ab), .val (.ref ac), .unset, .unset, .unset, .unset, .unset]) rfl k) ?_
    show Go _ _ _ _ _ _ _ (T9.setTop (mkF m 101 #[.val (.int pp), .val (.int pq), .val (.int fl), .val (.int va), .val (.int vb), .val (.int (((8 : Int32) - va) - vb)), .val (.int (0 : Int32)), .val (.ref ab), .val (.ref ac), .unset, .unset, .unset, .unset, .unset] []))
    refine Go.step (fun t k => XS.iconst X9.here hx rfl (hb hby at_101) k) ?_
    show Go _ _ _ _ _ _ _ (T9.setTop (mkF m 102 #[.val (.int pp), .val (.int pq), .val (.int fl), .val (.int va), .val (.int vb), .val (.int (((8 : Int32) - va) - vb)), .val (.int (0 : Int32)), .val (.ref ab), .val (.ref ac), .unset, .unset, .unset, .unset, .unset] [(.int (3 : Int32))]))
    obtain ⟨T10, h10, k10, X10, e10, E10, A10, st10⟩ := newP X9 hx hZ (hw _ (List.mem_of_getElem? (i := 1) rfl)) e9 (g := (mkF m 102 #[.val (.int pp), .val (.int pq), .val (.int fl), .val (.int va), .val (.int vb), .val (.int (((8 : Int32) - va) - vb)), .val (.int (0 : Int32)), .val (.ref ab), .val (.ref ac), .unset, .unset, .unset, .unset, .unset] [(.int (3 : Int32))])) rfl (hb hby at_102) rfl (by decide) (cap := 3) (by decide) (by decide) (by decide) (by decide)
    obtain ⟨ad, gz10⟩ : ∃ z, z = h9.size := ⟨_, rfl⟩
    have ne_ab_ad : ab ≠ ad := Nat.ne_of_lt (Nat.lt_of_lt_of_le A_ab.lt (Nat.le_of_eq gz10.symm))
    have ne_ac_ad : ac ≠ ad := Nat.ne_of_lt (Nat.lt_of_lt_of_le A_ac.lt (Nat.le_of_eq gz10.symm))
    have g_ad : n0 ≤ ad := Nat.le_trans Z9 (Nat.le_of_eq gz10.symm)
    rw [← gz10] at A10 st10
    replace A_ab := A_ab.ext E10
    replace A_ac := A_ac.ext E10
    have Z10 := Nat.le_trans Z9 E10.1
    have A_ad : AryI Z h10 ad .int 3 (fun _ => (0 : Int32)) := Ary.new A10 rfl
    refine Go.step st10 ?_
    show Go _ _ _ _ _ _ _ (T10.setTop (mkF m 104 #[.val (.int pp), .val (.int pq), .val (.int fl), .val (.int va), .val (.int vb), .val (.int (((8 : Int32) - va) - vb)), .val (.int (0 : Int32)), .val (.ref ab), .val (.ref ac), .unset, .unset, .unset, .unset, .unset] [(.ref ad)]))
    refine Go.step (fun t k => XS.dup X10.here hx rfl (hb hby at_104) rfl rfl k) ?_
    show Go _ _ _ _ _ _ _ (T10.setTop (mkF m 105 #[.val (.int pp), .val (.int pq), .val (.int fl), .val (.int va), .val (.int vb), .val (.int (((8 : Int32) - va) - vb)), .val (.int (0 : Int32)), .val (.ref ab), .val (.ref ac), .unset, .unset, .unset, .unset, .unset] [(.ref ad), (.ref ad)]))
    refine Go.step (fun t k => XS.iconst X10.here hx rfl (hb hby at_105) k) ?_
    show Go _ _ _ _ _ _ _ (T10.setTop (mkF m 106 #[.val (.int pp), .val (.int pq), .val (.int fl), .val (.int va), .val (.int vb), .val (.int (((8 : Int32) - va) - vb)), .val (.int (0 : Int32)), .val (.ref ab), .val (.ref ac), .unset, .unset, .unset, .unset, .unset] [(.int (0 : Int32)), (.ref ad), (.ref ad)]))
    refine Go.step (fun t k => XS.iconst X10.here hx rfl (hb hby at_106) k) ?_
    show Go _ _ _ _ _ _ _ (T10.setTop (mkF m 107 #[.val (.int pp), .val (.int pq), .val (.int fl), .val (.int va), .val (.int vb), .val (.int (((8 : Int32) - va) - vb)), .val (.int (0 : Int32)), .val (.ref ab), .val (.ref ac), .unset, .unset, .unset, .unset, .unset] [(.int (0 : Int32)), (.int (0 : Int32)), (.ref ad), (.ref ad)]))
    obtain ⟨T11, h11, X11, e11, W11, st11⟩ := own_stI X10 hx hZ e10 A_ad 0 rfl (by decide) (f := (mkF m 107 #[.val (.int pp), .val (.int pq), .val (.int fl), .val (.int va), .val (.int vb), .val (.int (((8 : Int32) - va) - vb)), .val (.int (0 : Int32)), .val (.ref ab), .val (.ref ac), .unset, .unset, .unset, .unset, .unset] [(.int (0 : Int32)), (.int (0 : Int32)), (.ref ad), (.ref ad)])) rfl rfl (hb hby at_107)
    replace A_ab := A_ab.other W11 ne_ab_ad
    replace A_ac := A_ac.other W11 ne_ac_ad
    have Z11 := Nat.le_trans Z10 (Keep.of_wr W11).1
    have N11 := Fr.snoc X11 N9 g_ad
    replace A_ad := A_ad.setI W11
    refine Go.step st11 ?_
    show Go _ _ _ _ _ _ _ (T11.setTop (mkF m 108 #[.val (.int pp), .val (.int pq), .val (.int fl), .val (.int va), .val (.int vb), .val (.int (((8 : Int32) - va) - vb)), .val (.int (0 : Int32)), .val (.ref ab), .val (.ref ac), .unset, .unset, .unset, .unset, .unset] [(.ref ad)]))
    refine Go.step (fun t k => XS.dup X11.here hx rfl (hb hby at_108) rfl rfl k) ?_
    show Go _ _ _ _ _ _ _ (T11.setTop (mkF m 109 #[.val (.int pp), .val (.int pq), .val (.int fl), .val (.int va), .val (.int vb), .val (.int (((8 : Int32) - va) - vb)), .val (.int (0 : Int32)), .val (.ref ab), .val (.ref ac), .unset, .unset, .unset, .unset, .unset] [(.ref ad), (.ref ad)]))
    refine Go.step (fun t k => XS.iconst X11.here hx rfl (hb hby at_109) k) ?_
    show Go _ _ _ _ _ _ _ (T11.setTop (mkF m 110 #[.val (.int pp), .val (.int pq), .val (.int fl), .val (.int va), .val (.int vb), .val (.int (((8 : Int32) - va) - vb)), .val (.int (0 : Int32)), .val (.ref ab), .val (.ref ac), .unset, .unset, .unset, .unset, .unset] [(.int (1 : Int32)), (.ref ad), (.ref ad)]))
    refine Go.step (fun t k => XS.iloadN X11.here hx rfl (hb hby at_110) rfl k) ?_
    show Go _ _ _ _ _ _ _ (T11.setTop (mkF m 111 #[.val (.int pp), .val (.int pq), .val (.int fl), .val (.int va), .val (.int vb), .val (.int (((8 : Int32) - va) - vb)), .val (.int (0 : Int32)), .val (.ref ab), .val (.ref ac), .unset, .unset, .unset, .unset, .unset] [(.int va), (.int (1 : Int32)), (.ref ad), (.ref ad)]))
    obtain ⟨T12, h12, X12, e12, W12, st12⟩ := own_stI X11 hx hZ e11 A_ad 1 rfl (by decide) (f := (mkF m 111 #[.val (.int pp), .val (.int pq), .val (.int fl), .val (.int va), .val (.int vb), .val (.int (((8 : Int32) - va) - vb)), .val (.int (0 : Int32)), .val (.ref ab), .val (.ref ac), .unset, .unset, .unset, .unset, .unset] [(.int va), (.int (1 : Int32)), (.ref ad), (.ref ad)])) rfl rfl (hb hby at_111)
    replace A_ab := A_ab.other W12 ne_ab_ad
    replace A_ac := A_ac.other W12 ne_ac_ad
    have Z12 := Nat.le_trans Z11 (Keep.of_wr W12).1
    have N12 := Fr.snoc X12 N11 g_ad
    replace A_ad := A_ad.setI W12
    refine Go.step st12 ?_
    show Go _ _ _ _ _ _ _ (T12.setTop (mkF m 112 #[.val (.int pp), .val (.int pq), .val (.int fl), .val (.int va), .val (.int vb), .val (.int (((8 : Int32) - va) - vb)), .val (.int (0 : Int32)), .val (.ref ab), .val (.ref ac), .unset, .unset, .unset, .unset, .unset] [(.ref ad)]))
    refine Go.step (fun t k => XS.dup X12.here hx rfl (hb hby at_112) rfl rfl k) ?_
    show Go _ _ _ _ _ _ _ (T12.setTop (mkF m 113 #[.val (.int pp), .val (.int pq), .val (.int fl), .val (.int va), .val (.int vb), .val (.int (((8 : Int32) - va) - vb)), .val (.int (0 : Int32)), .val (.ref ab), .val (.ref ac), .unset, .unset, .unset, .unset, .unset] [(.ref ad), (.ref ad)]))
    refine Go.step (fun t k => XS.iconst X12.here hx rfl (hb hby at_113) k) ?_
    show Go _ _ _ _ _ _ _ (T12.setTop (mkF m 114 #[.val (.int pp), .val (.int pq), .val (.int fl), .val (.int va), .val (.int vb), .val (.int (((8 : Int32) - va) - vb)), .val (.int (0 : Int32)), .val (.ref ab), .val (.ref ac), .unset, .unset, .unset, .unset, .unset] [(.int (2 : Int32)), (.ref ad), (.ref ad)]))
    refine Go.step (fun t k => XS.iloadN X12.here hx rfl (hb hby at_114) rfl k) ?_
    show Go _ _ _ _ _ _ _ (T12.setTop (mkF m 115 #[.val (.int pp), .val (.int pq), .val (.int fl), .val (.int va), .val (.int vb), .val (.int (((8 : Int32) - va) - vb)), .val (.int (0 : Int32)), .val (.ref ab), .val (.ref ac), .unset, .unset, .unset, .unset, .unset] [(.int va), (.int (2 : Int32)), (.ref ad), (.ref ad)]))
    refine Go.step (fun t k => XS.iload X12.here hx rfl (hb hby at_115) rfl k) ?_
    show Go _ _ _ _ _ _ _ (T12.setTop (mkF m 117 #[.val (.int pp), .val (.int pq), .val (.int fl), .val (.int va), .val (.int vb), .val (.int (((8 : Int32) - va) - vb)), .val (.int (0 : Int32)), .val (.ref ab), .val (.ref ac), .unset, .unset, .unset, .unset, .unset] [(.int vb), (.int va), (.int (2 : Int32)), (.ref ad), (.ref ad)]))
    refine Go.step (fun t k => XS.iadd X12.here hx rfl (hb hby at_117) rfl k) ?_
    show Go _ _ _ _ _ _ _ (T12.setTop (mkF m 118 #[.val (.int pp), .val (.int pq), .val (.int fl), .val (.int va), .val (.int vb), .val (.int (((8 : Int32) - va) - vb)), .val (.int (0 : Int32)), .val (.ref ab), .val (.ref ac), .unset, .unset, .unset, .unset, .unset] [(.int (va + vb)), (.int (2 : Int32)), (.ref ad), (.ref ad)]))
    obtain ⟨T13, h13, X13, e13, W13, st13⟩ := own_stI X12 hx hZ e12 A_ad 2 rfl (by decide) (f := (mkF m 118 #[.val (.int pp), .val (.int pq), .val (.int fl), .val (.int va), .val (.int vb), .val (.int (((8 : Int32) - va) - vb)), .val (.int (0 : Int32)), .val (.ref ab), .val (.ref ac), .unset, .unset, .unset, .unset, .unset] [(.int (va + vb)), (.int (2 : Int32)), (.ref ad), (.ref ad)])) rfl rfl (hb hby at_118)
    replace A_ab := A_ab.other W13 ne_ab_ad
    replace A_ac := A_ac.other W13 ne_ac_ad
    have Z13 := Nat.le_trans Z12 (Keep.of_wr W13).1
    have N13 := Fr.snoc X13 N12 g_ad
    replace A_ad := A_ad.setI W13
    refine Go.step st13 ?_
    show Go _ _ _ _ _ _ _ (T13.setTop (mkF m 119 #[.val (.int pp), .val (.int pq), .val (.int fl), .val (.int va), .val (.int vb), .val (.int (((8 : Int32) - va) - vb)), .val (.int (0 : Int32)), .val (.ref ab), .val (.ref ac), .unset, .unset, .unset, .unset, .unset] [(.ref ad)]))
    refine Go.step (fun t k => XS.astore X13.here hx rfl (hb hby at_119) rfl rfl (l' := #[.val (.int pp), .val (.int pq), .val (.int fl), .val (.int va), .val (.int vb), .val (.int (((8 : Int32) - va) - vb)), .val (.int (0 : Int32)), .val (.ref ab), .val (.ref ac), .val (.ref ad), .unset, .unset, .unset, .unset]) rfl k) ?_
    show Go _ _ _ _ _ _ _ (T13.setTop (mkF m 121 #[.val (.int pp), .val (.int pq), .val (.int fl), .val (.int va), .val (.int vb), .val (.int (((8 : Int32) - va) - vb)), .val (.int (0 : Int32)), .val (.ref ab), .val (.ref ac), .val (.ref ad), .unset, .unset, .unset, .unset] []))
    refine Go.step (fun t k => XS.bipush X13.here hx rfl (hb hby at_121) k) ?_
    show Go _ _ _ _ _ _ _ (T13.setTop (mkF m 123 #[.val (.int pp), .val (.int pq), .val (.int fl), .val (.int va), .val (.int vb), .val (.int (((8 : Int32) - va) - vb)), .val (.int (0 : Int32)), .val (.ref ab), .val (.ref ac), .val (.ref ad), .unset, .unset, .unset, .unset] [(.int (8 : Int32))]))
    obtain ⟨T14, h14, k14, X14, e14, E14, A14, st14⟩ := newP X13 hx hZ (hw _ (List.mem_of_getElem? (i := 1) rfl)) e13 (g := (mkF m 123 #[.val (.int pp), .val (.int pq), .val (.int fl), .val (.int va), .val (.int vb), .val (.int (((8 : Int32) - va) - vb)), .val (.int (0 : Int32)), .val (.ref ab), .val (.ref ac), .val (.ref ad), .unset, .unset, .unset, .unset] [(.int (8 : Int32))])) rfl (hb hby at_123) rfl (by decide) (cap := 8) (by decide) (by decide) (by decide) (by decide)
    obtain ⟨ae, gz14⟩ : ∃ z, z = h13.size := ⟨_, rfl⟩
    have ne_ab_ae : ab ≠ ae := Nat.ne_of_lt (Nat.lt_of_lt_of_le A_ab.lt (Nat.le_of_eq gz14.symm))
    have ne_ac_ae : ac ≠ ae := Nat.ne_of_lt (Nat.lt_of_lt_of_le A_ac.lt (Nat.le_of_eq gz14.symm))
    have ne_ad_ae : ad ≠ ae := Nat.ne_of_lt (Nat.lt_of_lt_of_le A_ad.lt (Nat.le_of_eq gz14.symm))
    have g_ae : n0 ≤ ae := Nat.le_trans Z13 (Nat.le_of_eq gz14.symm)
    rw [← gz14] at A14 st14
    replace A_ab := A_ab.ext E14
    replace A_ac := A_ac.ext E14
    replace A_ad := A_ad.ext E14
    have Z14 := Nat.le_trans Z13 E14.1
    have A_ae : AryI Z h14 ae .int 8 (fun _ => (0 : Int32)) := Ary.new A14 rfl
    refine Go.step st14 ?_
    show Go _ _ _ _ _ _ _ (T14.setTop (mkF m 125 #[.val (.int pp), .val (.int pq), .val (.int fl), .val (.int va), .val (.int vb), .val (.int (((8 : Int32) - va) - vb)), .val (.int (0 : Int32)), .val (.ref ab), .val (.ref ac), .val (.ref ad), .unset, .unset, .unset, .unset] [(.ref ae)]))
    refine Go.step (fun t k => XS.astore X14.here hx rfl (hb hby at_125) rfl rfl (l' := #[.val (.int pp), .val (.int pq), .val (.int fl), .val (.int va), .val (.int vb), .val (.int (((8 : Int32) - va) - vb)), .val (.int (0 : Int32)), .val (.ref ab), .val (.ref ac), .val (.ref ad), .val (.ref ae), .unset, .unset, .unset]) rfl k) ?_
    show Go _ _ _ _ _ _ _ (T14.setTop (mkF m 127 #[.val (.int pp), .val (.int pq), .val (.int fl), .val (.int va), .val (.int vb), .val (.int (((8 : Int32) - va) - vb)), .val (.int (0 : Int32)), .val (.ref ab), .val (.ref ac), .val (.ref ad), .val (.ref ae), .unset, .unset, .unset] []))
    refine Go.step (fun t k => XS.iconst X14.here hx rfl (hb hby at_127) k) ?_
    show Go _ _ _ _ _ _ _ (T14.setTop (mkF m 128 #[.val (.int pp), .val (.int pq), .val (.int fl), .val (.int va), .val (.int vb), .val (.int (((8 : Int32) - va) - vb)), .val (.int (0 : Int32)), .val (.ref ab), .val (.ref ac), .val (.ref ad), .val (.ref ae), .unset, .unset, .unset] [(.int (3 : Int32))]))
    obtain ⟨T15, h15, k15, X15, e15, E15, A15, st15⟩ := newP X14 hx hZ (hw _ (List.mem_of_getElem? (i := 2) rfl)) e14 (g := (mkF m 128 #[.val (.int pp), .val (.int pq), .val (.int fl), .val (.int va), .val (.int vb), .val (.int (((8 : Int32) - va) - vb)), .val (.int (0 : Int32)), .val (.ref ab), .val (.ref ac), .val (.ref ad), .val (.ref ae), .unset, .unset, .unset] [(.int (3 : Int32))])) rfl (hb hby at_128) rfl (by decide) (cap := 3) (by decide) (by decide) (by decide) (by decide)
    obtain ⟨af, gz15⟩ : ∃ z, z = h14.size := ⟨_, rfl⟩
    have ne_ab_af : ab ≠ af := Nat.ne_of_lt (Nat.lt_of_lt_of_le A_ab.lt (Nat.le_of_eq gz15.symm))
    have ne_ac_af : ac ≠ af := Nat.ne_of_lt (Nat.lt_of_lt_of_le A_ac.lt (Nat.le_of_eq gz15.symm))
    have ne_ad_af : ad ≠ af := Nat.ne_of_lt (Nat.lt_of_lt_of_le A_ad.lt (Nat.le_of_eq gz15.symm))
    have ne_ae_af : ae ≠ af := Nat.ne_of_lt (Nat.lt_of_lt_of_le A_ae.lt (Nat.le_of_eq gz15.symm))
    have g_af : n0 ≤ af := Nat.le_trans Z14 (Nat.le_of_eq gz15.symm)
    rw [← gz15] at A15 st15
    replace A_ab := A_ab.ext E15
    replace A_ac := A_ac.ext E15
    replace A_ad := A_ad.ext E15
    replace A_ae := A_ae.ext E15
    have Z15 := Nat.le_trans Z14 E15.1
    have A_af : AryJ Z h15 af 3 (fun _ => (0 : Int64)) := Ary.new A15 rfl
    refine Go.step st15 ?_
    show Go _ _ _ _ _ _ _ (T15.setTop (mkF m 130 #[.val (.int pp), .val (.int pq), .val (.int fl), .val (.int va), .val (.int vb), .val (.int (((8 : Int32) - va) - vb)), .val (.int (0 : Int32)), .val (.ref ab), .val (.ref ac), .val (.ref ad), .val (.ref ae), .unset, .unset, .unset] [(.ref af)]))
    refine Go.step (fun t k => XS.astore X15.here hx rfl (hb hby at_130) rfl rfl (l' := #[.val (.int pp), .val (.int pq), .val (.int fl), .val (.int va), .val (.int vb), .val (.int (((8 : Int32) - va) - vb)), .val (.int (0 : Int32)), .val (.ref ab), .val (.ref ac), .val (.ref ad), .val (.ref ae), .val (.ref af), .unset, .unset]) rfl k) ?_
    show Go _ _ _ _ _ _ _ (T15.setTop (mkF m 132 #[.val (.int pp), .val (.int pq), .val (.int fl), .val (.int va), .val (.int vb), .val (.int (((8 : Int32) - va) - vb)), .val (.int (0 : Int32)), .val (.ref ab), .val (.ref ac), .val (.ref ad), .val (.ref ae), .val (.ref af), .unset, .unset] []))
    obtain ⟨T16, h16, X16, e16, E16, A16, D16, -, st16⟩ := newO X15 hx hZ hown (hw _ (List.mem_of_getElem? (i := 3) rfl)) (hw _ (List.mem_of_getElem? (i := 4) rfl)) (hw _ (List.mem_of_getElem? (i := 5) rfl)) e15 (g := (mkF m 132 #[.val (.int pp), .val (.int pq), .val (.int fl), .val (.int va), .val (.int vb), .val (.int (((8 : Int32) - va) - vb)), .val (.int (0 : Int32)), .val (.ref ab), .val (.ref ac), .val (.ref ad), .val (.ref ae), .val (.ref af), .unset, .unset] [])) rfl (hb hby at_132) (by decide) (by decide)
    obtain ⟨ag, gz16⟩ : ∃ z, z = h15.size := ⟨_, rfl⟩
    have ne_ab_ag : ab ≠ ag := Nat.ne_of_lt (Nat.lt_of_lt_of_le A_ab.lt (Nat.le_of_eq gz16.symm))
    have ne_ac_ag : ac ≠ ag := Nat.ne_of_lt (Nat.lt_of_lt_of_le A_ac.lt (Nat.le_of_eq gz16.symm))
    have ne_ad_ag : ad ≠ ag := Nat.ne_of_lt (Nat.lt_of_lt_of_le A_ad.lt (Nat.le_of_eq gz16.symm))
    have ne_ae_ag : ae ≠ ag := Nat.ne_of_lt (Nat.lt_of_lt_of_le A_ae.lt (Nat.le_of_eq gz16.symm))
    have ne_af_ag : af ≠ ag := Nat.ne_of_lt (Nat.lt_of_lt_of_le A_af.lt (Nat.le_of_eq gz16.symm))
    have g_ag : n0 ≤ ag := Nat.le_trans Z15 (Nat.le_of_eq gz16.symm)
    rw [← gz16] at A16 D16 st16
    replace A_ab := A_ab.ext E16
    replace A_ac := A_ac.ext E16
    replace A_ad := A_ad.ext E16
    replace A_ae := A_ae.ext E16
    replace A_af := A_af.ext E16
    have Z16 := Nat.le_trans Z15 E16.1
    have E_ag := A16
    have F_starts_ag : Fld Z h16 ag "com/example/ferrylog/ferrylog/store/LiveIndex$Recent" "starts" "[I" .null := D16 (Or.inr (hw _ (List.mem_of_getElem? (i := 18) rfl))) (ty := (.array .int)) (by decide)
    have F_positions_ag : Fld Z h16 ag "com/example/ferrylog/ferrylog/store/LiveIndex$Recent" "positions" "[I" .null := D16 (Or.inr (hw _ (List.mem_of_getElem? (i := 20) rfl))) (ty := (.array .int)) (by decide)
    have F_runStarts_ag : Fld Z h16 ag "com/example/ferrylog/ferrylog/store/LiveIndex$Recent" "runStarts" "[I" .null := D16 (Or.inr (hw _ (List.mem_of_getElem? (i := 22) rfl))) (ty := (.array .int)) (by decide)
    have F_firsts_ag : Fld Z h16 ag "com/example/ferrylog/ferrylog/store/LiveIndex$Recent" "firsts" "[J" .null := D16 (Or.inr (hw _ (List.mem_of_getElem? (i := 24) rfl))) (ty := (.array .long)) (by decide)
    have F_runAt_ag : Fld Z h16 ag "com/example/ferrylog/ferrylog/store/LiveIndex$Recent" "runAt" "[I" .null := D16 (Or.inr (hw _ (List.mem_of_getElem? (i := 26) rfl))) (ty := (.array .int)) (by decide)
    refine Go.step st16 ?_
    show Go _ _ _ _ _ _ _ (T16.setTop (mkF m 135 #[.val (.int pp), .val (.int pq), .val (.int fl), .val (.int va), .val (.int vb), .val (.int (((8 : Int32) - va) - vb)), .val (.int (0 : Int32)), .val (.ref ab), .val (.ref ac), .val (.ref ad), .val (.ref ae), .val (.ref af), .unset, .unset] [(.ref ag)]))
    refine Go.step (fun t k => XS.dup X16.here hx rfl (hb hby at_135) rfl rfl k) ?_
    show Go _ _ _ _ _ _ _ (T16.setTop (mkF m 136 #[.val (.int pp), .val (.int pq), .val (.int fl), .val (.int va), .val (.int vb), .val (.int (((8 : Int32) - va) - vb)), .val (.int (0 : Int32)), .val (.ref ab), .val (.ref ac), .val (.ref ad), .val (.ref ae), .val (.ref af), .unset, .unset] [(.ref ag), (.ref ag)]))
    refine Go.step (fun t k => XS.aload X16.here hx rfl (hb hby at_136) rfl rfl k) ?_
    show Go _ _ _ _ _ _ _ (T16.setTop (mkF m 138 #[.val (.int pp), .val (.int pq), .val (.int fl), .val (.int va), .val (.int vb), .val (.int (((8 : Int32) - va) - vb)), .val (.int (0 : Int32)), .val (.ref ab), .val (.ref ac), .val (.ref ad), .val (.ref ae), .val (.ref af), .unset, .unset] [(.ref ab), (.ref ag), (.ref ag)]))
    refine Go.step (fun t k => XS.aload X16.here hx rfl (hb hby at_138) rfl rfl k) ?_
    show Go _ _ _ _ _ _ _ (T16.setTop (mkF m 140 #[.val (.int pp), .val (.int pq), .val (.int fl), .val (.int va), .val (.int vb), .val (.int (((8 : Int32) - va) - vb)), .val (.int (0 : Int32)), .val (.ref ab), .val (.ref ac), .val (.ref ad), .val (.ref ae), .val (.ref af), .unset, .unset] [(.ref ae), (.ref ab), (.ref ag), (.ref ag)]))
    refine Go.step (fun t k => XS.aload X16.here hx rfl (hb hby at_140) rfl rfl k) ?_
    show Go _ _ _ _ _ _ _ (T16.setTop (mkF m 142 #[.val (.int pp), .val (.int pq), .val (.int fl), .val (.int va), .val (.int vb), .val (.int (((8 : Int32) - va) - vb)), .val (.int (0 : Int32)), .val (.ref ab), .val (.ref ac), .val (.ref ad), .val (.ref ae), .val (.ref af), .unset, .unset] [(.ref ac), (.ref ae), (.ref ab), (.ref ag), (.ref ag)]))
    refine Go.step (fun t k => XS.aload X16.here hx rfl (hb hby at_142) rfl rfl k) ?_
    show Go _ _ _ _ _ _ _ (T16.setTop (mkF m 144 #[.val (.int pp), .val (.int pq), .val (.int fl), .val (.int va), .val (.int vb), .val (.int (((8 : Int32) - va) - vb)), .val (.int (0 : Int32)), .val (.ref ab), .val (.ref ac), .val (.ref ad), .val (.ref ae), .val (.ref af), .unset, .unset] [(.ref af), (.ref ac), (.ref ae), (.ref ab), (.ref ag), (.ref ag)]))
    refine Go.step (fun t k => XS.aload X16.here hx rfl (hb hby at_144) rfl rfl k) ?_
    show Go _ _ _ _ _ _ _ (T16.setTop (mkF m 146 #[.val (.int pp), .val (.int pq), .val (.int fl), .val (.int va), .val (.int vb), .val (.int (((8 : Int32) - va) - vb)), .val (.int (0 : Int32)), .val (.ref ab), .val (.ref ac), .val (.ref ad), .val (.ref ae), .val (.ref af), .unset, .unset] [(.ref ad), (.ref af), (.ref ac), (.ref ae), (.ref ab), (.ref ag), (.ref ag)]))
    obtain ⟨_, _, ⟨T17, L17, k17, n17⟩, -, X17, ⟨Lc17, hQ17, l17, y17, z17⟩, st17⟩ := X16.specialBack hx (y := (⟨"com/example/ferrylog/ferrylog/store/LiveIndex$Recent", "<init>", "([I[I[I[J[I)V"⟩ : MethodName)) rfl hown (mvT hZ (hw _ (List.mem_of_getElem? (i := 6) rfl))) (mvT hZ (hw _ (List.mem_of_getElem? (i := 7) rfl))) (mvT hZ (hw _ (List.mem_of_getElem? (i := 8) rfl))) (by decide) (backOf (W := 1) (rm1 l Z a0 hw [] ag ab ae ac af ad h16 n0 Z16 F_starts_ag F_positions_ag F_runStarts_ag F_firsts_ag F_runAt_ag E_ag g_ag) hZ (hw _ (List.mem_of_getElem? (i := 8) rfl)) (hw _ (List.mem_of_getElem? (i := 5) rfl)) (by decide) (by decide)) (g := (mkF m 146 #[.val (.int pp), .val (.int pq), .val (.int fl), .val (.int va), .val (.int vb), .val (.int (((8 : Int32) - va) - vb)), .val (.int (0 : Int32)), .val (.ref ab), .val (.ref ac), .val (.ref ad), .val (.ref ae), .val (.ref af), .unset, .unset] [(.ref ad), (.ref af), (.ref ac), (.ref ae), (.ref ab), (.ref ag), (.ref ag)])) rfl (by rw [hml]; rfl) (Steps.refl _) (a := ag) (argsL := [(.ref ab), (.ref ae), (.ref ac), (.ref af), (.ref ad)]) (rest := [(.ref ag)]) (lenOf pd_0_0 rfl) rfl (by show 2 * 0 + _ ≤ _; exact Nat.le_of_eq rfl) (hb hby at_146) (fun _ _ => ⟨rfl, e16, (by decide : 6 + 0 ≤ _), (by decide : 25 + 0 ≤ _)⟩)
    dsimp only [Pt.U, Pt.locs, Pt.cells, Pt.slots] at X17 l17 y17 z17 st17 hQ17
    subst l17 y17 z17
    obtain ⟨rfl, N17q, K17q, o17_F_starts_ag, o17_F_positions_ag, o17_F_runStarts_ag, o17_F_firsts_ag, o17_F_runAt_ag⟩ := hQ17
    have N17 := Fr.app N13 N17q
    replace A_ab := A_ab.keep K17q (ninS ne_ab_ag nin0)
    replace A_ac := A_ac.keep K17q (ninS ne_ac_ag nin0)
    replace A_ad := A_ad.keep K17q (ninS ne_ad_ag nin0)
    replace A_ae := A_ae.keep K17q (ninS ne_ae_ag nin0)
    replace A_af := A_af.keep K17q (ninS ne_af_ag nin0)
    replace E_ag := E_ag.keep K17q
    have Z17 := Nat.le_trans Z16 K17q.1
    have F_starts_ag := o17_F_starts_ag
    have F_positions_ag := o17_F_positions_ag
    have F_runStarts_ag := o17_F_runStarts_ag
    have F_firsts_ag := o17_F_firsts_ag
    have F_runAt_ag := o17_F_runAt_ag
    refine Go.step (fun t k => st17.trans k) ?_
    show Go _ _ _ _ _ _ _ (T17.setTop (mkF m 149 #[.val (.int pp), .val (.int pq), .val (.int fl), .val (.int va), .val (.int vb), .val (.int (((8 : Int32) - va) - vb)), .val (.int (0 : Int32)), .val (.ref ab), .val (.ref ac), .val (.ref ad), .val (.ref ae), .val (.ref af), .unset, .unset] [(.ref ag)]))
    refine Go.step (fun t k => XS.astore X17.here hx rfl (hb hby at_149) rfl rfl (l' := #[.val (.int pp), .val (.int pq), .val (.int fl), .val (.int va), .val (.int vb), .val (.int (((8 : Int32) - va) - vb)), .val (.int (0 : Int32)), .val (.ref ab), .val (.ref ac), .val (.ref ad), .val (.ref ae), .val (.ref af), .val (.ref ag), .unset]) rfl k) ?_
    show Go _ _ _ _ _ _ _ (T17.setTop (mkF m 151 #[.val (.int pp), .val (.int pq), .val (.int fl), .val (.int va), .val (.int vb), .val (.int (((8 : Int32) - va) - vb)), .val (.int (0 : Int32)), .val (.ref ab), .val (.ref ac), .val (.ref ad), .val (.ref ae), .val (.ref af), .val (.ref ag), .unset] []))
    refine Go.step (fun t k => XS.iload X17.here hx rfl (hb hby at_151) rfl k) ?_
    show Go _ _ _ _ _ _ _ (T17.setTop (mkF m 153 #[.val (.int pp), .val (.int pq), .val (.int fl), .val (.int va), .val (.int vb), .val (.int (((8 : Int32) - va) - vb)), .val (.int (0 : Int32)), .val (.ref ab), .val (.ref ac), .val (.ref ad), .val (.ref ae), .val (.ref af), .val (.ref ag), .unset] [(.int (0 : Int32))]))
    refine Go.step (fun t k => XS.ifYes X17.here hx rfl (pc0 := 153) (pc' := 160) rfl (hb hby at_153) rfl ((if0 _ _).trans (teq (by decide : (0 : Int32) = (0 : Int32))).1) (by decide) (by decide) k) ?_
    show Go _ _ _ _ _ _ _ (T17.setTop (mkF m 160 #[.val (.int pp), .val (.int pq), .val (.int fl), .val (.int va), .val (.int vb), .val (.int (((8 : Int32) - va) - vb)), .val (.int (0 : Int32)), .val (.ref ab), .val (.ref ac), .val (.ref ad), .val (.ref ae), .val (.ref af), .val (.ref ag), .unset] []))
    refine Go.step (fun t k => XS.iconst X17.here hx rfl (hb hby at_160) k) ?_
    show Go _ _ _ _ _ _ _ (T17.setTop (mkF m 161 #[.val (.int pp), .val (.int pq), .val (.int fl), .val (.int va), .val (.int vb), .val (.int (((8 : Int32) - va) - vb)), .val (.int (0 : Int32)), .val (.ref ab), .val (.ref ac), .val (.ref ad), .val (.ref ae), .val (.ref af), .val (.ref ag), .unset] [(.int (1 : Int32))]))
    refine Go.step (fun t k => XS.istore X17.here hx rfl (hb hby at_161) rfl (l' := #[.val (.int pp), .val (.int pq), .val (.int fl), .val (.int va), .val (.int vb), .val (.int (((8 : Int32) - va) - vb)), .val (.int (0 : Int32)), .val (.ref ab), .val (.ref ac), .val (.ref ad), .val (.ref ae), .val (.ref af), .val (.ref ag), .val (.int (1 : Int32))]) rfl k) ?_
    show Go _ _ _ _ _ _ _ (T17.setTop (mkF m 163 #[.val (.int pp), .val (.int pq), .val (.int fl), .val (.int va), .val (.int vb), .val (.int (((8 : Int32) - va) - vb)), .val (.int (0 : Int32)), .val (.ref ab), .val (.ref ac), .val (.ref ad), .val (.ref ae), .val (.ref af), .val (.ref ag), .val (.int (1 : Int32))] []))
    refine Go.step (fun t k => XS.aload X17.here hx rfl (hb hby at_163) rfl rfl k) ?_
    show Go _ _ _ _ _ _ _ (T17.setTop (mkF m 165 #[.val (.int pp), .val (.int pq), .val (.int fl), .val (.int va), .val (.int vb), .val (.int (((8 : Int32) - va) - vb)), .val (.int (0 : Int32)), .val (.ref ab), .val (.ref ac), .val (.ref ad), .val (.ref ae), .val (.ref af), .val (.ref ag), .val (.int (1 : Int32))] [(.ref ag)]))
    refine Go.step (fun t k => XS.iconst X17.here hx rfl (hb hby at_165) k) ?_
    show Go _ _ _ _ _ _ _ (T17.setTop (mkF m 166 #[.val (.int pp), .val (.int pq), .val (.int fl), .val (.int va), .val (.int vb), .val (.int (((8 : Int32) - va) - vb)), .val (.int (0 : Int32)), .val (.ref ab), .val (.ref ac), .val (.ref ad), .val (.ref ae), .val (.ref af), .val (.ref ag), .val (.int (1 : Int32))] [(.int (0 : Int32)), (.ref ag)]))
    refine Go.step (fun t k => XS.iconst X17.here hx rfl (hb hby at_166) k) ?_
    show Go _ _ _ _ _ _ _ (T17.setTop (mkF m 167 #[.val (.int pp), .val (.int pq), .val (.int fl), .val (.int va), .val (.int vb), .val (.int (((8 : Int32) - va) - vb)), .val (.int (0 : Int32)), .val (.ref ab), .val (.ref ac), .val (.ref ad), .val (.ref ae), .val (.ref af), .val (.ref ag), .val (.int (1 : Int32))] [(.int (0 : Int32)), (.int (0 : Int32)), (.ref ag)]))
    obtain ⟨cq18, kq18, q18a, q18b, q18c⟩ := isOf hZ rfl E_ag
    obtain ⟨_, _, ⟨T18, L18, k18, n18⟩, -, X18, ⟨Lc18, hQ18, l18, y18, z18⟩, st18⟩ := X17.virtualBack hx (y := (⟨"com/example/ferrylog/ferrylog/store/LiveIndex$Recent", "count", "(II)I"⟩ : MethodName)) (z := (⟨"com/example/ferrylog/ferrylog/store/LiveIndex$Recent", "count", "(II)I"⟩ : MethodName)) hown (mvT hZ (hw _ (List.mem_of_getElem? (i := 27) rfl))) (mvT hZ (hw _ (List.mem_of_getElem? (i := 28) rfl))) (notFace_of_selects (args := #[]) (mvT hZ (hw _ (List.mem_of_getElem? (i := 30) rfl)))) (mvT hZ (hw _ (List.mem_of_getElem? (i := 30) rfl))) (mvT hZ (hw _ (List.mem_of_getElem? (i := 29) rfl))) (by decide) (backOf (W := 0) (rm4 l Z a0 hw [] ag (0 : Int32) (0 : Int32) ab ac ad (up (up (up (fun _ => (0 : Int32)) 0 (0 : Int32)) 1 va) 2 (8 : Int32)) (up (up (up (fun _ => (0 : Int32)) 0 (0 : Int32)) 1 (1 : Int32)) 2 (3 : Int32)) (up (up (up (fun _ => (0 : Int32)) 0 (0 : Int32)) 1 va) 2 (va + vb)) 0 0 T17.heap n0 Z17 F_starts_ag F_runStarts_ag F_runAt_ag A_ab A_ac A_ad rfl rfl (by decide) (by decide) (by decide)) hZ (hw _ (List.mem_of_getElem? (i := 31) rfl)) (hw _ (List.mem_of_getElem? (i := 5) rfl)) (by decide) (by decide)) q18a q18c (g := (mkF m 167 #[.val (.int pp), .val (.int pq), .val (.int fl), .val (.int va), .val (.int vb), .val (.int (((8 : Int32) - va) - vb)), .val (.int (0 : Int32)), .val (.ref ab), .val (.ref ac), .val (.ref ad), .val (.ref ae), .val (.ref af), .val (.ref ag), .val (.int (1 : Int32))] [(.int (0 : Int32)), (.int (0 : Int32)), (.ref ag)])) rfl (by rw [hml]; rfl) (Steps.refl _) (argsL := [(.int (0 : Int32)), (.int (0 : Int32))]) (rest := []) (lenOf pd_0_1 rfl) rfl (by show 2 * 0 + _ ≤ _; exact Nat.le_of_eq rfl) (hb hby at_167) (fun _ _ => ⟨rfl, rfl, (by decide : 6 + 0 ≤ _), (by decide : 25 + 0 ≤ _)⟩)
    dsimp only [Pt.U, Pt.locs, Pt.cells, Pt.slots] at X18 l18 y18 z18 st18 hQ18
    subst l18 y18 z18
    obtain ⟨rfl, N18q, K18q⟩ := hQ18
    have N18 := Fr.app N17 N18q
    refine Go.step (fun t k => st18.trans k) ?_
    show Go _ _ _ _ _ _ _ (T18.setTop (mkF m 170 #[.val (.int pp), .val (.int pq), .val (.int fl), .val (.int va), .val (.int vb), .val (.int (((8 : Int32) - va) - vb)), .val (.int (0 : Int32)), .val (.ref ab), .val (.ref ac), .val (.ref ad), .val (.ref ae), .val (.ref af), .val (.ref ag), .val (.int (1 : Int32))] [(.int ((if (1 : Int32) < (up (up (up (fun _ => (0 : Int32)) 0 (0 : Int32)) 1 (1 : Int32)) 2 (3 : Int32)) 1 then (up (up (up (fun _ => (0 : Int32)) 0 (0 : Int32)) 1 va) 2 (va + vb)) 1 else (up (up (up (fun _ => (0 : Int32)) 0 (0 : Int32)) 1 va) 2 (8 : Int32)) 1) - (up (up (up (fun _ => (0 : Int32)) 0 (0 : Int32)) 1 va) 2 (va + vb)) 0))]))
    refine Go.step (fun t k => XS.iloadN X18.here hx rfl (hb hby at_170) rfl k) ?_
    show Go _ _ _ _ _ _ _ (T18.setTop (mkF m 171 #[.val (.int pp), .val (.int pq), .val (.int fl), .val (.int va), .val (.int vb), .val (.int (((8 : Int32) - va) - vb)), .val (.int (0 : Int32)), .val (.ref ab), .val (.ref ac), .val (.ref ad), .val (.ref ae), .val (.ref af), .val (.ref ag), .val (.int (1 : Int32))] [(.int va), (.int ((if (1 : Int32) < (up (up (up (fun _ => (0 : Int32)) 0 (0 : Int32)) 1 (1 : Int32)) 2 (3 : Int32)) 1 then (up (up (up (fun _ => (0 : Int32)) 0 (0 : Int32)) 1 va) 2 (va + vb)) 1 else (up (up (up (fun _ => (0 : Int32)) 0 (0 : Int32)) 1 va) 2 (8 : Int32)) 1) - (up (up (up (fun _ => (0 : Int32)) 0 (0 : Int32)) 1 va) 2 (va + vb)) 0))]))
    refine Go.step (fun t k => XS.icmpNo X18.here hx rfl (hb hby at_171) rfl (teq (own_z0 va : ((if (1 : Int32) < (up (up (up (fun _ => (0 : Int32)) 0 (0 : Int32)) 1 (1 : Int32)) 2 (3 : Int32)) 1 then (up (up (up (fun _ => (0 : Int32)) 0 (0 : Int32)) 1 va) 2 (va + vb)) 1 else (up (up (up (fun _ => (0 : Int32)) 0 (0 : Int32)) 1 va) 2 (8 : Int32)) 1) - (up (up (up (fun _ => (0 : Int32)) 0 (0 : Int32)) 1 va) 2 (va + vb)) 0) = va)).2 k) ?_
    show Go _ _ _ _ _ _ _ (T18.setTop (mkF m 174 #[.val (.int pp), .val (.int pq), .val (.int fl), .val (.int va), .val (.int vb), .val (.int (((8 : Int32) - va) - vb)), .val (.int (0 : Int32)), .val (.ref ab), .val (.ref ac), .val (.ref ad), .val (.ref ae), .val (.ref af), .val (.ref ag), .val (.int (1 : Int32))] []))
    refine Go.step (fun t k => XS.aload X18.here hx rfl (hb hby at_174) rfl rfl k) ?_
    show Go _ _ _ _ _ _ _ (T18.setTop (mkF m 176 #[.val (.int pp), .val (.int pq), .val (.int fl), .val (.int va), .val (.int vb), .val (.int (((8 : Int32) - va) - vb)), .val (.int (0 : Int32)), .val (.ref ab), .val (.ref ac), .val (.ref ad), .val (.ref ae), .val (.ref af), .val (.ref ag), .val (.int (1 : Int32))] [(.ref ag)]))
    refine Go.step (fun t k => XS.iload X18.here hx rfl (hb hby at_176) rfl k) ?_
    show Go _ _ _ _ _ _ _ (T18.setTop (mkF m 178 #[.val (.int pp), .val (.int pq), .val (.int fl), .val (.int va), .val (.int vb), .val (.int (((8 : Int32) - va) - vb)), .val (.int (0 : Int32)), .val (.ref ab), .val (.ref ac), .val (.ref ad), .val (.ref ae), .val (.ref af), .val (.ref ag), .val (.int (1 : Int32))] [(.int (1 : Int32)), (.ref ag)]))
    refine Go.step (fun t k => XS.iconst X18.here hx rfl (hb hby at_178) k) ?_
    show Go _ _ _ _ _ _ _ (T18.setTop (mkF m 179 #[.val (.int pp), .val (.int pq), .val (.int fl), .val (.int va), .val (.int vb), .val (.int (((8 : Int32) - va) - vb)), .val (.int (0 : Int32)), .val (.ref ab), .val (.ref ac), .val (.ref ad), .val (.ref ae), .val (.ref af), .val (.ref ag), .val (.int (1 : Int32))] [(.int (1 : Int32)), (.int (1 : Int32)), (.ref ag)]))
    obtain ⟨cq19, kq19, q19a, q19b, q19c⟩ := isOf hZ K18q E_ag
    obtain ⟨_, _, ⟨T19, L19, k19, n19⟩, -, X19, ⟨Lc19, hQ19, l19, y19, z19⟩, st19⟩ := X18.virtualBack hx (y := (⟨"com/example/ferrylog/ferrylog/store/LiveIndex$Recent", "count", "(II)I"⟩ : MethodName)) (z := (⟨"com/example/ferrylog/ferrylog/store/LiveIndex$Recent", "count", "(II)I"⟩ : MethodName)) hown (mvT hZ (hw _ (List.mem_of_getElem? (i := 27) rfl))) (mvT hZ (hw _ (List.mem_of_getElem? (i := 28) rfl))) (notFace_of_selects (args := #[]) (mvT hZ (hw _ (List.mem_of_getElem? (i := 30) rfl)))) (mvT hZ (hw _ (List.mem_of_getElem? (i := 30) rfl))) (mvT hZ (hw _ (List.mem_of_getElem? (i := 29) rfl))) (by decide) (backOf (W := 0) (rm4 l Z a0 hw [] ag (1 : Int32) (1 : Int32) ab ac ad (up (up (up (fun _ => (0 : Int32)) 0 (0 : Int32)) 1 va) 2 (8 : Int32)) (up (up (up (fun _ => (0 : Int32)) 0 (0 : Int32)) 1 (1 : Int32)) 2 (3 : Int32)) (up (up (up (fun _ => (0 : Int32)) 0 (0 : Int32)) 1 va) 2 (va + vb)) 1 1 T17.heap n0 Z17 F_starts_ag F_runStarts_ag F_runAt_ag A_ab A_ac A_ad rfl rfl (by decide) (by decide) (by decide)) hZ (hw _ (List.mem_of_getElem? (i := 31) rfl)) (hw _ (List.mem_of_getElem? (i := 5) rfl)) (by decide) (by decide)) q19a q19c (g := (mkF m 179 #[.val (.int pp), .val (.int pq), .val (.int fl), .val (.int va), .val (.int vb), .val (.int (((8 : Int32) - va) - vb)), .val (.int (0 : Int32)), .val (.ref ab), .val (.ref ac), .val (.ref ad), .val (.ref ae), .val (.ref af), .val (.ref ag), .val (.int (1 : Int32))] [(.int (1 : Int32)), (.int (1 : Int32)), (.ref ag)])) rfl (by rw [hml]; rfl) (Steps.refl _) (argsL := [(.int (1 : Int32)), (.int (1 : Int32))]) (rest := []) (lenOf pd_0_1 rfl) rfl (by show 2 * 0 + _ ≤ _; exact Nat.le_of_eq rfl) (hb hby at_179) (fun _ _ => ⟨rfl, K18q, (by decide : 6 + 0 ≤ _), (by decide : 25 + 0 ≤ _)⟩)
    dsimp only [Pt.U, Pt.locs, Pt.cells, Pt.slots] at X19 l19 y19 z19 st19 hQ19
    subst l19 y19 z19
    obtain ⟨rfl, N19q, K19q⟩ := hQ19
    have N19 := Fr.app N18 N19q
    refine Go.step (fun t k => st19.trans k) ?_
    show Go _ _ _ _ _ _ _ (T19.setTop (mkF m 182 #[.val (.int pp), .val (.int pq), .val (.int fl), .val (.int va), .val (.int vb), .val (.int (((8 : Int32) - va) - vb)), .val (.int (0 : Int32)), .val (.ref ab), .val (.ref ac), .val (.ref ad), .val (.ref ae), .val (.ref af), .val (.ref ag), .val (.int (1 : Int32))] [(.int ((if (2 : Int32) < (up (up (up (fun _ => (0 : Int32)) 0 (0 : Int32)) 1 (1 : Int32)) 2 (3 : Int32)) 2 then (up (up (up (fun _ => (0 : Int32)) 0 (0 : Int32)) 1 va) 2 (va + vb)) 2 else (up (up (up (fun _ => (0 : Int32)) 0 (0 : Int32)) 1 va) 2 (8 : Int32)) 2) - (up (up (up (fun _ => (0 : Int32)) 0 (0 : Int32)) 1 va) 2 (va + vb)) 1))]))
    refine Go.step (fun t k => XS.iload X19.here hx rfl (hb hby at_182) rfl k) ?_
    show Go _ _ _ _ _ _ _ (T19.setTop (mkF m 184 #[.val (.int pp), .val (.int pq), .val (.int fl), .val (.int va), .val (.int vb), .val (.int (((8 : Int32) - va) - vb)), .val (.int (0 : Int32)), .val (.ref ab), .val (.ref ac), .val (.ref ad), .val (.ref ae), .val (.ref af), .val (.ref ag), .val (.int (1 : Int32))] [(.int vb), (.int ((if (2 : Int32) < (up (up (up (fun _ => (0 : Int32)) 0 (0 : Int32)) 1 (1 : Int32)) 2 (3 : Int32)) 2 then (up (up (up (fun _ => (0 : Int32)) 0 (0 : Int32)) 1 va) 2 (va + vb)) 2 else (up (up (up (fun _ => (0 : Int32)) 0 (0 : Int32)) 1 va) 2 (8 : Int32)) 2) - (up (up (up (fun _ => (0 : Int32)) 0 (0 : Int32)) 1 va) 2 (va + vb)) 1))]))
    refine Go.step (fun t k => XS.icmpNo X19.here hx rfl (hb hby at_184) rfl (teq (own_z1 va vb : ((if (2 : Int32) < (up (up (up (fun _ => (0 : Int32)) 0 (0 : Int32)) 1 (1 : Int32)) 2 (3 : Int32)) 2 then (up (up (up (fun _ => (0 : Int32)) 0 (0 : Int32)) 1 va) 2 (va + vb)) 2 else (up (up (up (fun _ => (0 : Int32)) 0 (0 : Int32)) 1 va) 2 (8 : Int32)) 2) - (up (up (up (fun _ => (0 : Int32)) 0 (0 : Int32)) 1 va) 2 (va + vb)) 1) = vb)).2 k) ?_
    show Go _ _ _ _ _ _ _ (T19.setTop (mkF m 187 #[.val (.int pp), .val (.int pq), .val (.int fl), .val (.int va), .val (.int vb), .val (.int (((8 : Int32) - va) - vb)), .val (.int (0 : Int32)), .val (.ref ab), .val (.ref ac), .val (.ref ad), .val (.ref ae), .val (.ref af), .val (.ref ag), .val (.int (1 : Int32))] []))
    refine Go.step (fun t k => XS.aload X19.here hx rfl (hb hby at_187) rfl rfl k) ?_
    show Go _ _ _ _ _ _ _ (T19.setTop (mkF m 189 #[.val (.int pp), .val (.int pq), .val (.int fl), .val (.int va), .val (.int vb), .val (.int (((8 : Int32) - va) - vb)), .val (.int (0 : Int32)), .val (.ref ab), .val (.ref ac), .val (.ref ad), .val (.ref ae), .val (.ref af), .val (.ref ag), .val (.int (1 : Int32))] [(.ref ag)]))
    refine Go.step (fun t k => XS.iconst X19.here hx rfl (hb hby at_189) k) ?_
    show Go _ _ _ _ _ _ _ (T19.setTop (mkF m 190 #[.val (.int pp), .val (.int pq), .val (.int fl), .val (.int va), .val (.int vb), .val (.int (((8 : Int32) - va) - vb)), .val (.int (0 : Int32)), .val (.ref ab), .val (.ref ac), .val (.ref ad), .val (.ref ae), .val (.ref af), .val (.ref ag), .val (.int (1 : Int32))] [(.int (1 : Int32)), (.ref ag)]))
    refine Go.step (fun t k => XS.iconst X19.here hx rfl (hb hby at_190) k) ?_
    show Go _ _ _ _ _ _ _ (T19.setTop (mkF m 191 #[.val (.int pp), .val (.int pq), .val (.int fl), .val (.int va), .val (.int vb), .val (.int (((8 : Int32) - va) - vb)), .val (.int (0 : Int32)), .val (.ref ab), .val (.ref ac), .val (.ref ad), .val (.ref ae), .val (.ref af), .val (.ref ag), .val (.int (1 : Int32))] [(.int (2 : Int32)), (.int (1 : Int32)), (.ref ag)]))
    obtain ⟨cq20, kq20, q20a, q20b, q20c⟩ := isOf hZ K19q E_ag
    obtain ⟨_, _, ⟨T20, L20, k20, n20⟩, -, X20, ⟨Lc20, hQ20, l20, y20, z20⟩, st20⟩ := X19.virtualBack hx (y := (⟨"com/example/ferrylog/ferrylog/store/LiveIndex$Recent", "count", "(II)I"⟩ : MethodName)) (z := (⟨"com/example/ferrylog/ferrylog/store/LiveIndex$Recent", "count", "(II)I"⟩ : MethodName)) hown (mvT hZ (hw _ (List.mem_of_getElem? (i := 27) rfl))) (mvT hZ (hw _ (List.mem_of_getElem? (i := 28) rfl))) (notFace_of_selects (args := #[]) (mvT hZ (hw _ (List.mem_of_getElem? (i := 30) rfl)))) (mvT hZ (hw _ (List.mem_of_getElem? (i := 30) rfl))) (mvT hZ (hw _ (List.mem_of_getElem? (i := 29) rfl))) (by decide) (backOf (W := 0) (rm4 l Z a0 hw [] ag (1 : Int32) (2 : Int32) ab ac ad (up (up (up (fun _ => (0 : Int32)) 0 (0 : Int32)) 1 va) 2 (8 : Int32)) (up (up (up (fun _ => (0 : Int32)) 0 (0 : Int32)) 1 (1 : Int32)) 2 (3 : Int32)) (up (up (up (fun _ => (0 : Int32)) 0 (0 : Int32)) 1 va) 2 (va + vb)) 1 2 T17.heap n0 Z17 F_starts_ag F_runStarts_ag F_runAt_ag A_ab A_ac A_ad rfl rfl (by decide) (by decide) (by decide)) hZ (hw _ (List.mem_of_getElem? (i := 31) rfl)) (hw _ (List.mem_of_getElem? (i := 5) rfl)) (by decide) (by decide)) q20a q20c (g := (mkF m 191 #[.val (.int pp), .val (.int pq), .val (.int fl), .val (.int va), .val (.int vb), .val (.int (((8 : Int32) - va) - vb)), .val (.int (0 : Int32)), .val (.ref ab), .val (.ref ac), .val (.ref ad), .val (.ref ae), .val (.ref af), .val (.ref ag), .val (.int (1 : Int32))] [(.int (2 : Int32)), (.int (1 : Int32)), (.ref ag)])) rfl (by rw [hml]; rfl) (Steps.refl _) (argsL := [(.int (1 : Int32)), (.int (2 : Int32))]) (rest := []) (lenOf pd_0_1 rfl) rfl (by show 2 * 0 + _ ≤ _; exact Nat.le_of_eq rfl) (hb hby at_191) (fun _ _ => ⟨rfl, K19q, (by decide : 6 + 0 ≤ _), (by decide : 25 + 0 ≤ _)⟩)
    dsimp only [Pt.U, Pt.locs, Pt.cells, Pt.slots] at X20 l20 y20 z20 st20 hQ20
    subst l20 y20 z20
    obtain ⟨rfl, N20q, K20q⟩ := hQ20
    have N20 := Fr.app N19 N20q
    refine Go.step (fun t k => st20.trans k) ?_
    show Go _ _ _ _ _ _ _ (T20.setTop (mkF m 194 #[.val (.int pp), .val (.int pq), .val (.int fl), .val (.int va), .val (.int vb), .val (.int (((8 : Int32) - va) - vb)), .val (.int (0 : Int32)), .val (.ref ab), .val (.ref ac), .val (.ref ad), .val (.ref ae), .val (.ref af), .val (.ref ag), .val (.int (1 : Int32))] [(.int ((if (3 : Int32) < (up (up (up (fun _ => (0 : Int32)) 0 (0 : Int32)) 1 (1 : Int32)) 2 (3 : Int32)) 2 then (up (up (up (fun _ => (0 : Int32)) 0 (0 : Int32)) 1 va) 2 (va + vb)) 3 else (up (up (up (fun _ => (0 : Int32)) 0 (0 : Int32)) 1 va) 2 (8 : Int32)) 2) - (up (up (up (fun _ => (0 : Int32)) 0 (0 : Int32)) 1 va) 2 (va + vb)) 2))]))
    refine Go.step (fun t k => XS.iload X20.here hx rfl (hb hby at_194) rfl k) ?_
    show Go _ _ _ _ _ _ _ (T20.setTop (mkF m 196 #[.val (.int pp), .val (.int pq), .val (.int fl), .val (.int va), .val (.int vb), .val (.int (((8 : Int32) - va) - vb)), .val (.int (0 : Int32)), .val (.ref ab), .val (.ref ac), .val (.ref ad), .val (.ref ae), .val (.ref af), .val (.ref ag), .val (.int (1 : Int32))] [(.int (((8 : Int32) - va) - vb)), (.int ((if (3 : Int32) < (up (up (up (fun _ => (0 : Int32)) 0 (0 : Int32)) 1 (1 : Int32)) 2 (3 : Int32)) 2 then (up (up (up (fun _ => (0 : Int32)) 0 (0 : Int32)) 1 va) 2 (va + vb)) 3 else (up (up (up (fun _ => (0 : Int32)) 0 (0 : Int32)) 1 va) 2 (8 : Int32)) 2) - (up (up (up (fun _ => (0 : Int32)) 0 (0 : Int32)) 1 va) 2 (va + vb)) 2))]))
    refine Go.step (fun t k => XS.icmpNo X20.here hx rfl (hb hby at_196) rfl (teq (own_z2 va vb : ((if (3 : Int32) < (up (up (up (fun _ => (0 : Int32)) 0 (0 : Int32)) 1 (1 : Int32)) 2 (3 : Int32)) 2 then (up (up (up (fun _ => (0 : Int32)) 0 (0 : Int32)) 1 va) 2 (va + vb)) 3 else (up (up (up (fun _ => (0 : Int32)) 0 (0 : Int32)) 1 va) 2 (8 : Int32)) 2) - (up (up (up (fun _ => (0 : Int32)) 0 (0 : Int32)) 1 va) 2 (va + vb)) 2) = (((8 : Int32) - va) - vb))).2 k) ?_
    show Go _ _ _ _ _ _ _ (T20.setTop (mkF m 199 #[.val (.int pp), .val (.int pq), .val (.int fl), .val (.int va), .val (.int vb), .val (.int (((8 : Int32) - va) - vb)), .val (.int (0 : Int32)), .val (.ref ab), .val (.ref ac), .val (.ref ad), .val (.ref ae), .val (.ref af), .val (.ref ag), .val (.int (1 : Int32))] []))
    refine Go.step (fun t k => XS.iconst X20.here hx rfl (hb hby at_199) k) ?_
    show Go _ _ _ _ _ _ _ (T20.setTop (mkF m 200 #[.val (.int pp), .val (.int pq), .val (.int fl), .val (.int va), .val (.int vb), .val (.int (((8 : Int32) - va) - vb)), .val (.int (0 : Int32)), .val (.ref ab), .val (.ref ac), .val (.ref ad), .val (.ref ae), .val (.ref af), .val (.ref ag), .val (.int (1 : Int32))] [(.int (1 : Int32))]))
    refine Go.step (fun t k => XS.goto X20.here hx rfl (pc0 := 200) (pc' := 204) rfl (hb hby at_200) (by decide) (by decide) k) ?_
    show Go _ _ _ _ _ _ _ (T20.setTop (mkF m 204 #[.val (.int pp), .val (.int pq), .val (.int fl), .val (.int va), .val (.int vb), .val (.int (((8 : Int32) - va) - vb)), .val (.int (0 : Int32)), .val (.ref ab), .val (.ref ac), .val (.ref ad), .val (.ref ae), .val (.ref af), .val (.ref ag), .val (.int (1 : Int32))] [(.int (1 : Int32))]))
    refine Go.retN X20 Bd.notSynchronized hx (t := .boolean) Bd.returns (by simp) (hb hby at_204) (by decide) (by decide) (1 : Int32) rfl ?_
    rw [K20q]
    exact ⟨rfl, N20⟩
  · refine Go.step (fun t k => XS.ifNo X0.here hx rfl (hb hby at_35) rfl ((if0 _ _).trans (feq hc35_1).1) k) ?_
    show Go _ _ _ _ _ _ _ (s₁.setTop (mkF m 38 #[.val (.int pp), .val (.int pq), .val (.int fl), .val (.int va), .val (.int vb), .val (.int (((8 : Int32) - va) - vb)), .unset, .unset, .unset, .unset, .unset, .unset, .unset, .unset] []))
    refine Go.step (fun t k => XS.iconst X0.here hx rfl (hb hby at_38) k) ?_
    show Go _ _ _ _ _ _ _ (s₁.setTop (mkF m 39 #[.val (.int pp), .val (.int pq), .val (.int fl), .val (.int va), .val (.int vb), .val (.int (((8 : Int32) - va) - vb)), .unset, .unset, .unset, .unset, .unset, .unset, .unset, .unset] [(.int (1 : Int32))]))
    refine Go.step (fun t k => XS.goto X0.here hx rfl (pc0 := 39) (pc' := 43) rfl (hb hby at_39) (by decide) (by decide) k) ?_
    show Go _ _ _ _ _ _ _ (s₁.setTop (mkF m 43 #[.val (.int pp), .val (.int pq), .val (.int fl), .val (.int va), .val (.int vb), .val (.int (((8 : Int32) - va) - vb)), .unset, .unset, .unset, .unset, .unset, .unset, .unset, .unset] [(.int (1 : Int32))]))
    refine Go.step (fun t k => XS.istore X0.here hx rfl (hb hby at_43) rfl (l' := #[.val (.int pp), .val (.int pq), .val (.int fl), .val (.int va), .val (.int vb), .val (.int (((8 : Int32) - va) - vb)), .val (.int (1 : Int32)), .unset, .unset, .unset, .unset, .unset, .unset, .unset]) rfl k) ?_
    show Go _ _ _ _ _ _ _ (s₁.setTop (mkF m 45 #[.val (.int pp), .val (.int pq), .val (.int fl), .val (.int va), .val (.int vb), .val (.int (((8 : Int32) - va) - vb)), .val (.int (1 : Int32)), .unset, .unset, .unset, .unset, .unset, .unset, .unset] []))
    refine Go.step (fun t k => XS.iconst X0.here hx rfl (hb hby at_45) k) ?_
    show Go _ _ _ _ _ _ _ (s₁.setTop (mkF m 46 #[.val (.int pp), .val (.int pq), .val (.int fl), .val (.int va), .val (.int vb), .val (.int (((8 : Int32) - va) - vb)), .val (.int (1 : Int32)), .unset, .unset, .unset, .unset, .unset, .unset, .unset] [(.int (3 : Int32))]))
    obtain ⟨T21, h21, k21, X21, e21, E21, A21, st21⟩ := newP X0 hx hZ (hw _ (List.mem_of_getElem? (i := 1) rfl)) e0 (g := (mkF m 46 #[.val (.int pp), .val (.int pq), .val (.int fl), .val (.int va), .val (.int vb), .val (.int (((8 : Int32) - va) - vb)), .val (.int (1 : Int32)), .unset, .unset, .unset, .unset, .unset, .unset, .unset] [(.int (3 : Int32))])) rfl (hb hby at_46) rfl (by decide) (cap := 3) (by decide) (by decide) (by decide) (by decide)
    obtain ⟨ab, gz21⟩ : ∃ z, z = h0.size := ⟨_, rfl⟩
    have g_ab : n0 ≤ ab := Nat.le_trans Z0 (Nat.le_of_eq gz21.symm)
    rw [← gz21] at A21 st21
    have Z21 := Nat.le_trans Z0 E21.1
    have A_ab : AryI Z h21 ab .int 3 (fun _ => (0 : Int32)) := Ary.new A21 rfl
    refine Go.step st21 ?_
    show Go _ _ _ _ _ _ _ (T21.setTop (mkF m 48 #[.val (.int pp), .val (.int pq), .val (.int fl), .val (.int va), .val (.int vb), .val (.int (((8 : Int32) - va) - vb)), .val (.int (1 : Int32)), .unset, .unset, .unset, .unset, .unset, .unset, .unset] [(.ref ab)]))
    refine Go.step (fun t k => XS.dup X21.here hx rfl (hb hby at_48) rfl rfl k) ?_
    show Go _ _ _ _ _ _ _ (T21.setTop (mkF m 49 #[.val (.int pp), .val (.int pq), .val (.int fl), .val (.int va), .val (.int vb), .val (.int (((8 : Int32) - va) - vb)), .val (.int (1 : Int32)), .unset, .unset, .unset, .unset, .unset, .unset, .unset] [(.ref ab), (.ref ab)]))
    refine Go.step (fun t k => XS.iconst X21.here hx rfl (hb hby at_49) k) ?_
    show Go _ _ _ _ _ _ _ (T21.setTop (mkF m 50 #[.val (.int pp), .val (.int pq), .val (.int fl), .val (.int va), .val (.int vb), .val (.int (((8 : Int32) - va) - vb)), .val (.int (1 : Int32)), .unset, .unset, .unset, .unset, .unset, .unset, .unset] [(.int (0 : Int32)), (.ref ab), (.ref ab)]))
    refine Go.step (fun t k => XS.iconst X21.here hx rfl (hb hby at_50) k) ?_
    show Go _ _ _ _ _ _ _ (T21.setTop (mkF m 51 #[.val (.int pp), .val (.int pq), .val (.int fl), .val (.int va), .val (.int vb), .val (.int (((8 : Int32) - va) - vb)), .val (.int (1 : Int32)), .unset, .unset, .unset, .unset, .unset, .unset, .unset] [(.int (0 : Int32)), (.int (0 : Int32)), (.ref ab), (.ref ab)]))
    obtain ⟨T22, h22, X22, e22, W22, st22⟩ := own_stI X21 hx hZ e21 A_ab 0 rfl (by decide) (f := (mkF m 51 #[.val (.int pp), .val (.int pq), .val (.int fl), .val (.int va), .val (.int vb), .val (.int (((8 : Int32) - va) - vb)), .val (.int (1 : Int32)), .unset, .unset, .unset, .unset, .unset, .unset, .unset] [(.int (0 : Int32)), (.int (0 : Int32)), (.ref ab), (.ref ab)])) rfl rfl (hb hby at_51)
    have Z22 := Nat.le_trans Z21 (Keep.of_wr W22).1
    have N22 := Fr.snoc X22 N0 g_ab
    replace A_ab := A_ab.setI W22
    refine Go.step st22 ?_
    show Go _ _ _ _ _ _ _ (T22.setTop (mkF m 52 #[.val (.int pp), .val (.int pq), .val (.int fl), .val (.int va), .val (.int vb), .val (.int (((8 : Int32) - va) - vb)), .val (.int (1 : Int32)), .unset, .unset, .unset, .unset, .unset, .unset, .unset] [(.ref ab)]))
    refine Go.step (fun t k => XS.dup X22.here hx rfl (hb hby at_52) rfl rfl k) ?_
    show Go _ _ _ _ _ _ _ (T22.setTop (mkF m 53 #[.val (.int pp), .val (.int pq), .val (.int fl), .val (.int va), .val (.int vb), .val (.int (((8 : Int32) - va) - vb)), .val (.int (1 : Int32)), .unset, .unset, .unset, .unset, .unset, .unset, .unset] [(.ref ab), (.ref ab)]))
    refine Go.step (fun t k => XS.iconst X22.here hx rfl (hb hby at_53) k) ?_
    show Go _ _ _ _ _ _ _ (T22.setTop (mkF m 54 #[.val (.int pp), .val (.int pq), .val (.int fl), .val (.int va), .val (.int vb), .val (.int (((8 : Int32) - va) - vb)), .val (.int (1 : Int32)), .unset, .unset, .unset, .unset, .unset, .unset, .unset] [(.int (1 : Int32)), (.ref ab), (.ref ab)]))
    refine Go.step (fun t k => XS.iload X22.here hx rfl (hb hby at_54) rfl k) ?_
    show Go _ _ _ _ _ _ _ (T22.setTop (mkF m 56 #[.val (.int pp), .val (.int pq), .val (.int fl), .val (.int va), .val (.int vb), .val (.int (((8 : Int32) - va) - vb)), .val (.int (1 : Int32)), .unset, .unset, .unset, .unset, .unset, .unset, .unset] [(.int (1 : Int32)), (.int (1 : Int32)), (.ref ab), (.ref ab)]))
    refine Go.step (fun t k => XS.ifNo X22.here hx rfl (hb hby at_56) rfl ((if0 _ _).trans (feq (by decide : ¬ (1 : Int32) = (0 : Int32))).1) k) ?_
    show Go _ _ _ _ _ _ _ (T22.setTop (mkF m 59 #[.val (.int pp), .val (.int pq), .val (.int fl), .val (.int va), .val (.int vb), .val (.int (((8 : Int32) - va) - vb)), .val (.int (1 : Int32)), .unset, .unset, .unset, .unset, .unset, .unset, .unset] [(.int (1 : Int32)), (.ref ab), (.ref ab)]))
    refine Go.step (fun t k => XS.iloadN X22.here hx rfl (hb hby at_59) rfl k) ?_
    show Go _ _ _ _ _ _ _ (T22.setTop (mkF m 60 #[.val (.int pp), .val (.int pq), .val (.int fl), .val (.int va), .val (.int vb), .val (.int (((8 : Int32) - va) - vb)), .val (.int (1 : Int32)), .unset, .unset, .unset, .unset, .unset, .unset, .unset] [(.int va), (.int (1 : Int32)), (.ref ab), (.ref ab)]))
    refine Go.step (fun t k => XS.iload X22.here hx rfl (hb hby at_60) rfl k) ?_
    show Go _ _ _ _ _ _ _ (T22.setTop (mkF m 62 #[.val (.int pp), .val (.int pq), .val (.int fl), .val (.int va), .val (.int vb), .val (.int (((8 : Int32) - va) - vb)), .val (.int (1 : Int32)), .unset, .unset, .unset, .unset, .unset, .unset, .unset] [(.int vb), (.int va), (.int (1 : Int32)), (.ref ab), (.ref ab)]))
    refine Go.step (fun t k => XS.iadd X22.here hx rfl (hb hby at_62) rfl k) ?_
    show Go _ _ _ _ _ _ _ (T22.setTop (mkF m 63 #[.val (.int pp), .val (.int pq), .val (.int fl), .val (.int va), .val (.int vb), .val (.int (((8 : Int32) - va) - vb)), .val (.int (1 : Int32)), .unset, .unset, .unset, .unset, .unset, .unset, .unset] [(.int (va + vb)), (.int (1 : Int32)), (.ref ab), (.ref ab)]))
    refine Go.step (fun t k => XS.goto X22.here hx rfl (pc0 := 63) (pc' := 67) rfl (hb hby at_63) (by decide) (by decide) k) ?_
    show Go _ _ _ _ _ _ _ (T22.setTop (mkF m 67 #[.val (.int pp), .val (.int pq), .val (.int fl), .val (.int va), .val (.int vb), .val (.int (((8 : Int32) - va) - vb)), .val (.int (1 : Int32)), .unset, .unset, .unset, .unset, .unset, .unset, .unset] [(.int (va + vb)), (.int (1 : Int32)), (.ref ab), (.ref ab)]))
    obtain ⟨T23, h23, X23, e23, W23, st23⟩ := own_stI X22 hx hZ e22 A_ab 1 rfl (by decide) (f := (mkF m 67 #[.val (.int pp), .val (.int pq), .val (.int fl), .val (.int va), .val (.int vb), .val (.int (((8 : Int32) - va) - vb)), .val (.int (1 : Int32)), .unset, .unset, .unset, .unset, .unset, .unset, .unset] [(.int (va + vb)), (.int (1 : Int32)), (.ref ab), (.ref ab)])) rfl rfl (hb hby at_67)
    have Z23 := Nat.le_trans Z22 (Keep.of_wr W23).1
    have N23 := Fr.snoc X23 N22 g_ab
    replace A_ab := A_ab.setI W23
    refine Go.step st23 ?_
    show Go _ _ _ _ _ _ _ (T23.setTop (mkF m 68 #[.val (.int pp), .val (.int pq), .val (.int fl), .val (.int va), .val (.int vb), .val (.int (((8 : Int32) - va) - vb)), .val (.int (1 : Int32)), .unset, .unset, .unset, .unset, .unset, .unset, .unset] [(.ref ab)]))
    refine Go.step (fun t k => XS.dup X23.here hx rfl (hb hby at_68) rfl rfl k) ?_
    show Go _ _ _ _ _ _ _ (T23.setTop (mkF m 69 #[.val (.int pp), .val (.int pq), .val (.int fl), .val (.int va), .val (.int vb), .val (.int (((8 : Int32) - va) - vb)), .val (.int (1 : Int32)), .unset, .unset, .unset, .unset, .unset, .unset, .unset] [(.ref ab), (.ref ab)]))
    refine Go.step (fun t k => XS.iconst X23.here hx rfl (hb hby at_69) k) ?_
    show Go _ _ _ _ _ _ _ (T23.setTop (mkF m 70 #[.val (.int pp), .val (.int pq), .val (.int fl), .val (.int va), .val (.int vb), .val (.int (((8 : Int32) - va) - vb)), .val (.int (1 : Int32)), .unset, .unset, .unset, .unset, .unset, .unset, .unset] [(.int (2 : Int32)), (.ref ab), (.ref ab)]))
    refine Go.step (fun t k => XS.bipush X23.here hx rfl (hb hby at_70) k) ?_
    show Go _ _ _ _ _ _ _ (T23.setTop (mkF m 72 #[.val (.int pp), .val (.int pq), .val (.int fl), .val (.int va), .val (.int vb), .val (.int (((8 : Int32) - va) - vb)), .val (.int (1 : Int32)), .unset, .unset, .unset, .unset, .unset, .unset, .unset] [(.int (8 : Int32)), (.int (2 : Int32)), (.ref ab), (.ref ab)]))
    obtain ⟨T24, h24, X24, e24, W24, st24⟩ := own_stI X23 hx hZ e23 A_ab 2 rfl (by decide) (f := (mkF m 72 #[.val (.int pp), .val (.int pq), .val (.int fl), .val (.int va), .val (.int vb), .val (.int (((8 : Int32) - va) - vb)), .val (.int (1 : Int32)), .unset, .unset, .unset, .unset, .unset, .unset, .unset] [(.int (8 : Int32)), (.int (2 : Int32)), (.ref ab), (.ref ab)])) rfl rfl (hb hby at_72)
    have Z24 := Nat.le_trans Z23 (Keep.of_wr W24).1
    have N24 := Fr.snoc X24 N23 g_ab
    replace A_ab := A_ab.setI W24
    refine Go.step st24 ?_
    show Go _ _ _ _ _ _ _ (T24.setTop (mkF m 73 #[.val (.int pp), .val (.int pq), .val (.int fl), .val (.int va), .val (.int vb), .val (.int (((8 : Int32) - va) - vb)), .val (.int (1 : Int32)), .unset, .unset, .unset, .unset, .unset, .unset, .unset] [(.ref ab)]))
    refine Go.step (fun t k => XS.astore X24.here hx rfl (hb hby at_73) rfl rfl (l' := #[.val (.int pp), .val (.int pq), .val (.int fl), .val (.int va), .val (.int vb), .val (.int (((8 : Int32) - va) - vb)), .val (.int (1 : Int32)), .val (.ref ab), .unset, .unset, .unset, .unset, .unset, .unset]) rfl k) ?_
    show Go _ _ _ _ _ _ _ (T24.setTop (mkF m 75 #[.val (.int pp), .val (.int pq), .val (.int fl), .val (.int va), .val (.int vb), .val (.int (((8 : Int32) - va) - vb)), .val (.int (1 : Int32)), .val (.ref ab), .unset, .unset, .unset, .unset, .unset, .unset] []))
    refine Go.step (fun t k => XS.iconst X24.here hx rfl (hb hby at_75) k) ?_
    show Go _ _ _ _ _ _ _ (T24.setTop (mkF m 76 #[.val (.int pp), .val (.int pq), .val (.int fl), .val (.int va), .val (.int vb), .val (.int (((8 : Int32) - va) - vb)), .val (.int (1 : Int32)), .val (.ref ab), .unset, .unset, .unset, .unset, .unset, .unset] [(.int (3 : Int32))]))
    obtain ⟨T25, h25, k25, X25, e25, E25, A25, st25⟩ := newP X24 hx hZ (hw _ (List.mem_of_getElem? (i := 1) rfl)) e24 (g := (mkF m 76 #[.val (.int pp), .val (.int pq), .val (.int fl), .val (.int va), .val (.int vb), .val (.int (((8 : Int32) - va) - vb)), .val (.int (1 : Int32)), .val (.ref ab), .unset, .unset, .unset, .unset, .unset, .unset] [(.int (3 : Int32))])) rfl (hb hby at_76) rfl (by decide) (cap := 3) (by decide) (by decide) (by decide) (by decide)
    obtain ⟨ac, gz25⟩ : ∃ z, z = h24.size := ⟨_, rfl⟩
    have ne_ab_ac : ab ≠ ac := Nat.ne_of_lt (Nat.lt_of_lt_of_le A_ab.lt (Nat.le_of_eq gz25.symm))
    have g_ac : n0 ≤ ac := Nat.le_trans Z24 (Nat.le_of_eq gz25.symm)
    rw [← gz25] at A25 st25
    replace A_ab := A_ab.ext E25
    have Z25 := Nat.le_trans Z24 E25.1
    have A_ac : AryI Z h25 ac .int 3 (fun _ => (0 : Int32)) := Ary.new A25 rfl
    refine Go.step st25 ?_
    show Go _ _ _ _ _ _ _ (T25.setTop (mkF m 78 #[.val (.int pp), .val (.int pq), .val (.int fl), .val (.int va), .val (.int vb), .val (.int (((8 : Int32) - va) - vb)), .val (.int (1 : Int32)), .val (.ref ab), .unset, .unset, .unset, .unset, .unset, .unset] [(.ref ac)]))
    refine Go.step (fun t k => XS.dup X25.here hx rfl (hb hby at_78) rfl rfl k) ?_
    show Go _ _ _ _ _ _ _ (T25.setTop (mkF m 79 #[.val (.int pp), .val (.int pq), .val (.int fl), .val (.int va), .val (.int vb), .val (.int (((8 : Int32) - va) - vb)), .val (.int (1 : Int32)), .val (.ref ab), .unset, .unset, .unset, .unset, .unset, .unset] [(.ref ac), (.ref ac)]))
    refine Go.step (fun t k => XS.iconst X25.here hx rfl (hb hby at_79) k) ?_
    show Go _ _ _ _ _ _ _ (T25.setTop (mkF m 80 #[.val (.int pp), .val (.int pq), .val (.int fl), .val (.int va), .val (.int vb), .val (.int (((8 : Int32) - va) - vb)), .val (.int (1 : Int32)), .val (.ref ab), .unset, .unset, .unset, .unset, .unset, .unset] [(.int (0 : Int32)), (.ref ac), (.ref ac)]))
    refine Go.step (fun t k => XS.iconst X25.here hx rfl (hb hby at_80) k) ?_
    show Go _ _ _ _ _ _ _ (T25.setTop (mkF m 81 #[.val (.int pp), .val (.int pq), .val (.int fl), .val (.int va), .val (.int vb), .val (.int (((8 : Int32) - va) - vb)), .val (.int (1 : Int32)), .val (.ref ab), .unset, .unset, .unset, .unset, .unset, .unset] [(.int (0 : Int32)), (.int (0 : Int32)), (.ref ac), (.ref ac)]))
    obtain ⟨T26, h26, X26, e26, W26, st26⟩ := own_stI X25 hx hZ e25 A_ac 0 rfl (by decide) (f := (mkF m 81 #[.val (.int pp), .val (.int pq), .val (.int fl), .val (.int va), .val (.int vb), .val (.int (((8 : Int32) - va) - vb)), .val (.int (1 : Int32)), .val (.ref ab), .unset, .unset, .unset, .unset, .unset, .unset] [(.int (0 : Int32)), (.int (0 : Int32)), (.ref ac), (.ref ac)])) rfl rfl (hb hby at_81)
    replace A_ab := A_ab.other W26 ne_ab_ac
    have Z26 := Nat.le_trans Z25 (Keep.of_wr W26).1
    have N26 := Fr.snoc X26 N24 g_ac
    replace A_ac := A_ac.setI W26
    refine Go.step st26 ?_
    show Go _ _ _ _ _ _ _ (T26.setTop (mkF m 82 #[.val (.int pp), .val (.int pq), .val (.int fl), .val (.int va), .val (.int vb), .val (.int (((8 : Int32) - va) - vb)), .val (.int (1 : Int32)), .val (.ref ab), .unset, .unset, .unset, .unset, .unset, .unset] [(.ref ac)]))
    refine Go.step (fun t k => XS.dup X26.here hx rfl (hb hby at_82) rfl rfl k) ?_
    show Go _ _ _ _ _ _ _ (T26.setTop (mkF m 83 #[.val (.int pp), .val (.int pq), .val (.int fl), .val (.int va), .val (.int vb), .val (.int (((8 : Int32) - va) - vb)), .val (.int (1 : Int32)), .val (.ref ab), .unset, .unset, .unset, .unset, .unset, .unset] [(.ref ac), (.ref ac)]))
    refine Go.step (fun t k => XS.iconst X26.here hx rfl (hb hby at_83) k) ?_
    show Go _ _ _ _ _ _ _ (T26.setTop (mkF m 84 #[.val (.int pp), .val (.int pq), .val (.int fl), .val (.int va), .val (.int vb), .val (.int (((8 : Int32) - va) - vb)), .val (.int (1 : Int32)), .val (.ref ab), .unset, .unset, .unset, .unset, .unset, .unset] [(.int (1 : Int32)), (.ref ac), (.ref ac)]))
    refine Go.step (fun t k => XS.iload X26.here hx rfl (hb hby at_84) rfl k) ?_
    show Go _ _ _ _ _ _ _ (T26.setTop (mkF m 86 #[.val (.int pp), .val (.int pq), .val (.int fl), .val (.int va), .val (.int vb), .val (.int (((8 : Int32) - va) - vb)), .val (.int (1 : Int32)), .val (.ref ab), .unset, .unset, .unset, .unset, .unset, .unset] [(.int (1 : Int32)), (.int (1 : Int32)), (.ref ac), (.ref ac)]))
    refine Go.step (fun t k => XS.ifNo X26.here hx rfl (hb hby at_86) rfl ((if0 _ _).trans (feq (by decide : ¬ (1 : Int32) = (0 : Int32))).1) k) ?_
    show Go _ _ _ _ _ _ _ (T26.setTop (mkF m 89 #[.val (.int pp), .val (.int pq), .val (.int fl), .val (.int va), .val (.int vb), .val (.int (((8 : Int32) - va) - vb)), .val (.int (1 : Int32)), .val (.ref ab), .unset, .unset, .unset, .unset, .unset, .unset] [(.int (1 : Int32)), (.ref ac), (.ref ac)]))
    refine Go.step (fun t k => XS.iconst X26.here hx rfl (hb hby at_89) k) ?_
    show Go _ _ _ _ _ _ _ (T26.setTop (mkF m 90 #[.val (.int pp), .val (.int pq), .val (.int fl), .val (.int va), .val (.int vb), .val (.int (((8 : Int32) - va) - vb)), .val (.int (1 : Int32)), .val (.ref ab), .unset, .unset, .unset, .unset, .unset, .unset] [(.int (2 : Int32)), (.int (1 : Int32)), (.ref ac), (.ref ac)]))
    refine Go.step (fun t k => XS.goto X26.here hx rfl (pc0 := 90) (pc' := 94) rfl (hb hby at_90) (by decide) (by decide) k) ?_
    show Go _ _ _ _ _ _ _ (T26.setTop (mkF m 94 #[.val (.int pp), .val (.int pq), .val (.int fl), .val (.int va), .val (.int vb), .val (.int (((8 : Int32) - va) - vb)), .val (.int (1 : Int32)), .val (.ref ab), .unset, .unset, .unset, .unset, .unset, .unset] [(.int (2 : Int32)), (.int (1 : Int32)), (.ref ac), (.ref ac)]))
    obtain ⟨T27, h27, X27, e27, W27, st27⟩ := own_stI X26 hx hZ e26 A_ac 1 rfl (by decide) (f := (mkF m 94 #[.val (.int pp), .val (.int pq), .val (.int fl), .val (.int va), .val (.int vb), .val (.int (((8 : Int32) - va) - vb)), .val (.int (1 : Int32)), .val (.ref ab), .unset, .unset, .unset, .unset, .unset, .unset] [(.int (2 : Int32)), (.int (1 : Int32)), (.ref ac), (.ref ac)])) rfl rfl (hb hby at_94)
    replace A_ab := A_ab.other W27 ne_ab_ac
    have Z27 := Nat.le_trans Z26 (Keep.of_wr W27).1
    have N27 := Fr.snoc X27 N26 g_ac
    replace A_ac := A_ac.setI W27
    refine Go.step st27 ?_
    show Go _ _ _ _ _ _ _ (T27.setTop (mkF m 95 #[.val (.int pp), .val (.int pq), .val (.int fl), .val (.int va), .val (.int vb), .val (.int (((8 : Int32) - va) - vb)), .val (.int (1 : Int32)), .val (.ref ab), .unset, .unset, .unset, .unset, .unset, .unset] [(.ref ac)]))
    refine Go.step (fun t k => XS.dup X27.here hx rfl (hb hby at_95) rfl rfl k) ?_
    show Go _ _ _ _ _ _ _ (T27.setTop (mkF m 96 #[.val (.int pp), .val (.int pq), .val (.int fl), .val (.int va), .val (.int vb), .val (.int (((8 : Int32) - va) - vb)), .val (.int (1 : Int32)), .val (.ref ab), .unset, .unset, .unset, .unset, .unset, .unset] [(.ref ac), (.ref ac)]))
    refine Go.step (fun t k => XS.iconst X27.here hx rfl (hb hby at_96) k) ?_
    show Go _ _ _ _ _ _ _ (T27.setTop (mkF m 97 #[.val (.int pp), .val (.int pq), .val (.int fl), .val (.int va), .val (.int vb), .val (.int (((8 : Int32) - va) - vb)), .val (.int (1 : Int32)), .val (.ref ab), .unset, .unset, .unset, .unset, .unset, .unset] [(.int (2 : Int32)), (.ref ac), (.ref ac)]))
    refine Go.step (fun t k => XS.iconst X27.here hx rfl (hb hby at_97) k) ?_
    show Go _ _ _ _ _ _ _ (T27.setTop (mkF m 98 #[.val (.int pp), .val (.int pq), .val (.int fl), .val (.int va), .val (.int vb), .val (.int (((8 : Int32) - va) - vb)), .val (.int (1 : Int32)), .val (.ref ab), .unset, .unset, .unset, .unset, .unset, .unset] [(.int (3 : Int32)), (.int (2 : Int32)), (.ref ac), (.ref ac)]))
    obtain ⟨T28, h28, X28, e28, W28, st28⟩ := own_stI X27 hx hZ e27 A_ac 2 rfl (by decide) (f := (mkF m 98 #[.val (.int pp), .val (.int pq), .val (.int fl), .val (.int va), .val (.int vb), .val (.int (((8 : Int32) - va) - vb)), .val (.int (1 : Int32)), .val (.ref ab), .unset, .unset, .unset, .unset, .unset, .unset] [(.int (3 : Int32)), (.int (2 : Int32)), (.ref ac), (.ref ac)])) rfl rfl (hb hby at_98)
    replace A_ab := A_ab.other W28 ne_ab_ac
    have Z28 := Nat.le_trans Z27 (Keep.of_wr W28).1
    have N28 := Fr.snoc X28 N27 g_ac
    replace A_ac := A_ac.setI W28
    refine Go.step st28 ?_
    show Go _ _ _ _ _ _ _ (T28.setTop (mkF m 99 #[.val (.int pp), .val (.int pq), .val (.int fl), .val (.int va), .val (.int vb), .val (.int (((8 : Int32) - va) - vb)), .val (.int (1 : Int32)), .val (.ref ab), .unset, .unset, .unset, .unset, .unset, .unset] [(.ref ac)]))
    refine Go.step (fun t k => XS.astore X28.here hx rfl (hb hby at_99) rfl rfl (l' := #[.val (.int pp), .val (.int pq), .val (.int fl), .val (.int va), .val (.int vb), .val (.int (((8 : Int32) - va) - vb)), .val (.int (1 : Int32)), .val (.ref ab), .val (.ref ac), .unset, .unset, .unset, .unset, .unset]) rfl k) ?_
    show Go _ _ _ _ _ _ _ (T28.setTop (mkF m 101 #[.val (.int pp), .val (.int pq), .val (.int fl), .val (.int va), .val (.int vb), .val (.int (((8 : Int32) - va) - vb)), .val (.int (1 : Int32)), .val (.ref ab), .val (.ref ac), .unset, .unset, .unset, .unset, .unset] []))
    refine Go.step (fun t k => XS.iconst X28.here hx rfl (hb hby at_101) k) ?_
    show Go _ _ _ _ _ _ _ (T28.setTop (mkF m 102 #[.val (.int pp), .val (.int pq), .val (.int fl), .val (.int va), .val (.int vb), .val (.int (((8 : Int32) - va) - vb)), .val (.int (1 : Int32)), .val (.ref ab), .val (.ref ac), .unset, .unset, .unset, .unset, .unset] [(.int (3 : Int32))]))
    obtain ⟨T29, h29, k29, X29, e29, E29, A29, st29⟩ := newP X28 hx hZ (hw _ (List.mem_of_getElem? (i := 1) rfl)) e28 (g := (mkF m 102 #[.val (.int pp), .val (.int pq), .val (.int fl), .val (.int va), .val (.int vb), .val (.int (((8 : Int32) - va) - vb)), .val (.int (1 : Int32)), .val (.ref ab), .val (.ref ac), .unset, .unset, .unset, .unset, .unset] [(.int (3 : Int32))])) rfl (hb hby at_102) rfl (by decide) (cap := 3) (by decide) (by decide) (by decide) (by decide)
    obtain ⟨ad, gz29⟩ : ∃ z, z = h28.size := ⟨_, rfl⟩
    have ne_ab_ad : ab ≠ ad := Nat.ne_of_lt (Nat.lt_of_lt_of_le A_ab.lt (Nat.le_of_eq gz29.symm))
    have ne_ac_ad : ac ≠ ad := Nat.ne_of_lt (Nat.lt_of_lt_of_le A_ac.lt (Nat.le_of_eq gz29.symm))
    have g_ad : n0 ≤ ad := Nat.le_trans Z28 (Nat.le_of_eq gz29.symm)
    rw [← gz29] at A29 st29
    replace A_ab := A_ab.ext E29
    replace A_ac := A_ac.ext E29
    have Z29 := Nat.le_trans Z28 E29.1
    have A_ad : AryI Z h29 ad .int 3 (fun _ => (0 : Int32)) := Ary.new A29 rfl
    refine Go.step st29 ?_
    show Go _ _ _ _ _ _ _ (T29.setTop (mkF m 104 #[.val (.int pp), .val (.int pq), .val (.int fl), .val (.int va), .val (.int vb), .val (.int (((8 : Int32) - va) - vb)), .val (.int (1 : Int32)), .val (.ref ab), .val (.ref ac), .unset, .unset, .unset, .unset, .unset] [(.ref ad)]))
    refine Go.step (fun t k => XS.dup X29.here hx rfl (hb hby at_104) rfl rfl k) ?_
    show Go _ _ _ _ _ _ _ (T29.setTop (mkF m 105 #[.val (.int pp), .val (.int pq), .val (.int fl), .val (.int va), .val (.int vb), .val (.int (((8 : Int32) - va) - vb)), .val (.int (1 : Int32)), .val (.ref ab), .val (.ref ac), .unset, .unset, .unset, .unset, .unset] [(.ref ad), (.ref ad)]))
    refine Go.step (fun t k => XS.iconst X29.here hx rfl (hb hby at_105) k) ?_
    show Go _ _ _ _ _ _ _ (T29.setTop (mkF m 106 #[.val (.int pp), .val (.int pq), .val (.int fl), .val (.int va), .val (.int vb), .val (.int (((8 : Int32) - va) - vb)), .val (.int (1 : Int32)), .val (.ref ab), .val (.ref ac), .unset, .unset, .unset, .unset, .unset] [(.int (0 : Int32)), (.ref ad), (.ref ad)]))
    refine Go.step (fun t k => XS.iconst X29.here hx rfl (hb hby at_106) k) ?_
    show Go _ _ _ _ _ _ _ (T29.setTop (mkF m 107 #[.val (.int pp), .val (.int pq), .val (.int fl), .val (.int va), .val (.int vb), .val (.int (((8 : Int32) - va) - vb)), .val (.int (1 : Int32)), .val (.ref ab), .val (.ref ac), .unset, .unset, .unset, .unset, .unset] [(.int (0 : Int32)), (.int (0 : Int32)), (.ref ad), (.ref ad)]))
    obtain ⟨T30, h30, X30, e30, W30, st30⟩ := own_stI X29 hx hZ e29 A_ad 0 rfl (by decide) (f := (mkF m 107 #[.val (.int pp), .val (.int pq), .val (.int fl), .val (.int va), .val (.int vb), .val (.int (((8 : Int32) - va) - vb)), .val (.int (1 : Int32)), .val (.ref ab), .val (.ref ac), .unset, .unset, .unset, .unset, .unset] [(.int (0 : Int32)), (.int (0 : Int32)), (.ref ad), (.ref ad)])) rfl rfl (hb hby at_107)
    replace A_ab := A_ab.other W30 ne_ab_ad
    replace A_ac := A_ac.other W30 ne_ac_ad
    have Z30 := Nat.le_trans Z29 (Keep.of_wr W30).1
    have N30 := Fr.snoc X30 N28 g_ad
    replace A_ad := A_ad.setI W30
    refine Go.step st30 ?_
    show Go _ _ _ _ _ _ _ (T30.setTop (mkF m 108 #[.val (.int pp), .val (.int pq), .val (.int fl), .val (.int va), .val (.int vb), .val (.int (((8 : Int32) - va) - vb)), .val (.int (1 : Int32)), .val (.ref ab), .val (.ref ac), .unset, .unset, .unset, .unset, .unset] [(.ref ad)]))
    refine Go.step (fun t k => XS.dup X30.here hx rfl (hb hby at_108) rfl rfl k) ?_
    show Go _ _ _ _ _ _ _ (T30.setTop (mkF m 109 #[.val (.int pp), .val (.int pq), .val (.int fl), .val (.int va), .val (.int vb), .val (.int (((8 : Int32) - va) - vb)), .val (.int (1 : Int32)), .val (.ref ab), .val (.ref ac), .unset, .unset, .unset, .unset, .unset] [(.ref ad), (.ref ad)]))
    refine Go.step (fun t k => XS.iconst X30.here hx rfl (hb hby at_109) k) ?_
    show Go _ _ _ _ _ _ _ (T30.setTop (mkF m 110 #[.val (.int pp), .val (.int pq), .val (.int fl), .val (.int va), .val (.int vb), .val (.int (((8 : Int32) - va) - vb)), .val (.int (1 : Int32)), .val (.ref ab), .val (.ref ac), .unset, .unset, .unset, .unset, .unset] [(.int (1 : Int32)), (.ref ad), (.ref ad)]))
    refine Go.step (fun t k => XS.iloadN X30.here hx rfl (hb hby at_110) rfl k) ?_
    show Go _ _ _ _ _ _ _ (T30.setTop (mkF m 111 #[.val (.int pp), .val (.int pq), .val (.int fl), .val (.int va), .val (.int vb), .val (.int (((8 : Int32) - va) - vb)), .val (.int (1 : Int32)), .val (.ref ab), .val (.ref ac), .unset, .unset, .unset, .unset, .unset] [(.int va), (.int (1 : Int32)), (.ref ad), (.ref ad)]))
    obtain ⟨T31, h31, X31, e31, W31, st31⟩ := own_stI X30 hx hZ e30 A_ad 1 rfl (by decide) (f := (mkF m 111 #[.val (.int pp), .val (.int pq), .val (.int fl), .val (.int va), .val (.int vb), .val (.int (((8 : Int32) - va) - vb)), .val (.int (1 : Int32)), .val (.ref ab), .val (.ref ac), .unset, .unset, .unset, .unset, .unset] [(.int va), (.int (1 : Int32)), (.ref ad), (.ref ad)])) rfl rfl (hb hby at_111)
    replace A_ab := A_ab.other W31 ne_ab_ad
    replace A_ac := A_ac.other W31 ne_ac_ad
    have Z31 := Nat.le_trans Z30 (Keep.of_wr W31).1
    have N31 := Fr.snoc X31 N30 g_ad
    replace A_ad := A_ad.setI W31
    refine Go.step st31 ?_
    show Go _ _ _ _ _ _ _ (T31.setTop (mkF m 112 #[.val (.int pp), .val (.int pq), .val (.int fl), .val (.int va), .val (.int vb), .val (.int (((8 : Int32) - va) - vb)), .val (.int (1 : Int32)), .val (.ref ab), .val (.ref ac), .unset, .unset, .unset, .unset, .unset] [(.ref ad)]))
    refine Go.step (fun t k => XS.dup X31.here hx rfl (hb hby at_112) rfl rfl k) ?_
    show Go _ _ _ _ _ _ _ (T31.setTop (mkF m 113 #[.val (.int pp), .val (.int pq), .val (.int fl), .val (.int va), .val (.int vb), .val (.int (((8 : Int32) - va) - vb)), .val (.int (1 : Int32)), .val (.ref ab), .val (.ref ac), .unset, .unset, .unset, .unset, .unset] [(.ref ad), (.ref ad)]))
    refine Go.step (fun t k => XS.iconst X31.here hx rfl (hb hby at_113) k) ?_
    show Go _ _ _ _ _ _ _ (T31.setTop (mkF m 114 #[.val (.int pp), .val (.int pq), .val (.int fl), .val (.int va), .val (.int vb), .val (.int (((8 : Int32) - va) - vb)), .val (.int (1 : Int32)), .val (.ref ab), .val (.ref ac), .unset, .unset, .unset, .unset, .unset] [(.int (2 : Int32)), (.ref ad), (.ref ad)]))
    refine Go.step (fun t k => XS.iloadN X31.here hx rfl (hb hby at_114) rfl k) ?_
    show Go _ _ _ _ _ _ _ (T31.setTop (mkF m 115 #[.val (.int pp), .val (.int pq), .val (.int fl), .val (.int va), .val (.int vb), .val (.int (((8 : Int32) - va) - vb)), .val (.int (1 : Int32)), .val (.ref ab), .val (.ref ac), .unset, .unset, .unset, .unset, .unset] [(.int va), (.int (2 : Int32)), (.ref ad), (.ref ad)]))
    refine Go.step (fun t k => XS.iload X31.here hx rfl (hb hby at_115) rfl k) ?_
    show Go _ _ _ _ _ _ _ (T31.setTop (mkF m 117 #[.val (.int pp), .val (.int pq), .val (.int fl), .val (.int va), .val (.int vb), .val (.int (((8 : Int32) - va) - vb)), .val (.int (1 : Int32)), .val (.ref ab), .val (.ref ac), .unset, .unset, .unset, .unset, .unset] [(.int vb), (.int va), (.int (2 : Int32)), (.ref ad), (.ref ad)]))
    refine Go.step (fun t k => XS.iadd X31.here hx rfl (hb hby at_117) rfl k) ?_
    show Go _ _ _ _ _ _ _ (T31.setTop (mkF m 118 #[.val (.int pp), .val (.int pq), .val (.int fl), .val (.int va), .val (.int vb), .val (.int (((8 : Int32) - va) - vb)), .val (.int (1 : Int32)), .val (.ref ab), .val (.ref ac), .unset, .unset, .unset, .unset, .unset] [(.int (va + vb)), (.int (2 : Int32)), (.ref ad), (.ref ad)]))
    obtain ⟨T32, h32, X32, e32, W32, st32⟩ := own_stI X31 hx hZ e31 A_ad 2 rfl (by decide) (f := (mkF m 118 #[.val (.int pp), .val (.int pq), .val (.int fl), .val (.int va), .val (.int vb), .val (.int (((8 : Int32) - va) - vb)), .val (.int (1 : Int32)), .val (.ref ab), .val (.ref ac), .unset, .unset, .unset, .unset, .unset] [(.int (va + vb)), (.int (2 : Int32)), (.ref ad), (.ref ad)])) rfl rfl (hb hby at_118)
    replace A_ab := A_ab.other W32 ne_ab_ad
    replace A_ac := A_ac.other W32 ne_ac_ad
    have Z32 := Nat.le_trans Z31 (Keep.of_wr W32).1
    have N32 := Fr.snoc X32 N31 g_ad
    replace A_ad := A_ad.setI W32
    refine Go.step st32 ?_
    show Go _ _ _ _ _ _ _ (T32.setTop (mkF m 119 #[.val (.int pp), .val (.int pq), .val (.int fl), .val (.int va), .val (.int vb), .val (.int (((8 : Int32) - va) - vb)), .val (.int (1 : Int32)), .val (.ref ab), .val (.ref ac), .unset, .unset, .unset, .unset, .unset] [(.ref ad)]))
    refine Go.step (fun t k => XS.astore X32.here hx rfl (hb hby at_119) rfl rfl (l' := #[.val (.int pp), .val (.int pq), .val (.int fl), .val (.int va), .val (.int vb), .val (.int (((8 : Int32) - va) - vb)), .val (.int (1 : Int32)), .val (.ref ab), .val (.ref ac), .val (.ref ad), .unset, .unset, .unset, .unset]) rfl k) ?_
    show Go _ _ _ _ _ _ _ (T32.setTop (mkF m 121 #[.val (.int pp), .val (.int pq), .val (.int fl), .val (.int va), .val (.int vb), .val (.int (((8 : Int32) - va) - vb)), .val (.int (1 : Int32)), .val (.ref ab), .val (.ref ac), .val (.ref ad), .unset, .unset, .unset, .unset] []))
    refine Go.step (fun t k => XS.bipush X32.here hx rfl (hb hby at_121) k) ?_
    show Go _ _ _ _ _ _ _ (T32.setTop (mkF m 123 #[.val (.int pp), .val (.int pq), .val (.int fl), .val (.int va), .val (.int vb), .val (.int (((8 : Int32) - va) - vb)), .val (.int (1 : Int32)), .val (.ref ab), .val (.ref ac), .val (.ref ad), .unset, .unset, .unset, .unset] [(.int (8 : Int32))]))
    obtain ⟨T33, h33, k33, X33, e33, E33, A33, st33⟩ := newP X32 hx hZ (hw _ (List.mem_of_getElem? (i := 1) rfl)) e32 (g := (mkF m 123 #[.val (.int pp), .val (.int pq), .val (.int fl), .val (.int va), .val (.int vb), .val (.int (((8 : Int32) - va) - vb)), .val (.int (1 : Int32)), .val (.ref ab), .val (.ref ac), .val (.ref ad), .unset, .unset, .unset, .unset] [(.int (8 : Int32))])) rfl (hb hby at_123) rfl (by decide) (cap := 8) (by decide) (by decide) (by decide) (by decide)
    obtain ⟨ae, gz33⟩ : ∃ z, z = h32.size := ⟨_, rfl⟩
    have ne_ab_ae : ab ≠ ae := Nat.ne_of_lt (Nat.lt_of_lt_of_le A_ab.lt (Nat.le_of_eq gz33.symm))
    have ne_ac_ae : ac ≠ ae := Nat.ne_of_lt (Nat.lt_of_lt_of_le A_ac.lt (Nat.le_of_eq gz33.symm))
    have ne_ad_ae : ad ≠ ae := Nat.ne_of_lt (Nat.lt_of_lt_of_le A_ad.lt (Nat.le_of_eq gz33.symm))
    have g_ae : n0 ≤ ae := Nat.le_trans Z32 (Nat.le_of_eq gz33.symm)
    rw [← gz33] at A33 st33
    replace A_ab := A_ab.ext E33
    replace A_ac := A_ac.ext E33
    replace A_ad := A_ad.ext E33
    have Z33 := Nat.le_trans Z32 E33.1
    have A_ae : AryI Z h33 ae .int 8 (fun _ => (0 : Int32)) := Ary.new A33 rfl
    refine Go.step st33 ?_
    show Go _ _ _ _ _ _ _ (T33.setTop (mkF m 125 #[.val (.int pp), .val (.int pq), .val (.int fl), .val (.int va), .val (.int vb), .val (.int (((8 : Int32) - va) - vb)), .val (.int (1 : Int32)), .val (.ref ab), .val (.ref ac), .val (.ref ad), .unset, .unset, .unset, .unset] [(.ref ae)]))
    refine Go.step (fun t k => XS.astore X33.here hx rfl (hb hby at_125) rfl rfl (l' := #[.val (.int pp), .val (.int pq), .val (.int fl), .val (.int va), .val (.int vb), .val (.int (((8 : Int32) - va) - vb)), .val (.int (1 : Int32)), .val (.ref ab), .val (.ref ac), .val (.ref ad), .val (.ref ae), .unset, .unset, .unset]) rfl k) ?_
    show Go _ _ _ _ _ _ _ (T33.setTop (mkF m 127 #[.val (.int pp), .val (.int pq), .val (.int fl), .val (.int va), .val (.int vb), .val (.int (((8 : Int32) - va) - vb)), .val (.int (1 : Int32)), .val (.ref ab), .val (.ref ac), .val (.ref ad), .val (.ref ae), .unset, .unset, .unset] []))
    refine Go.step (fun t k => XS.iconst X33.here hx rfl (hb hby at_127) k) ?_
    show Go _ _ _ _ _ _ _ (T33.setTop (mkF m 128 #[.val (.int pp), .val (.int pq), .val (.int fl), .val (.int va), .val (.int vb), .val (.int (((8 : Int32) - va) - vb)), .val (.int (1 : Int32)), .val (.ref ab), .val (.ref ac), .val (.ref ad), .val (.ref ae), .unset, .unset, .unset] [(.int (3 : Int32))]))
    obtain ⟨T34, h34, k34, X34, e34, E34, A34, st34⟩ := newP X33 hx hZ (hw _ (List.mem_of_getElem? (i := 2) rfl)) e33 (g := (mkF m 128 #[.val (.int pp), .val (.int pq), .val (.int fl), .val (.int va), .val (.int vb), .val (.int (((8 : Int32) - va) - vb)), .val (.int (1 : Int32)), .val (.ref ab), .val (.ref ac), .val (.ref ad), .val (.ref ae), .unset, .unset, .unset] [(.int (3 : Int32))])) rfl (hb hby at_128) rfl (by decide) (cap := 3) (by decide) (by decide) (by decide) (by decide)
    obtain ⟨af, gz34⟩ : ∃ z, z = h33.size := ⟨_, rfl⟩
    have ne_ab_af : ab ≠ af := Nat.ne_of_lt (Nat.lt_of_lt_of_le A_ab.lt (Nat.le_of_eq gz34.symm))
    have ne_ac_af : ac ≠ af := Nat.ne_of_lt (Nat.lt_of_lt_of_le A_ac.lt (Nat.le_of_eq gz34.symm))
    have ne_ad_af : ad ≠ af := Nat.ne_of_lt (Nat.lt_of_lt_of_le A_ad.lt (Nat.le_of_eq gz34.symm))
    have ne_ae_af : ae ≠ af := Nat.ne_of_lt (Nat.lt_of_lt_of_le A_ae.lt (Nat.le_of_eq gz34.symm))
    have g_af : n0 ≤ af := Nat.le_trans Z33 (Nat.le_of_eq gz34.symm)
    rw [← gz34] at A34 st34
    replace A_ab := A_ab.ext E34
    replace A_ac := A_ac.ext E34
    replace A_ad := A_ad.ext E34
    replace A_ae := A_ae.ext E34
    have Z34 := Nat.le_trans Z33 E34.1
    have A_af : AryJ Z h34 af 3 (fun _ => (0 : Int64)) := Ary.new A34 rfl
    refine Go.step st34 ?_
    show Go _ _ _ _ _ _ _ (T34.setTop (mkF m 130 #[.val (.int pp), .val (.int pq), .val (.int fl), .val (.int va), .val (.int vb), .val (.int (((8 : Int32) - va) - vb)), .val (.int (1 : Int32)), .val (.ref ab), .val (.ref ac), .val (.ref ad), .val (.ref ae), .unset, .unset, .unset] [(.ref af)]))
    refine Go.step (fun t k => XS.astore X34.here hx rfl (hb hby at_130) rfl rfl (l' := #[.val (.int pp), .val (.int pq), .val (.int fl), .val (.int va), .val (.int vb), .val (.int (((8 : Int32) - va) - vb)), .val (.int (1 : Int32)), .val (.ref ab), .val (.ref ac), .val (.ref ad), .val (.ref ae), .val (.ref af), .unset, .unset]) rfl k) ?_
    show Go _ _ _ _ _ _ _ (T34.setTop (mkF m 132 #[.val (.int pp), .val (.int pq), .val (.int fl), .val (.int va), .val (.int vb), .val (.int (((8 : Int32) - va) - vb)), .val (.int (1 : Int32)), .val (.ref ab), .val (.ref ac), .val (.ref ad), .val (.ref ae), .val (.ref af), .unset, .unset] []))
    obtain ⟨T35, h35, X35, e35, E35, A35, D35, -, st35⟩ := newO X34 hx hZ hown (hw _ (List.mem_of_getElem? (i := 3) rfl)) (hw _ (List.mem_of_getElem? (i := 4) rfl)) (hw _ (List.mem_of_getElem? (i := 5) rfl)) e34 (g := (mkF m 132 #[.val (.int pp), .val (.int pq), .val (.int fl), .val (.int va), .val (.int vb), .val (.int (((8 : Int32) - va) - vb)), .val (.int (1 : Int32)), .val (.ref ab), .val (.ref ac), .val (.ref ad), .val (.ref ae), .val (.ref af), .unset, .unset] [])) rfl (hb hby at_132) (by decide) (by decide)
    obtain ⟨ag, gz35⟩ : ∃ z, z = h34.size := ⟨_, rfl⟩
    have ne_ab_ag : ab ≠ ag := Nat.ne_of_lt (Nat.lt_of_lt_of_le A_ab.lt (Nat.le_of_eq gz35.symm))
    have ne_ac_ag : ac ≠ ag := Nat.ne_of_lt (Nat.lt_of_lt_of_le A_ac.lt (Nat.le_of_eq gz35.symm))
    have ne_ad_ag : ad ≠ ag := Nat.ne_of_lt (Nat.lt_of_lt_of_le A_ad.lt (Nat.le_of_eq gz35.symm))
    have ne_ae_ag : ae ≠ ag := Nat.ne_of_lt (Nat.lt_of_lt_of_le A_ae.lt (Nat.le_of_eq gz35.symm))
    have ne_af_ag : af ≠ ag := Nat.ne_of_lt (Nat.lt_of_lt_of_le A_af.lt (Nat.le_of_eq gz35.symm))
    have g_ag : n0 ≤ ag := Nat.le_trans Z34 (Nat.le_of_eq gz35.symm)
    rw [← gz35] at A35 D35 st35
    replace A_ab := A_ab.ext E35
    replace A_ac := A_ac.ext E35
    replace A_ad := A_ad.ext E35
    replace A_ae := A_ae.ext E35
    replace A_af := A_af.ext E35
    have Z35 := Nat.le_trans Z34 E35.1
    have E_ag := A35
    have F_starts_ag : Fld Z h35 ag "com/example/ferrylog/ferrylog/store/LiveIndex$Recent" "starts" "[I" .null := D35 (Or.inr (hw _ (List.mem_of_getElem? (i := 18) rfl))) (ty := (.array .int)) (by decide)
    have F_positions_ag : Fld Z h35 ag "com/example/ferrylog/ferrylog/store/LiveIndex$Recent" "positions" "[I" .null := D35 (Or.inr (hw _ (List.mem_of_getElem? (i := 20) rfl))) (ty := (.array .int)) (by decide)
    have F_runStarts_ag : Fld Z h35 ag "com/example/ferrylog/ferrylog/store/LiveIndex$Recent" "runStarts" "[I" .null := D35 (Or.inr (hw _ (List.mem_of_getElem? (i := 22) rfl))) (ty := (.array .int)) (by decide)
    have F_firsts_ag : Fld Z h35 ag "com/example/ferrylog/ferrylog/store/LiveIndex$Recent" "firsts" "[J" .null := D35 (Or.inr (hw _ (List.mem_of_getElem? (i := 24) rfl))) (ty := (.array .long)) (by decide)
    have F_runAt_ag : Fld Z h35 ag "com/example/ferrylog/ferrylog/store/LiveIndex$Recent" "runAt" "[I" .null := D35 (Or.inr (hw _ (List.mem_of_getElem? (i := 26) rfl))) (ty := (.array .int)) (by decide)
    refine Go.step st35 ?_
    show Go _ _ _ _ _ _ _ (T35.setTop (mkF m 135 #[.val (.int pp), .val (.int pq), .val (.int fl), .val (.int va), .val (.int vb), .val (.int (((8 : Int32) - va) - vb)), .val (.int (1 : Int32)), .val (.ref ab), .val (.ref ac), .val (.ref ad), .val (.ref ae), .val (.ref af), .unset, .unset] [(.ref ag)]))
    refine Go.step (fun t k => XS.dup X35.here hx rfl (hb hby at_135) rfl rfl k) ?_
    show Go _ _ _ _ _ _ _ (T35.setTop (mkF m 136 #[.val (.int pp), .val (.int pq), .val (.int fl), .val (.int va), .val (.int vb), .val (.int (((8 : Int32) - va) - vb)), .val (.int (1 : Int32)), .val (.ref ab), .val (.ref ac), .val (.ref ad), .val (.ref ae), .val (.ref af), .unset, .unset] [(.ref ag), (.ref ag)]))
    refine Go.step (fun t k => XS.aload X35.here hx rfl (hb hby at_136) rfl rfl k) ?_
    show Go _ _ _ _ _ _ _ (T35.setTop (mkF m 138 #[.val (.int pp), .val (.int pq), .val (.int fl), .val (.int va), .val (.int vb), .val (.int (((8 : Int32) - va) - vb)), .val (.int (1 : Int32)), .val (.ref ab), .val (.ref ac), .val (.ref ad), .val (.ref ae), .val (.ref af), .unset, .unset] [(.ref ab), (.ref ag), (.ref ag)]))
    refine Go.step (fun t k => XS.aload X35.here hx rfl (hb hby at_138) rfl rfl k) ?_
    show Go _ _ _ _ _ _ _ (T35.setTop (mkF m 140 #[.val (.int pp), .val (.int pq), .val (.int fl), .val (.int va), .val (.int vb), .val (.int (((8 : Int32) - va) - vb)), .val (.int (1 : Int32)), .val (.ref ab), .val (.ref ac), .val (.ref ad), .val (.ref ae), .val (.ref af), .unset, .unset] [(.ref ae), (.ref ab), (.ref ag), (.ref ag)]))
    refine Go.step (fun t k => XS.aload X35.here hx rfl (hb hby at_140) rfl rfl k) ?_
    show Go _ _ _ _ _ _ _ (T35.setTop (mkF m 142 #[.val (.int pp), .val (.int pq), .val (.int fl), .val (.int va), .val (.int vb), .val (.int (((8 : Int32) - va) - vb)), .val (.int (1 : Int32)), .val (.ref ab), .val (.ref ac), .val (.ref ad), .val (.ref ae), .val (.ref af), .unset, .unset] [(.ref ac), (.ref ae), (.ref ab), (.ref ag), (.ref ag)]))
    refine Go.step (fun t k => XS.aload X35.here hx rfl (hb hby at_142) rfl rfl k) ?_
    show Go _ _ _ _ _ _ _ (T35.setTop (mkF m 144 #[.val (.int pp), .val (.int pq), .val (.int fl), .val (.int va), .val (.int vb), .val (.int (((8 : Int32) - va) - vb)), .val (.int (1 : Int32)), .val (.ref ab), .val (.ref ac), .val (.ref ad), .val (.ref ae), .val (.ref af), .unset, .unset] [(.ref af), (.ref ac), (.ref ae), (.ref ab), (.ref ag), (.ref ag)]))
    refine Go.step (fun t k => XS.aload X35.here hx rfl (hb hby at_144) rfl rfl k) ?_
    show Go _ _ _ _ _ _ _ (T35.setTop (mkF m 146 #[.val (.int pp), .val (.int pq), .val (.int fl), .val (.int va), .val (.int vb), .val (.int (((8 : Int32) - va) - vb)), .val (.int (1 : Int32)), .val (.ref ab), .val (.ref ac), .val (.ref ad), .val (.ref ae), .val (.ref af), .unset, .unset] [(.ref ad), (.ref af), (.ref ac), (.ref ae), (.ref ab), (.ref ag), (.ref ag)]))
    obtain ⟨_, _, ⟨T36, L36, k36, n36⟩, -, X36, ⟨Lc36, hQ36, l36, y36, z36⟩, st36⟩ := X35.specialBack hx (y := (⟨"com/example/ferrylog/ferrylog/store/LiveIndex$Recent", "<init>", "([I[I[I[J[I)V"⟩ : MethodName)) rfl hown (mvT hZ (hw _ (List.mem_of_getElem? (i := 6) rfl))) (mvT hZ (hw _ (List.mem_of_getElem? (i := 7) rfl))) (mvT hZ (hw _ (List.mem_of_getElem? (i := 8) rfl))) (by decide) (backOf (W := 1) (rm1 l Z a0 hw [] ag ab ae ac af ad h35 n0 Z35 F_starts_ag F_positions_ag F_runStarts_ag F_firsts_ag F_runAt_ag E_ag g_ag) hZ (hw _ (List.mem_of_getElem? (i := 8) rfl)) (hw _ (List.mem_of_getElem? (i := 5) rfl)) (by decide) (by decide)) (g := (mkF m 146 #[.val (.int pp), .val (.int pq), .val (.int fl), .val (.int va), .val (.int vb), .val (.int (((8 : Int32) - va) - vb)), .val (.int (1 : Int32)), .val (.ref ab), .val (.ref ac), .val (.ref ad), .val (.ref ae), .val (.ref af), .unset, .unset] [(.ref ad), (.ref af), (.ref ac), (.ref ae), (.ref ab), (.ref ag), (.ref ag)])) rfl (by rw [hml]; rfl) (Steps.refl _) (a := ag) (argsL := [(.ref ab), (.ref ae), (.ref ac), (.ref af), (.ref ad)]) (rest := [(.ref ag)]) (lenOf pd_0_0 rfl) rfl (by show 2 * 0 + _ ≤ _; exact Nat.le_of_eq rfl) (hb hby at_146) (fun _ _ => ⟨rfl, e35, (by decide : 6 + 0 ≤ _), (by decide : 25 + 0 ≤ _)⟩)
    dsimp only [Pt.U, Pt.locs, Pt.cells, Pt.slots] at X36 l36 y36 z36 st36 hQ36
    subst l36 y36 z36
    obtain ⟨rfl, N36q, K36q, o36_F_starts_ag, o36_F_positions_ag, o36_F_runStarts_ag, o36_F_firsts_ag, o36_F_runAt_ag⟩ := hQ36
    have N36 := Fr.app N32 N36q
    replace A_ab := A_ab.keep K36q (ninS ne_ab_ag nin0)
    replace A_ac := A_ac.keep K36q (ninS ne_ac_ag nin0)
    replace A_ad := A_ad.keep K36q (ninS ne_ad_ag nin0)
    replace A_ae := A_ae.keep K36q (ninS ne_ae_ag nin0)
    replace A_af := A_af.keep K36q (ninS ne_af_ag nin0)
    replace E_ag := E_ag.keep K36q
    have Z36 := Nat.le_trans Z35 K36q.1
    have F_starts_ag := o36_F_starts_ag
    have F_positions_ag := o36_F_positions_ag
    have F_runStarts_ag := o36_F_runStarts_ag
    have F_firsts_ag := o36_F_firsts_ag
    have F_runAt_ag := o36_F_runAt_ag
    refine Go.step (fun t k => st36.trans k) ?_
    show Go _ _ _ _ _ _ _ (T36.setTop (mkF m 149 #[.val (.int pp), .val (.int pq), .val (.int fl), .val (.int va), .val (.int vb), .val (.int (((8 : Int32) - va) - vb)), .val (.int (1 : Int32)), .val (.ref ab), .val (.ref ac), .val (.ref ad), .val (.ref ae), .val (.ref af), .unset, .unset] [(.ref ag)]))
    refine Go.step (fun t k => XS.astore X36.here hx rfl (hb hby at_149) rfl rfl (l' := #[.val (.int pp), .val (.int pq), .val (.int fl), .val (.int va), .val (.int vb), .val (.int (((8 : Int32) - va) - vb)), .val (.int (1 : Int32)), .val (.ref ab), .val (.ref ac), .val (.ref ad), .val (.ref ae), .val (.ref af), .val (.ref ag), .unset]) rfl k) ?_
    show Go _ _ _ _ _ _ _ (T36.setTop (mkF m 151 #[.val (.int pp), .val (.int pq), .val (.int fl), .val (.int va), .val (.int vb), .val (.int (((8 : Int32) - va) - vb)), .val (.int (1 : Int32)), .val (.ref ab), .val (.ref ac), .val (.ref ad), .val (.ref ae), .val (.ref af), .val (.ref ag), .unset] []))
    refine Go.step (fun t k => XS.iload X36.here hx rfl (hb hby at_151) rfl k) ?_
    show Go _ _ _ _ _ _ _ (T36.setTop (mkF m 153 #[.val (.int pp), .val (.int pq), .val (.int fl), .val (.int va), .val (.int vb), .val (.int (((8 : Int32) - va) - vb)), .val (.int (1 : Int32)), .val (.ref ab), .val (.ref ac), .val (.ref ad), .val (.ref ae), .val (.ref af), .val (.ref ag), .unset] [(.int (1 : Int32))]))
    refine Go.step (fun t k => XS.ifNo X36.here hx rfl (hb hby at_153) rfl ((if0 _ _).trans (feq (by decide : ¬ (1 : Int32) = (0 : Int32))).1) k) ?_
    show Go _ _ _ _ _ _ _ (T36.setTop (mkF m 156 #[.val (.int pp), .val (.int pq), .val (.int fl), .val (.int va), .val (.int vb), .val (.int (((8 : Int32) - va) - vb)), .val (.int (1 : Int32)), .val (.ref ab), .val (.ref ac), .val (.ref ad), .val (.ref ae), .val (.ref af), .val (.ref ag), .unset] []))
    refine Go.step (fun t k => XS.iconst X36.here hx rfl (hb hby at_156) k) ?_
    show Go _ _ _ _ _ _ _ (T36.setTop (mkF m 157 #[.val (.int pp), .val (.int pq), .val (.int fl), .val (.int va), .val (.int vb), .val (.int (((8 : Int32) - va) - vb)), .val (.int (1 : Int32)), .val (.ref ab), .val (.ref ac), .val (.ref ad), .val (.ref ae), .val (.ref af), .val (.ref ag), .unset] [(.int (0 : Int32))]))
    refine Go.step (fun t k => XS.goto X36.here hx rfl (pc0 := 157) (pc' := 161) rfl (hb hby at_157) (by decide) (by decide) k) ?_
    show Go _ _ _ _ _ _ _ (T36.setTop (mkF m 161 #[.val (.int pp), .val (.int pq), .val (.int fl), .val (.int va), .val (.int vb), .val (.int (((8 : Int32) - va) - vb)), .val (.int (1 : Int32)), .val (.ref ab), .val (.ref ac), .val (.ref ad), .val (.ref ae), .val (.ref af), .val (.ref ag), .unset] [(.int (0 : Int32))]))
    refine Go.step (fun t k => XS.istore X36.here hx rfl (hb hby at_161) rfl (l' := #[.val (.int pp), .val (.int pq), .val (.int fl), .val (.int va), .val (.int vb), .val (.int (((8 : Int32) - va) - vb)), .val (.int (1 : Int32)), .val (.ref ab), .val (.ref ac), .val (.ref ad), .val (.ref ae), .val (.ref af), .val (.ref ag), .val (.int (0 : Int32))]) rfl k) ?_
    show Go _ _ _ _ _ _ _ (T36.setTop (mkF m 163 #[.val (.int pp), .val (.int pq), .val (.int fl), .val (.int va), .val (.int vb), .val (.int (((8 : Int32) - va) - vb)), .val (.int (1 : Int32)), .val (.ref ab), .val (.ref ac), .val (.ref ad), .val (.ref ae), .val (.ref af), .val (.ref ag), .val (.int (0 : Int32))] []))
    refine Go.step (fun t k => XS.aload X36.here hx rfl (hb hby at_163) rfl rfl k) ?_
    show Go _ _ _ _ _ _ _ (T36.setTop (mkF m 165 #[.val (.int pp), .val (.int pq), .val (.int fl), .val (.int va), .val (.int vb), .val (.int (((8 : Int32) - va) - vb)), .val (.int (1 : Int32)), .val (.ref ab), .val (.ref ac), .val (.ref ad), .val (.ref ae), .val (.ref af), .val (.ref ag), .val (.int (0 : Int32))] [(.ref ag)]))
    refine Go.step (fun t k => XS.iconst X36.here hx rfl (hb hby at_165) k) ?_
    show Go _ _ _ _ _ _ _ (T36.setTop (mkF m 166 #[.val (.int pp), .val (.int pq), .val (.int fl), .val (.int va), .val (.int vb), .val (.int (((8 : Int32) - va) - vb)), .val (.int (1 : Int32)), .val (.ref ab), .val (.ref ac), .val (.ref ad), .val (.ref ae), .val (.ref af), .val (.ref ag), .val (.int (0 : Int32))] [(.int (0 : Int32)), (.ref ag)]))
    refine Go.step (fun t k => XS.iconst X36.here hx rfl (hb hby at_166) k) ?_
    show Go _ _ _ _ _ _ _ (T36.setTop (mkF m 167 #[.val (.int pp), .val (.int pq), .val (.int fl), .val (.int va), .val (.int vb), .val (.int (((8 : Int32) - va) - vb)), .val (.int (1 : Int32)), .val (.ref ab), .val (.ref ac), .val (.ref ad), .val (.ref ae), .val (.ref af), .val (.ref ag), .val (.int (0 : Int32))] [(.int (0 : Int32)), (.int (0 : Int32)), (.ref ag)]))
    obtain ⟨cq37, kq37, q37a, q37b, q37c⟩ := isOf hZ rfl E_ag
    obtain ⟨_, _, ⟨T37, L37, k37, n37⟩, -, X37, ⟨Lc37, hQ37, l37, y37, z37⟩, st37⟩ := X36.virtualBack hx (y := (⟨"com/example/ferrylog/ferrylog/store/LiveIndex$Recent", "count", "(II)I"⟩ : MethodName)) (z := (⟨"com/example/ferrylog/ferrylog/store/LiveIndex$Recent", "count", "(II)I"⟩ : MethodName)) hown (mvT hZ (hw _ (List.mem_of_getElem? (i := 27) rfl))) (mvT hZ (hw _ (List.mem_of_getElem? (i := 28) rfl))) (notFace_of_selects (args := #[]) (mvT hZ (hw _ (List.mem_of_getElem? (i := 30) rfl)))) (mvT hZ (hw _ (List.mem_of_getElem? (i := 30) rfl))) (mvT hZ (hw _ (List.mem_of_getElem? (i := 29) rfl))) (by decide) (backOf (W := 0) (rm4 l Z a0 hw [] ag (0 : Int32) (0 : Int32) ab ac ad (up (up (up (fun _ => (0 : Int32)) 0 (0 : Int32)) 1 (va + vb)) 2 (8 : Int32)) (up (up (up (fun _ => (0 : Int32)) 0 (0 : Int32)) 1 (2 : Int32)) 2 (3 : Int32)) (up (up (up (fun _ => (0 : Int32)) 0 (0 : Int32)) 1 va) 2 (va + vb)) 0 0 T36.heap n0 Z36 F_starts_ag F_runStarts_ag F_runAt_ag A_ab A_ac A_ad rfl rfl (by decide) (by decide) (by decide)) hZ (hw _ (List.mem_of_getElem? (i := 31) rfl)) (hw _ (List.mem_of_getElem? (i := 5) rfl)) (by decide) (by decide)) q37a q37c (g := (mkF m 167 #[.val (.int pp), .val (.int pq), .val (.int fl), .val (.int va), .val (.int vb), .val (.int (((8 : Int32) - va) - vb)), .val (.int (1 : Int32)), .val (.ref ab), .val (.ref ac), .val (.ref ad), .val (.ref ae), .val (.ref af), .val (.ref ag), .val (.int (0 : Int32))] [(.int (0 : Int32)), (.int (0 : Int32)), (.ref ag)])) rfl (by rw [hml]; rfl) (Steps.refl _) (argsL := [(.int (0 : Int32)), (.int (0 : Int32))]) (rest := []) (lenOf pd_0_1 rfl) rfl (by show 2 * 0 + _ ≤ _; exact Nat.le_of_eq rfl) (hb hby at_167) (fun _ _ => ⟨rfl, rfl, (by decide : 6 + 0 ≤ _), (by decide : 25 + 0 ≤ _)⟩)
    dsimp only [Pt.U, Pt.locs, Pt.cells, Pt.slots] at X37 l37 y37 z37 st37 hQ37
    subst l37 y37 z37
    obtain ⟨rfl, N37q, K37q⟩ := hQ37
    have N37 := Fr.app N36 N37q
    refine Go.step (fun t k => st37.trans k) ?_
    show Go _ _ _ _ _ _ _ (T37.setTop (mkF m 170 #[.val (.int pp), .val (.int pq), .val (.int fl), .val (.int va), .val (.int vb), .val (.int (((8 : Int32) - va) - vb)), .val (.int (1 : Int32)), .val (.ref ab), .val (.ref ac), .val (.ref ad), .val (.ref ae), .val (.ref af), .val (.ref ag), .val (.int (0 : Int32))] [(.int ((if (1 : Int32) < (up (up (up (fun _ => (0 : Int32)) 0 (0 : Int32)) 1 (2 : Int32)) 2 (3 : Int32)) 1 then (up (up (up (fun _ => (0 : Int32)) 0 (0 : Int32)) 1 va) 2 (va + vb)) 1 else (up (up (up (fun _ => (0 : Int32)) 0 (0 : Int32)) 1 (va + vb)) 2 (8 : Int32)) 1) - (up (up (up (fun _ => (0 : Int32)) 0 (0 : Int32)) 1 va) 2 (va + vb)) 0))]))
    refine Go.step (fun t k => XS.iloadN X37.here hx rfl (hb hby at_170) rfl k) ?_
    show Go _ _ _ _ _ _ _ (T37.setTop (mkF m 171 #[.val (.int pp), .val (.int pq), .val (.int fl), .val (.int va), .val (.int vb), .val (.int (((8 : Int32) - va) - vb)), .val (.int (1 : Int32)), .val (.ref ab), .val (.ref ac), .val (.ref ad), .val (.ref ae), .val (.ref af), .val (.ref ag), .val (.int (0 : Int32))] [(.int va), (.int ((if (1 : Int32) < (up (up (up (fun _ => (0 : Int32)) 0 (0 : Int32)) 1 (2 : Int32)) 2 (3 : Int32)) 1 then (up (up (up (fun _ => (0 : Int32)) 0 (0 : Int32)) 1 va) 2 (va + vb)) 1 else (up (up (up (fun _ => (0 : Int32)) 0 (0 : Int32)) 1 (va + vb)) 2 (8 : Int32)) 1) - (up (up (up (fun _ => (0 : Int32)) 0 (0 : Int32)) 1 va) 2 (va + vb)) 0))]))
    refine Go.step (fun t k => XS.icmpNo X37.here hx rfl (hb hby at_171) rfl (teq (own_z0 va : ((if (1 : Int32) < (up (up (up (fun _ => (0 : Int32)) 0 (0 : Int32)) 1 (2 : Int32)) 2 (3 : Int32)) 1 then (up (up (up (fun _ => (0 : Int32)) 0 (0 : Int32)) 1 va) 2 (va + vb)) 1 else (up (up (up (fun _ => (0 : Int32)) 0 (0 : Int32)) 1 (va + vb)) 2 (8 : Int32)) 1) - (up (up (up (fun _ => (0 : Int32)) 0 (0 : Int32)) 1 va) 2 (va + vb)) 0) = va)).2 k) ?_
    show Go _ _ _ _ _ _ _ (T37.setTop (mkF m 174 #[.val (.int pp), .val (.int pq), .val (.int fl), .val (.int va), .val (.int vb), .val (.int (((8 : Int32) - va) - vb)), .val (.int (1 : Int32)), .val (.ref ab), .val (.ref ac), .val (.ref ad), .val (.ref ae), .val (.ref af), .val (.ref ag), .val (.int (0 : Int32))] []))
    refine Go.step (fun t k => XS.aload X37.here hx rfl (hb hby at_174) rfl rfl k) ?_
    show Go _ _ _ _ _ _ _ (T37.setTop (mkF m 176 #[.val (.int pp), .val (.int pq), .val (.int fl), .val (.int va), .val (.int vb), .val (.int (((8 : Int32) - va) - vb)), .val (.int (1 : Int32)), .val (.ref ab), .val (.ref ac), .val (.ref ad), .val (.ref ae), .val (.ref af), .val (.ref ag), .val (.int (0 : Int32))] [(.ref ag)]))
    refine Go.step (fun t k => XS.iload X37.here hx rfl (hb hby at_176) rfl k) ?_
    show Go _ _ _ _ _ _ _ (T37.setTop (mkF m 178 #[.val (.int pp), .val (.int pq), .val (.int fl), .val (.int va), .val (.int vb), .val (.int (((8 : Int32) - va) - vb)), .val (.int (1 : Int32)), .val (.ref ab), .val (.ref ac), .val (.ref ad), .val (.ref ae), .val (.ref af), .val (.ref ag), .val (.int (0 : Int32))] [(.int (0 : Int32)), (.ref ag)]))
    refine Go.step (fun t k => XS.iconst X37.here hx rfl (hb hby at_178) k) ?_
    show Go _ _ _ _ _ _ _ (T37.setTop (mkF m 179 #[.val (.int pp), .val (.int pq), .val (.int fl), .val (.int va), .val (.int vb), .val (.int (((8 : Int32) - va) - vb)), .val (.int (1 : Int32)), .val (.ref ab), .val (.ref ac), .val (.ref ad), .val (.ref ae), .val (.ref af), .val (.ref ag), .val (.int (0 : Int32))] [(.int (1 : Int32)), (.int (0 : Int32)), (.ref ag)]))
    obtain ⟨cq38, kq38, q38a, q38b, q38c⟩ := isOf hZ K37q E_ag
    obtain ⟨_, _, ⟨T38, L38, k38, n38⟩, -, X38, ⟨Lc38, hQ38, l38, y38, z38⟩, st38⟩ := X37.virtualBack hx (y := (⟨"com/example/ferrylog/ferrylog/store/LiveIndex$Recent", "count", "(II)I"⟩ : MethodName)) (z := (⟨"com/example/ferrylog/ferrylog/store/LiveIndex$Recent", "count", "(II)I"⟩ : MethodName)) hown (mvT hZ (hw _ (List.mem_of_getElem? (i := 27) rfl))) (mvT hZ (hw _ (List.mem_of_getElem? (i := 28) rfl))) (notFace_of_selects (args := #[]) (mvT hZ (hw _ (List.mem_of_getElem? (i := 30) rfl)))) (mvT hZ (hw _ (List.mem_of_getElem? (i := 30) rfl))) (mvT hZ (hw _ (List.mem_of_getElem? (i := 29) rfl))) (by decide) (backOf (W := 0) (rm4 l Z a0 hw [] ag (0 : Int32) (1 : Int32) ab ac ad (up (up (up (fun _ => (0 : Int32)) 0 (0 : Int32)) 1 (va + vb)) 2 (8 : Int32)) (up (up (up (fun _ => (0 : Int32)) 0 (0 : Int32)) 1 (2 : Int32)) 2 (3 : Int32)) (up (up (up (fun _ => (0 : Int32)) 0 (0 : Int32)) 1 va) 2 (va + vb)) 0 1 T36.heap n0 Z36 F_starts_ag F_runStarts_ag F_runAt_ag A_ab A_ac A_ad rfl rfl (by decide) (by decide) (by decide)) hZ (hw _ (List.mem_of_getElem? (i := 31) rfl)) (hw _ (List.mem_of_getElem? (i := 5) rfl)) (by decide) (by decide)) q38a q38c (g := (mkF m 179 #[.val (.int pp), .val (.int pq), .val (.int fl), .val (.int va), .val (.int vb), .val (.int (((8 : Int32) - va) - vb)), .val (.int (1 : Int32)), .val (.ref ab), .val (.ref ac), .val (.ref ad), .val (.ref ae), .val (.ref af), .val (.ref ag), .val (.int (0 : Int32))] [(.int (1 : Int32)), (.int (0 : Int32)), (.ref ag)])) rfl (by rw [hml]; rfl) (Steps.refl _) (argsL := [(.int (0 : Int32)), (.int (1 : Int32))]) (rest := []) (lenOf pd_0_1 rfl) rfl (by show 2 * 0 + _ ≤ _; exact Nat.le_of_eq rfl) (hb hby at_179) (fun _ _ => ⟨rfl, K37q, (by decide : 6 + 0 ≤ _), (by decide : 25 + 0 ≤ _)⟩)
    dsimp only [Pt.U, Pt.locs, Pt.cells, Pt.slots] at X38 l38 y38 z38 st38 hQ38
    subst l38 y38 z38
    obtain ⟨rfl, N38q, K38q⟩ := hQ38
    have N38 := Fr.app N37 N38q
    refine Go.step (fun t k => st38.trans k) ?_
    show Go _ _ _ _ _ _ _ (T38.setTop (mkF m 182 #[.val (.int pp), .val (.int pq), .val (.int fl), .val (.int va), .val (.int vb), .val (.int (((8 : Int32) - va) - vb)), .val (.int (1 : Int32)), .val (.ref ab), .val (.ref ac), .val (.ref ad), .val (.ref ae), .val (.ref af), .val (.ref ag), .val (.int (0 : Int32))] [(.int ((if (2 : Int32) < (up (up (up (fun _ => (0 : Int32)) 0 (0 : Int32)) 1 (2 : Int32)) 2 (3 : Int32)) 1 then (up (up (up (fun _ => (0 : Int32)) 0 (0 : Int32)) 1 va) 2 (va + vb)) 2 else (up (up (up (fun _ => (0 : Int32)) 0 (0 : Int32)) 1 (va + vb)) 2 (8 : Int32)) 1) - (up (up (up (fun _ => (0 : Int32)) 0 (0 : Int32)) 1 va) 2 (va + vb)) 1))]))
    refine Go.step (fun t k => XS.iload X38.here hx rfl (hb hby at_182) rfl k) ?_
    show Go _ _ _ _ _ _ _ (T38.setTop (mkF m 184 #[.val (.int pp), .val (.int pq), .val (.int fl), .val (.int va), .val (.int vb), .val (.int (((8 : Int32) - va) - vb)), .val (.int (1 : Int32)), .val (.ref ab), .val (.ref ac), .val (.ref ad), .val (.ref ae), .val (.ref af), .val (.ref ag), .val (.int (0 : Int32))] [(.int vb), (.int ((if (2 : Int32) < (up (up (up (fun _ => (0 : Int32)) 0 (0 : Int32)) 1 (2 : Int32)) 2 (3 : Int32)) 1 then (up (up (up (fun _ => (0 : Int32)) 0 (0 : Int32)) 1 va) 2 (va + vb)) 2 else (up (up (up (fun _ => (0 : Int32)) 0 (0 : Int32)) 1 (va + vb)) 2 (8 : Int32)) 1) - (up (up (up (fun _ => (0 : Int32)) 0 (0 : Int32)) 1 va) 2 (va + vb)) 1))]))
    refine Go.step (fun t k => XS.icmpNo X38.here hx rfl (hb hby at_184) rfl (teq (own_z1 va vb : ((if (2 : Int32) < (up (up (up (fun _ => (0 : Int32)) 0 (0 : Int32)) 1 (2 : Int32)) 2 (3 : Int32)) 1 then (up (up (up (fun _ => (0 : Int32)) 0 (0 : Int32)) 1 va) 2 (va + vb)) 2 else (up (up (up (fun _ => (0 : Int32)) 0 (0 : Int32)) 1 (va + vb)) 2 (8 : Int32)) 1) - (up (up (up (fun _ => (0 : Int32)) 0 (0 : Int32)) 1 va) 2 (va + vb)) 1) = vb)).2 k) ?_
    show Go _ _ _ _ _ _ _ (T38.setTop (mkF m 187 #[.val (.int pp), .val (.int pq), .val (.int fl), .val (.int va), .val (.int vb), .val (.int (((8 : Int32) - va) - vb)), .val (.int (1 : Int32)), .val (.ref ab), .val (.ref ac), .val (.ref ad), .val (.ref ae), .val (.ref af), .val (.ref ag), .val (.int (0 : Int32))] []))
    refine Go.step (fun t k => XS.aload X38.here hx rfl (hb hby at_187) rfl rfl k) ?_
    show Go _ _ _ _ _ _ _ (T38.setTop (mkF m 189 #[.val (.int pp), .val (.int pq), .val (.int fl), .val (.int va), .val (.int vb), .val (.int (((8 : Int32) - va) - vb)), .val (.int (1 : Int32)), .val (.ref ab), .val (.ref ac), .val (.ref ad), .val (.ref ae), .val (.ref af), .val (.ref ag), .val (.int (0 : Int32))] [(.ref ag)]))
    refine Go.step (fun t k => XS.iconst X38.here hx rfl (hb hby at_189) k) ?_
    show Go _ _ _ _ _ _ _ (T38.setTop (mkF m 190 #[.val (.int pp), .val (.int pq), .val (.int fl), .val (.int va), .val (.int vb), .val (.int (((8 : Int32) - va) - vb)), .val (.int (1 : Int32)), .val (.ref ab), .val (.ref ac), .val (.ref ad), .val (.ref ae), .val (.ref af), .val (.ref ag), .val (.int (0 : Int32))] [(.int (1 : Int32)), (.ref ag)]))
    refine Go.step (fun t k => XS.iconst X38.here hx rfl (hb hby at_190) k) ?_
    show Go _ _ _ _ _ _ _ (T38.setTop (mkF m 191 #[.val (.int pp), .val (.int pq), .val (.int fl), .val (.int va), .val (.int vb), .val (.int (((8 : Int32) - va) - vb)), .val (.int (1 : Int32)), .val (.ref ab), .val (.ref ac), .val (.ref ad), .val (.ref ae), .val (.ref af), .val (.ref ag), .val (.int (0 : Int32))] [(.int (2 : Int32)), (.int (1 : Int32)), (.ref ag)]))
    obtain ⟨cq39, kq39, q39a, q39b, q39c⟩ := isOf hZ K38q E_ag
    obtain ⟨_, _, ⟨T39, L39, k39, n39⟩, -, X39, ⟨Lc39, hQ39, l39, y39, z39⟩, st39⟩ := X38.virtualBack hx (y := (⟨"com/example/ferrylog/ferrylog/store/LiveIndex$Recent", "count", "(II)I"⟩ : MethodName)) (z := (⟨"com/example/ferrylog/ferrylog/store/LiveIndex$Recent", "count", "(II)I"⟩ : MethodName)) hown (mvT hZ (hw _ (List.mem_of_getElem? (i := 27) rfl))) (mvT hZ (hw _ (List.mem_of_getElem? (i := 28) rfl))) (notFace_of_selects (args := #[]) (mvT hZ (hw _ (List.mem_of_getElem? (i := 30) rfl)))) (mvT hZ (hw _ (List.mem_of_getElem? (i := 30) rfl))) (mvT hZ (hw _ (List.mem_of_getElem? (i := 29) rfl))) (by decide) (backOf (W := 0) (rm4 l Z a0 hw [] ag (1 : Int32) (2 : Int32) ab ac ad (up (up (up (fun _ => (0 : Int32)) 0 (0 : Int32)) 1 (va + vb)) 2 (8 : Int32)) (up (up (up (fun _ => (0 : Int32)) 0 (0 : Int32)) 1 (2 : Int32)) 2 (3 : Int32)) (up (up (up (fun _ => (0 : Int32)) 0 (0 : Int32)) 1 va) 2 (va + vb)) 1 2 T36.heap n0 Z36 F_starts_ag F_runStarts_ag F_runAt_ag A_ab A_ac A_ad rfl rfl (by decide) (by decide) (by decide)) hZ (hw _ (List.mem_of_getElem? (i := 31) rfl)) (hw _ (List.mem_of_getElem? (i := 5) rfl)) (by decide) (by decide)) q39a q39c (g := (mkF m 191 #[.val (.int pp), .val (.int pq), .val (.int fl), .val (.int va), .val (.int vb), .val (.int (((8 : Int32) - va) - vb)), .val (.int (1 : Int32)), .val (.ref ab), .val (.ref ac), .val (.ref ad), .val (.ref ae), .val (.ref af), .val (.ref ag), .val (.int (0 : Int32))] [(.int (2 : Int32)), (.int (1 : Int32)), (.ref ag)])) rfl (by rw [hml]; rfl) (Steps.refl _) (argsL := [(.int (1 : Int32)), (.int (2 : Int32))]) (rest := []) (lenOf pd_0_1 rfl) rfl (by show 2 * 0 + _ ≤ _; exact Nat.le_of_eq rfl) (hb hby at_191) (fun _ _ => ⟨rfl, K38q, (by decide : 6 + 0 ≤ _), (by decide : 25 + 0 ≤ _)⟩)
    dsimp only [Pt.U, Pt.locs, Pt.cells, Pt.slots] at X39 l39 y39 z39 st39 hQ39
    subst l39 y39 z39
    obtain ⟨rfl, N39q, K39q⟩ := hQ39
    have N39 := Fr.app N38 N39q
    refine Go.step (fun t k => st39.trans k) ?_
    show Go _ _ _ _ _ _ _ (T39.setTop (mkF m 194 #[.val (.int pp), .val (.int pq), .val (.int fl), .val (.int va), .val (.int vb), .val (.int (((8 : Int32) - va) - vb)), .val (.int (1 : Int32)), .val (.ref ab), .val (.ref ac), .val (.ref ad), .val (.ref ae), .val (.ref af), .val (.ref ag), .val (.int (0 : Int32))] [(.int ((if (3 : Int32) < (up (up (up (fun _ => (0 : Int32)) 0 (0 : Int32)) 1 (2 : Int32)) 2 (3 : Int32)) 2 then (up (up (up (fun _ => (0 : Int32)) 0 (0 : Int32)) 1 va) 2 (va + vb)) 3 else (up (up (up (fun _ => (0 : Int32)) 0 (0 : Int32)) 1 (va + vb)) 2 (8 : Int32)) 2) - (up (up (up (fun _ => (0 : Int32)) 0 (0 : Int32)) 1 va) 2 (va + vb)) 2))]))
    refine Go.step (fun t k => XS.iload X39.here hx rfl (hb hby at_194) rfl k) ?_
    show Go _ _ _ _ _ _ _ (T39.setTop (mkF m 196 #[.val (.int pp), .val (.int pq), .val (.int fl), .val (.int va), .val (.int vb), .val (.int (((8 : Int32) - va) - vb)), .val (.int (1 : Int32)), .val (.ref ab), .val (.ref ac), .val (.ref ad), .val (.ref ae), .val (.ref af), .val (.ref ag), .val (.int (0 : Int32))] [(.int (((8 : Int32) - va) - vb)), (.int ((if (3 : Int32) < (up (up (up (fun _ => (0 : Int32)) 0 (0 : Int32)) 1 (2 : Int32)) 2 (3 : Int32)) 2 then (up (up (up (fun _ => (0 : Int32)) 0 (0 : Int32)) 1 va) 2 (va + vb)) 3 else (up (up (up (fun _ => (0 : Int32)) 0 (0 : Int32)) 1 (va + vb)) 2 (8 : Int32)) 2) - (up (up (up (fun _ => (0 : Int32)) 0 (0 : Int32)) 1 va) 2 (va + vb)) 2))]))
    refine Go.step (fun t k => XS.icmpNo X39.here hx rfl (hb hby at_196) rfl (teq (own_z2 va vb : ((if (3 : Int32) < (up (up (up (fun _ => (0 : Int32)) 0 (0 : Int32)) 1 (2 : Int32)) 2 (3 : Int32)) 2 then (up (up (up (fun _ => (0 : Int32)) 0 (0 : Int32)) 1 va) 2 (va + vb)) 3 else (up (up (up (fun _ => (0 : Int32)) 0 (0 : Int32)) 1 (va + vb)) 2 (8 : Int32)) 2) - (up (up (up (fun _ => (0 : Int32)) 0 (0 : Int32)) 1 va) 2 (va + vb)) 2) = (((8 : Int32) - va) - vb))).2 k) ?_
    show Go _ _ _ _ _ _ _ (T39.setTop (mkF m 199 #[.val (.int pp), .val (.int pq), .val (.int fl), .val (.int va), .val (.int vb), .val (.int (((8 : Int32) - va) - vb)), .val (.int (1 : Int32)), .val (.ref ab), .val (.ref ac), .val (.ref ad), .val (.ref ae), .val (.ref af), .val (.ref ag), .val (.int (0 : Int32))] []))
    refine Go.step (fun t k => XS.iconst X39.here hx rfl (hb hby at_199) k) ?_
    show Go _ _ _ _ _ _ _ (T39.setTop (mkF m 200 #[.val (.int pp), .val (.int pq), .val (.int fl), .val (.int va), .val (.int vb), .val (.int (((8 : Int32) - va) - vb)), .val (.int (1 : Int32)), .val (.ref ab), .val (.ref ac), .val (.ref ad), .val (.ref ae), .val (.ref af), .val (.ref ag), .val (.int (0 : Int32))] [(.int (1 : Int32))]))
    refine Go.step (fun t k => XS.goto X39.here hx rfl (pc0 := 200) (pc' := 204) rfl (hb hby at_200) (by decide) (by decide) k) ?_
    show Go _ _ _ _ _ _ _ (T39.setTop (mkF m 204 #[.val (.int pp), .val (.int pq), .val (.int fl), .val (.int va), .val (.int vb), .val (.int (((8 : Int32) - va) - vb)), .val (.int (1 : Int32)), .val (.ref ab), .val (.ref ac), .val (.ref ad), .val (.ref ae), .val (.ref af), .val (.ref ag), .val (.int (0 : Int32))] [(.int (1 : Int32))]))
    refine Go.retN X39 Bd.notSynchronized hx (t := .boolean) Bd.returns (by simp) (hb hby at_204) (by decide) (by decide) (1 : Int32) rfl ?_
    rw [K39q]
    exact ⟨rfl, N39⟩
set_option maxRecDepth 65536 in
set_option maxHeartbeats 40000000 in
theorem comes_1 {Post : Tables → Env → Array Value → State → Outcome → State → Prop} (hpost : ∀ tb e args s v u, (limb_1_1.after args s (.returned v) u = true ∧ limb_1_2.after args s (.returned v) u = true ∧ True) → FrameEnd s (.returned v) u (Jvm.fieldLocs frame_1_writes args s ++ Jvm.arrayLocs frame_1_arrays args s ++ Jvm.staticLocs frame_1_statics s) 24 128 → Post tb e args s (.returned v) u) :
    ArmFor flags0 classFile x code maxLocals ret World_1 tables_1 room_1 Calls_1 rest_1 Pre_1 Post := by
  intro l hfl _ _ p e ha hc hk s m args below hf hA hF happ hP
  obtain ⟨hcalls, hrest, hpre⟩ := hP
  obtain ⟨-, -, -, hnamed, -, -, -, hat⟩ := (Spec.applies_iff hf).mp happ
  obtain ⟨hg, hn⟩ := and_e (Cond.before_iff.mp (show (Jvm.Cond.and given_1 narrow_1).before args s = true from hpre))
  obtain ⟨gv1, gv2⟩ := and_e hg
  obtain ⟨gv3, gv4⟩ := and_e gv2
  obtain ⟨gv5, gv6⟩ := and_e gv4
  obtain ⟨w0, w1, w2, rfl⟩ : ∃ w0 w1 w2 : Value, args = #[w0, w1, w2] := by
    have hs : args.size = 3 := by simpa [Cond.value, given_1] using gv1
    obtain ⟨L⟩ := args
    match L, hs with
    | [w0, w1, w2], _ => exact ⟨w0, w1, w2, rfl⟩
  have hw := fun d (hd : d ∈ tables_1) => atoms_spec (ws := Jvm.Cond.code x code maxLocals ret :: tables_1) hat d (List.mem_cons_of_mem _ hd)
  have hfit : Fit s := fun {y c} hc i hi => by
    obtain ⟨ha, rfl⟩ := Array.getElem?_eq_some_iff.mp hc
    have q := List.all_eq_true.mp ((Array.all_eq_true_iff_forall_mem.mp hF) _ (Array.getElem_mem ha)) i (List.mem_range.mpr hi)
    simpa [Array.getElem?_eq_getElem hi] using q
  obtain ⟨i0, ei0⟩ := is_v gv3
  obtain rfl : w0 = (.int i0) := Option.some.inj ei0
  obtain ⟨i1, ei1⟩ := is_v gv5
  obtain rfl : w1 = (.int i1) := Option.some.inj ei1
  obtain ⟨i2, ei2⟩ := is_v gv6
  obtain rfl : w2 = (.int i2) := Option.some.inj ei2
  obtain ⟨n, o, h1, h2, h3, _, L, rfl, ⟨rfl, N⟩, hq⟩ := rm0 l s _ hw tables_1 i0 i1 i2 s.heap s.heap.size (Nat.le_refl _) p e ha hc hk s m _ below hf ((Spec.applies_iff_loose hf).mp happ).1 ⟨rfl, State.Warmed39.refl s, rfl⟩ trivial
  refine ⟨n, _, h1, h2, h3, hpost _ _ _ _ _ _ ⟨Cond.after_iff.mpr rfl, Cond.after_iff.mpr (eq_i res_at (Term.int_eval (1)) rfl), trivial⟩ ⟨hq.1, hq.2.1, (hq.2.2.sift fun y hy => Or.inr (N y hy)).mono (by decide) (by decide)⟩⟩
theorem main_1_1 : Claimed_1_1 := comes_1 fun _ _ _ _ _ _ h hF => ⟨h.1, hF⟩
theorem main_1_2 : Claimed_1_2 := comes_1 fun _ _ _ _ _ _ h hF => ⟨h.2.1, hF⟩
end Jvm.Pilot.@@N@@
namespace Jvm.Pilot.@@N@@
open Jvm Jvm.ClassFile Sem Op Lib Jvm.Free Jvm.Stand Jvm.Pilot.@@N@@.Jvm.D
/-! MADE BY PROGRAM (witnessworld.py) out of the Statement's table words and the real class files: 12 classes; the members and pool entries that the words name. The judged class is class 1, her method 1. -/
namespace start1
open Jvm.ClassFile
def u (s : String) : CpInfo := .utf8 (stringToUtf16 s)
/-- a pool by its gaps: so many unusable entries, then the entry; so many at the end -/
def gap : Nat → List CpInfo → List CpInfo
  | 0, r => r
  | n + 1, r => .unusable :: gap n r
def poolList (es : List (Nat × CpInfo)) (last : Nat) : List CpInfo := es.foldr (fun e r => gap e.1 (e.2 :: r)) (gap last [])
def pool (es : List (Nat × CpInfo)) (last : Nat) : Array CpInfo := ⟨poolList es last⟩
def fileOf (pool : Array CpInfo) (this : Nat) (attrs : Array Attribute := #[]) (ms : Array MethodInfo := #[]) (fl : Nat := 33) (sup : Nat := 0) (ifs : Array Nat := #[]) (fds : Array FieldInfo := #[]) : ClassFile where
  minorVersion := 0
  majorVersion := 65
  constantPool := pool
  accessFlags := fl
  thisClass := this
  superClass := sup
  interfaces := ifs
  fields := fds
  methods := ms
  attributes := attrs
def plain (name : String) (sup : Option ClassId) : Class where
  name := name
  kind := .ordinary
  loader := none
  accessFlags := 33
  super := sup
  interfaces := #[]
  cf := none
  fields := #[]
  methods := #[]
  instanceTypes := #[]
  staticTypes := #[]
  resolved := #[]
  callSites := []
  init := .initialized
  statics := none
  mirror := none

def pool0 : Array CpInfo := pool [(5, u "<init>"), (0, u "()V"), (1, .class_ 10), (1, u "java/lang/Object")] 113

def k0c0 : Code := { maxStack := 0, maxLocals := 1, code := object_method_1_code, exceptionTable := #[], attributes := #[] }
def k0m0 : Method := { name := "<init>", desc := "()V", sig := { parameters := [], returnType := none }, accessFlags := 1, code := some k0c0 }
/-- java/lang/Object -/
def k0 : Class := { plain "java/lang/Object" none with
  accessFlags := 33
  interfaces := #[]
  cf := some (fileOf pool0 8 #[] #[{ accessFlags := 1, nameIndex := 5, descriptorIndex := 6, attributes := #[] }] 33 0 #[] #[])
  fields := #[]
  methods := #[k0m0]
  instanceTypes := #[]
  staticTypes := #[]
  resolved := Array.replicate 124 none
  statics := none }

def pool1 : Array CpInfo := pool [(2, .class_ 4), (1, u "java/lang/Object"), (0, u "<init>"), (0, u "()V"), (0, .integer 2147483647), (0, .class_ 9), (0, u "com/example/ferrylog/ferrylog/store/LiveIndex$Recent"), (0, .methodref 8 11), (0, .nameAndType 5 12), (0, u "([I[I[I[J[I)V"), (0, .methodref 8 14), (0, .nameAndType 15 16), (0, u "count"), (0, u "(II)I"), (0, .class_ 18), (0, u "com/example/ferrylog/ferrylog/store/RecentCountPinLaw"), (2, u "law"), (0, u "(III)Z")] 11

def k1m0 : Method := { name := "<init>", desc := "()V", sig := { parameters := [], returnType := none }, accessFlags := 1, code := none }
def k1c1 : Code := { maxStack := 7, maxLocals := 14, code := code, exceptionTable := #[], attributes := #[] }
def k1m1 : Method := { name := "law", desc := "(III)Z", sig := { parameters := [.int, .int, .int], returnType := some .boolean }, accessFlags := 9, code := some k1c1 }
/-- com/example/ferrylog/ferrylog/store/RecentCountPinLaw -/
def k1 : Class := { plain "com/example/ferrylog/ferrylog/store/RecentCountPinLaw" (some 0) with
  accessFlags := 49
  interfaces := #[]
  cf := some (fileOf pool1 17 #[] #[{ accessFlags := 1, nameIndex := 5, descriptorIndex := 6, attributes := #[] }, { accessFlags := 9, nameIndex := 21, descriptorIndex := 22, attributes := #[] }] 49 2 #[] #[])
  fields := #[]
  methods := #[k1m0, k1m1]
  instanceTypes := #[]
  staticTypes := #[]
  resolved := Array.replicate 34 none
  statics := none }

def pool2 : Array CpInfo := pool [(1, .methodref 2 3), (0, .class_ 4), (0, .nameAndType 5 6), (0, u "java/lang/Object"), (0, u "<init>"), (0, u "()V"), (0, .class_ 8), (0, u "java/lang/Record")] 13

def k2c0 : Code := { maxStack := 1, maxLocals := 1, code := jdk_30_method_1_code, exceptionTable := #[], attributes := #[] }
def k2m0 : Method := { name := "<init>", desc := "()V", sig := { parameters := [], returnType := none }, accessFlags := 4, code := some k2c0 }
/-- java/lang/Record -/
def k2 : Class := { plain "java/lang/Record" (some 0) with
  accessFlags := 1057
  interfaces := #[]
  cf := some (fileOf pool2 7 #[] #[{ accessFlags := 4, nameIndex := 5, descriptorIndex := 6, attributes := #[] }] 1057 2 #[] #[])
  fields := #[]
  methods := #[k2m0]
  instanceTypes := #[]
  staticTypes := #[]
  resolved := Array.replicate 22 none
  statics := none }

def pool3 : Array CpInfo := pool [(1, .methodref 2 3), (0, .class_ 4), (0, .nameAndType 5 6), (0, u "java/lang/Record"), (0, u "<init>"), (0, u "()V"), (0, .fieldref 8 9), (0, .class_ 10), (0, .nameAndType 11 12), (0, u "com/example/ferrylog/ferrylog/store/LiveIndex$Recent"), (0, u "starts"), (0, u "[I"), (0, .fieldref 8 14), (0, .nameAndType 15 12), (0, u "positions"), (0, .fieldref 8 17), (0, .nameAndType 18 12), (0, u "runStarts"), (0, .fieldref 8 20), (0, .nameAndType 21 22), (0, u "firsts"), (0, u "[J"), (0, .fieldref 8 24), (0, .nameAndType 25 12), (0, u "runAt"), (12, u "([I[I[I[J[I)V"), (9, u "count"), (0, u "(II)I"), (8, .class_ 59), (0, u "com/example/ferrylog/ferrylog/store/LiveIndex")] 23

def k3c0 : Code := { maxStack := 2, maxLocals := 6, code := prog_212_method_1_code, exceptionTable := #[], attributes := #[] }
def k3m0 : Method := { name := "<init>", desc := "([I[I[I[J[I)V", sig := { parameters := [(.array .int), (.array .int), (.array .int), (.array .long), (.array .int)], returnType := none }, accessFlags := 0, code := some k3c0 }
def k3c1 : Code := { maxStack := 4, maxLocals := 3, code := prog_212_method_5_code, exceptionTable := #[], attributes := #[] }
def k3m1 : Method := { name := "count", desc := "(II)I", sig := { parameters := [.int, .int], returnType := some .int }, accessFlags := 0, code := some k3c1 }
/-- com/example/ferrylog/ferrylog/store/LiveIndex$Recent -/
def k3 : Class := { plain "com/example/ferrylog/ferrylog/store/LiveIndex$Recent" (some 2) with
  accessFlags := 48
  interfaces := #[]
  cf := some (fileOf pool3 8 #[.nestHost 58] #[{ accessFlags := 0, nameIndex := 5, descriptorIndex := 38, attributes := #[] }, { accessFlags := 0, nameIndex := 48, descriptorIndex := 49, attributes := #[] }] 48 2 #[] #[{ accessFlags := 18, nameIndex := 11, descriptorIndex := 12, attributes := #[] }, { accessFlags := 18, nameIndex := 15, descriptorIndex := 12, attributes := #[] }, { accessFlags := 18, nameIndex := 18, descriptorIndex := 12, attributes := #[] }, { accessFlags := 18, nameIndex := 21, descriptorIndex := 22, attributes := #[] }, { accessFlags := 18, nameIndex := 25, descriptorIndex := 12, attributes := #[] }])
  fields := #[{ name := "starts", type := (.array .int), accessFlags := 18, slot := 0, constantValue := 0 }, { name := "positions", type := (.array .int), accessFlags := 18, slot := 1, constantValue := 0 }, { name := "runStarts", type := (.array .int), accessFlags := 18, slot := 2, constantValue := 0 }, { name := "firsts", type := (.array .long), accessFlags := 18, slot := 3, constantValue := 0 }, { name := "runAt", type := (.array .int), accessFlags := 18, slot := 4, constantValue := 0 }]
  methods := #[k3m0, k3m1]
  instanceTypes := #[(.array .int), (.array .int), (.array .int), (.array .long), (.array .int)]
  staticTypes := #[]
  resolved := Array.replicate 83 none
  statics := none }

def pool4 : Array CpInfo := pool [(1, u "java/lang/Cloneable"), (0, .class_ 1), (0, u "java/lang/Object"), (0, .class_ 3)] 3

/-- java/lang/Cloneable -/
def k4 : Class := { plain "java/lang/Cloneable" (some 0) with
  accessFlags := 1537
  interfaces := #[]
  cf := some (fileOf pool4 2 #[] #[] 1537 4 #[] #[])
  fields := #[]
  methods := #[]
  instanceTypes := #[]
  staticTypes := #[]
  resolved := Array.replicate 8 none
  statics := none }

def pool5 : Array CpInfo := pool [(1, u "java/io/Serializable"), (0, .class_ 1), (0, u "java/lang/Object"), (0, .class_ 3)] 3

/-- java/io/Serializable -/
def k5 : Class := { plain "java/io/Serializable" (some 0) with
  accessFlags := 1537
  interfaces := #[]
  cf := some (fileOf pool5 2 #[] #[] 1537 4 #[] #[])
  fields := #[]
  methods := #[]
  instanceTypes := #[]
  staticTypes := #[]
  resolved := Array.replicate 8 none
  statics := none }

/-- the primitive byte -/
def k6 : Class := { plain "byte" none with kind := .primitive 'B', accessFlags := 0x411 }
/-- [B -/
def k7 : Class := { plain "[B" (some 0) with kind := .array 6 .byte, interfaces := #[4, 5], accessFlags := 1041 }

/-- the primitive int -/
def k8 : Class := { plain "int" none with kind := .primitive 'I', accessFlags := 0x411 }
/-- [I -/
def k9 : Class := { plain "[I" (some 0) with kind := .array 8 .int, interfaces := #[4, 5], accessFlags := 1041 }

/-- the primitive long -/
def k10 : Class := { plain "long" none with kind := .primitive 'J', accessFlags := 0x411 }
/-- [J -/
def k11 : Class := { plain "[J" (some 0) with kind := .array 10 .long, interfaces := #[4, 5], accessFlags := 1041 }

def heap : Heap := #[]
def classes : Array Class := #[k0, k1, k2, k3, k4, k5, k6, k7, k8, k9, k10, k11]
def interned : List (Array UInt16 × Addr) := []
def slotsUsed : Nat := 0
def theMethod : MethodId := ⟨1, 1⟩
def args0 : Array Value := #[.int 5, .int 7, .int 1]
def aboutOver (below : List Frame) : State where
  vm := { classes := classes, interned := interned.toArray }
  heap := heap
  slotsUsed := slotsUsed
  threads := #[{ frames := .invoking theMethod args0 :: below }]
def below0 : List Frame := [.native { method := ⟨0, 0⟩, args := #[] }]
def about1 : State := aboutOver below0
def p0 : Program := .bare "" "" ""
def e0 : Env := launch0.env 0 0 0
theorem w_frames : about1.frames = Frame.invoking theMethod args0 :: below0 := rfl
set_option maxRecDepth 65536 in
theorem w_args : argsFit about1.vm theMethod args0 = true := by decide +kernel
set_option maxRecDepth 65536 in
theorem w_heap : heapFits about1 = true := by decide +kernel
set_option maxRecDepth 65536 in
theorem w_runnable : about1.curStatus? = some .runnable := by decide +kernel
set_option maxRecDepth 65536 in
theorem w_alone : about1.alone = true := by decide +kernel
set_option maxRecDepth 65536 in
theorem w_named : about1.methodNamed? x = some theMethod := by decide +kernel
set_option maxRecDepth 65536 in
theorem w_hears : about1.hears theMethod below0 = true := by decide +kernel
set_option maxRecDepth 65536 in
theorem w_ripe : about1.ripe theMethod args0 below0 = true := by decide +kernel
theorem w_running : about1.status = .running := rfl
set_option maxRecDepth 65536 in
theorem w_room : about1.hasRoom e0.platform room_1 = true :=
  launch0.hasRoom_least _ room_1 (by decide +kernel) (by decide +kernel) (by decide +kernel) (by decide +kernel) (by decide +kernel) (by decide +kernel)
theorem allAtoms_all (ts : List Jvm.Cond) (a : Array Jvm.Value) (st : Jvm.State) : (allAtoms ts).before a st = ts.all (fun c => c.before a st) := by
  induction ts with
  | nil => rfl
  | cons c t ih =>
    show (Jvm.Cond.and c (allAtoms t)).before a st = _
    rw [Jvm.Cond.before_and, ih, List.all_cons]
def words1 : List Jvm.Cond := Jvm.Cond.code x code maxLocals ret :: tables_1
/-- a 'code' word, met by the world's own term for the bytes: nothing is compared byte by byte -/
theorem code_word {y : MethodName} {bytes : ByteArray} {mx : Nat} {rt : Option FieldType} {a : Array Value} {s : State} {m : MethodId} {meth : Method} {c : Code} (h1 : s.methodNamed? y = some m) (h2 : s.vm.method? m = some meth) (h3 : meth.code = some c) (h4 : c.code = bytes)
    (h5 : (c.maxLocals == mx && c.exceptionTable.isEmpty && decide (c.maxStack ≤ mostOperands) && decide (meth.sig.returnType = rt) && !meth.locks && decide (parseMethodDescriptor y.desc = some meth.sig)) = true) : (Jvm.Cond.code y bytes mx rt).before a s = true := by
  simp only [Bool.and_eq_true, beq_iff_eq, Bool.not_eq_true', decide_eq_true_eq] at h5
  obtain ⟨⟨⟨⟨⟨g1, g2⟩, g3⟩, g4⟩, g5⟩, g6⟩ := h5
  simp [Cond.before, Cond.holds, Cond.value, h1, h2, h3, h4, g1, g2, g3, g4, g5, g6]
def isCode : Jvm.Cond → Bool
  | .code _ _ _ _ => true
  | _ => false
theorem all_split {L : List Jvm.Cond} {P : Jvm.Cond → Bool} (h1 : L.all (fun c => isCode c || P c) = true) (h2 : ∀ c ∈ L.filter isCode, P c = true) : L.all P = true := by
  refine List.all_eq_true.mpr fun c hc => ?_
  have h := List.all_eq_true.mp h1 c hc
  rcases Bool.eq_false_or_eq_true (isCode c) with hi | hi
  · exact h2 c (List.mem_filter.mpr ⟨hc, hi⟩)
  · simpa [hi] using h
set_option maxRecDepth 65536 in
theorem w_c0 : (Jvm.Cond.code x code maxLocals ret).before args0 about1 = true := code_word (m := ⟨1, 1⟩) (meth := k1m1) (c := k1c1) (by decide +kernel) rfl rfl rfl (by decide +kernel)
set_option maxRecDepth 65536 in
theorem w_c1 : (Jvm.Cond.code ({ cls := "com/example/ferrylog/ferrylog/store/LiveIndex$Recent", name := "<init>", desc := "([I[I[I[J[I)V" } : Jvm.MethodName) prog_212_method_1_code (6 : Nat) (Option.none : Option Jvm.ClassFile.FieldType)).before args0 about1 = true := code_word (m := ⟨3, 0⟩) (meth := k3m0) (c := k3c0) (by decide +kernel) rfl rfl rfl (by decide +kernel)
set_option maxRecDepth 65536 in
theorem w_c2 : (Jvm.Cond.code ({ cls := "java/lang/Record", name := "<init>", desc := "()V" } : Jvm.MethodName) jdk_30_method_1_code (1 : Nat) (Option.none : Option Jvm.ClassFile.FieldType)).before args0 about1 = true := code_word (m := ⟨2, 0⟩) (meth := k2m0) (c := k2c0) (by decide +kernel) rfl rfl rfl (by decide +kernel)
set_option maxRecDepth 65536 in
theorem w_c3 : (Jvm.Cond.code ({ cls := "java/lang/Object", name := "<init>", desc := "()V" } : Jvm.MethodName) object_method_1_code (1 : Nat) (Option.none : Option Jvm.ClassFile.FieldType)).before args0 about1 = true := code_word (m := ⟨0, 0⟩) (meth := k0m0) (c := k0c0) (by decide +kernel) rfl rfl rfl (by decide +kernel)
set_option maxRecDepth 65536 in
theorem w_c4 : (Jvm.Cond.code ({ cls := "com/example/ferrylog/ferrylog/store/LiveIndex$Recent", name := "count", desc := "(II)I" } : Jvm.MethodName) prog_212_method_5_code (3 : Nat) (Option.some Jvm.ClassFile.FieldType.int)).before args0 about1 = true := code_word (m := ⟨3, 1⟩) (meth := k3m1) (c := k3c1) (by decide +kernel) rfl rfl rfl (by decide +kernel)
def codes1 : List Jvm.Cond := [Jvm.Cond.code x code maxLocals ret, Jvm.Cond.code ({ cls := "com/example/ferrylog/ferrylog/store/LiveIndex$Recent", name := "<init>", desc := "([I[I[I[J[I)V" } : Jvm.MethodName) prog_212_method_1_code (6 : Nat) (Option.none : Option Jvm.ClassFile.FieldType), Jvm.Cond.code ({ cls := "java/lang/Record", name := "<init>", desc := "()V" } : Jvm.MethodName) jdk_30_method_1_code (1 : Nat) (Option.none : Option Jvm.ClassFile.FieldType), Jvm.Cond.code ({ cls := "java/lang/Object", name := "<init>", desc := "()V" } : Jvm.MethodName) object_method_1_code (1 : Nat) (Option.none : Option Jvm.ClassFile.FieldType), Jvm.Cond.code ({ cls := "com/example/ferrylog/ferrylog/store/LiveIndex$Recent", name := "count", desc := "(II)I" } : Jvm.MethodName) prog_212_method_5_code (3 : Nat) (Option.some Jvm.ClassFile.FieldType.int)]
set_option maxRecDepth 65536 in
theorem codes_eq : words1.filter isCode = codes1 := rfl
theorem w_codes : ∀ c ∈ words1.filter isCode, c.before args0 about1 = true := by
  rw [codes_eq]
  intro c hc
  simp only [codes1, List.mem_cons, List.not_mem_nil, or_false] at hc
  rcases hc with rfl | rfl | rfl | rfl | rfl
  · exact w_c0
  · exact w_c1
  · exact w_c2
  · exact w_c3
  · exact w_c4
set_option maxRecDepth 65536 in
theorem w_t1 : (words1.take 24).all (fun c => isCode c || c.before args0 about1) = true := by decide +kernel
set_option maxRecDepth 65536 in
theorem w_t2 : (words1.drop 24).all (fun c => isCode c || c.before args0 about1) = true := by decide +kernel
theorem w_tables : (allAtoms (Jvm.Cond.code x code maxLocals ret :: tables_1)).before args0 about1 = true := by
  rw [allAtoms_all]
  show words1.all (fun c => c.before args0 about1) = true
  refine all_split ?_ w_codes
  rw [← List.take_append_drop 24 words1, List.all_append, w_t1, w_t2]
  rfl
set_option maxRecDepth 65536 in
theorem w_case : (Jvm.Cond.and given_1 narrow_1).before args0 about1 = true := by decide +kernel
theorem w_applies : (headSpec (Jvm.Cond.code x code maxLocals ret :: tables_1) room_1).applies x e0.platform about1 = true :=
  (Spec.applies_iff w_frames).mpr ⟨w_running, w_runnable, w_alone, w_named, w_hears, w_ripe, w_room, w_tables⟩
theorem atStart : AtStart classFile x code maxLocals ret World_1 tables_1 room_1 Calls_1 rest_1 Pre_1 launch0 p0 e0 about1 theMethod args0 below0 :=
  ⟨lists_1, trivial, launch0.admits_env _ _ _, launch0.least_env, fairChoices_fair.cas, fairChoices_fair.clock, w_frames, w_args, w_heap, w_applies, trivial, trivial, w_case⟩
end start1
theorem witness_1 : WitnessClaimed_1 := ⟨start1.p0, start1.e0, start1.about1, start1.theMethod, start1.args0, start1.below0, start1.atStart⟩
end Jvm.Pilot.@@N@@
