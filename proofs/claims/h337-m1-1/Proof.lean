import JvmDerived
import JvmDerived.Pilot.@@N@@Statement
import JvmDerived.Pilot.@@N@@Code
set_option linter.unusedVariables false
set_option linter.unusedSimpArgs false
namespace Jvm.Pilot.@@N@@
open Jvm Jvm.ClassFile Sem Op Lib Jvm.Free Jvm.Stand Jvm.LawKit Jvm.RoadKit Bundle Jvm.Pilot.@@N@@.Jvm.D
section Own
variable {p : Program} {l : Launch} {e : Env} {R : Room} {s : State} {m : MethodId} {args : Array Value} {below : List Frame} {meth : Method} {c : Code} {T : State} {locs : List Loc} {cells slots : Nat} {Z : State} {h h' : Heap} {a b : Addr}
/-- from the state σ the run comes to a return that meets Qk -/
def Go (p : Program) (e : Env) (below : List Frame) (s : State) (Qk : Option Value → Heap → List Loc → Prop) (C S : Nat) (σ : State) : Prop :=
  ∃ s₂ o, Steps p.tables e below σ s₂ ∧ s₂.status = .running ∧ Ended s₂ below o ∧ ∃ v L, o = .returned v ∧ Qk v s₂.heap L ∧ FrameEnd s o s₂ L C S
variable {Qk : Option Value → Heap → List Loc → Prop} {C S : Nat}
theorem Go.step {σ σ' : State} (hs : ∀ t, Steps p.tables e below σ' t → Steps p.tables e below σ t) (k : Go p e below s Qk C S σ') : Go p e below s Qk C S σ := by
  obtain ⟨s₂, o, h1, r⟩ := k
  exact ⟨s₂, o, hs _ h1, r⟩
theorem Go.retV (X : Stand p l e R s m args below meth c T locs cells slots) (hlk : meth.locks = false) (hx : p.tables.exec = Jvm.exec) {pc : Nat} {Ls : Array Slot} (hret : meth.sig.returnType = none) (hd : decode c.code pc = .ok (.return_, 1)) (hc : cells ≤ C) (hs : slots ≤ S) (hQ : Qk none T.heap locs) :
    Go p e below s Qk C S (T.setTop (mkF m pc Ls [])) := by
  obtain ⟨fs, hr, hrun, hended, hW, hsame⟩ := X.leave (v := none) (fun _ => rfl) hlk
  exact ⟨_, _, X.returnOut hx hret hd hr, hrun, hended, _, _, rfl, hQ, ⟨_, rfl⟩, hW, hsame.mono hc hs⟩
theorem Go.retW (X : Stand p l e R s m args below meth c T locs cells slots) (hlk : meth.locks = false) (hx : p.tables.exec = Jvm.exec) {pc : Nat} {Ls : Array Slot} {w : Value} {t : FieldType} {i : Instr} {rest : List Value} (hret : meth.sig.returnType = some t) (hn : narrow t w = w)
    (hi : (i = .ireturn ∧ (t = .int ∨ t = .boolean ∨ t = .byte ∨ t = .char ∨ t = .short) ∧ ∃ z, w = .int z) ∨ (i = .lreturn ∧ t = .long ∧ ∃ z, w = .long z) ∨ (i = .dreturn ∧ t = .double ∧ ∃ z, w = .double z) ∨ (i = .freturn ∧ t = .float ∧ ∃ z, w = .float z) ∨ (i = .areturn ∧ t.isReference = true ∧ w.isRef = true))
    (hd : decode c.code pc = .ok (i, 1)) (hc : cells ≤ C) (hs : slots ≤ S) (hQ : Qk (some w) T.heap locs) :
    Go p e below s Qk C S (T.setTop (mkF m pc Ls (w :: rest))) := by
  obtain ⟨fs, hr, hrun, hended, hW, hsame⟩ := X.leave (v := some w) (fun q => by rw [hret] at q; cases q) hlk
  exact ⟨_, _, retOut X hx hret hn hi hd hr, hrun, hended, _, _, rfl, hQ, ⟨_, rfl⟩, hW, hsame.mono hc hs⟩
theorem Go.retI (X : Stand p l e R s m args below meth c T locs cells slots) (hlk : meth.locks = false) (hx : p.tables.exec = Jvm.exec) {pc : Nat} {Ls : Array Slot} {z : Int32} {rest : List Value} (hret : meth.sig.returnType = some .int) (hd : decode c.code pc = .ok (.ireturn, 1)) (hc : cells ≤ C) (hs : slots ≤ S) (hQ : Qk (some (.int z)) T.heap locs) :
    Go p e below s Qk C S (T.setTop (mkF m pc Ls (.int z :: rest))) :=
  Go.retW X hlk hx hret rfl (Or.inl ⟨rfl, Or.inl rfl, z, rfl⟩) hd hc hs hQ
theorem Go.retJ (X : Stand p l e R s m args below meth c T locs cells slots) (hlk : meth.locks = false) (hx : p.tables.exec = Jvm.exec) {pc : Nat} {Ls : Array Slot} {z : Int64} {rest : List Value} (hret : meth.sig.returnType = some .long) (hd : decode c.code pc = .ok (.lreturn, 1)) (hc : cells ≤ C) (hs : slots ≤ S) (hQ : Qk (some (.long z)) T.heap locs) :
    Go p e below s Qk C S (T.setTop (mkF m pc Ls (.long z :: rest))) :=
  Go.retW X hlk hx hret rfl (Or.inr (Or.inl ⟨rfl, rfl, z, rfl⟩)) hd hc hs hQ
theorem Go.retA (X : Stand p l e R s m args below meth c T locs cells slots) (hlk : meth.locks = false) (hx : p.tables.exec = Jvm.exec) {pc : Nat} {Ls : Array Slot} {w : Value} {t : FieldType} {rest : List Value} (hret : meth.sig.returnType = some t) (hn : narrow t w = w) (ht : t.isReference = true) (hw : w.isRef = true) (hd : decode c.code pc = .ok (.areturn, 1)) (hc : cells ≤ C) (hs : slots ≤ S) (hQ : Qk (some w) T.heap locs) :
    Go p e below s Qk C S (T.setTop (mkF m pc Ls (w :: rest))) :=
  Go.retW X hlk hx hret hn (Or.inr (Or.inr (Or.inr (Or.inr ⟨rfl, ht, hw⟩)))) hd hc hs hQ
theorem Go.retN (X : Stand p l e R s m args below meth c T locs cells slots) (hlk : meth.locks = false) (hx : p.tables.exec = Jvm.exec) {pc : Nat} {Ls : Array Slot} {z : Int32} {t : FieldType} {rest : List Value} (hret : meth.sig.returnType = some t) (ht : t = .boolean ∨ t = .byte ∨ t = .char ∨ t = .short) (hd : decode c.code pc = .ok (.ireturn, 1)) (hc : cells ≤ C) (hs : slots ≤ S) (z' : Int32) (hz : nar t z = z') (hQ : Qk (some (.int z')) T.heap locs) :
    Go p e below s Qk C S (T.setTop (mkF m pc Ls (.int z :: rest))) := by
  subst hz
  obtain ⟨fs, hr, hrun, hended, hW, hsame⟩ := X.leave (v := some (.int (nar t z))) (fun q => by rw [hret] at q; cases q) hlk
  exact ⟨_, _, Jvm.RoadKit.retN X hx hret ht hd hr, hrun, hended, _, _, rfl, hQ, ⟨_, rfl⟩, hW, hsame.mono hc hs⟩
theorem own_narb {P : Prop} [Decidable P] : nar .boolean (if P then (1 : Int32) else (0 : Int32)) = (if P then (1 : Int32) else (0 : Int32)) := by split <;> rfl
theorem own_narb01 {z : Int32} (h : z = 0 ∨ z = 1) : nar .boolean z = z := by rcases h with rfl | rfl <;> rfl
/-- a function turned at one place -/
def up {α : Type} (f : Nat → α) (k : Nat) (v : α) : Nat → α := fun i => if i = k then v else f i
theorem up_same {α : Type} (f : Nat → α) (k : Nat) (v : α) : up f k v k = v := if_pos rfl
theorem up_ne {α : Type} (f : Nat → α) {k i : Nat} (v : α) (q : i ≠ k) : up f k v i = f i := if_neg q
/-- an array of n places; place i holds g i -/
def Ary (Z : State) (h : Heap) (a : Addr) (ty : FieldType) (n : Nat) (g : Nat → Value) : Prop := ∃ c : Cell, Arr Z h a c ty ∧ c.slots.size = n ∧ n < 2 ^ 31 ∧ ∀ i, i < n → c.slots[i]? = some (g i)
variable {ty : FieldType} {n : Nat} {g : Nat → Value}
theorem Ary.lt (F : Ary Z h a ty n g) : a < h.size := by obtain ⟨c, A, -⟩ := F; exact A.lt
theorem Ary.ext (F : Ary Z h a ty n g) (E : Ext h h') : Ary Z h' a ty n g := by obtain ⟨c, A, r⟩ := F; exact ⟨c, A.ext E, r⟩
theorem Ary.other {sl : Nat} {v : Value} (F : Ary Z h b ty n g) (W : Wr h h' a sl v) (q : b ≠ a) : Ary Z h' b ty n g := by obtain ⟨c, A, r⟩ := F; exact ⟨c, A.other W q, r⟩
theorem Ary.keep {ws : List Addr} (F : Ary Z h a ty n g) (K : Keep h h' ws) (q : a ∉ ws) : Ary Z h' a ty n g := by obtain ⟨c, A, r⟩ := F; exact ⟨c, ⟨K.2.1 a c A.1 q, A.2⟩, r⟩
theorem Ary.set {k : Nat} {v : Value} (F : Ary Z h a ty n g) (W : Wr h h' a k v) : Ary Z h' a ty n (up g k v) := by
  obtain ⟨c, A, S, B, H⟩ := F
  refine ⟨_, A.same W, by rw [sz_set]; exact S, B, fun i hi => ?_⟩
  by_cases q : k = i
  · subst q; rw [up_same]; simp [Cell.setSlot, S, hi]
  · rw [up_ne _ _ (Ne.symm q), ← H i hi]; simp only [Cell.setSlot]; rw [Array.getElem?_setIfInBounds_ne q]
theorem Ary.new {k : ClassId} {z : Int32} (A : Arr Z h a (newA k ty z) ty) (q : z.toInt = n) : Ary Z h a ty n (fun _ => defaultValue ty) := by
  have e1 : z.toNatClampNeg = n := by simp only [Int32.toNatClampNeg]; omega
  refine ⟨_, A, by rw [sz_new]; exact e1, ?_, fun i hi => ?_⟩
  · have := Int32.toInt_lt z; omega
  · simp [newA, e1, hi]
theorem Ary.congr {g' : Nat → Value} (F : Ary Z h a ty n g) (q : ∀ i, i < n → g i = g' i) : Ary Z h a ty n g' := by
  obtain ⟨c, A, S, B, H⟩ := F
  exact ⟨c, A, S, B, fun i hi => by rw [← q i hi]; exact H i hi⟩
abbrev AryI (Z : State) (h : Heap) (a : Addr) (ty : FieldType) (n : Nat) (g : Nat → Int32) : Prop := Ary Z h a ty n (fun i => .int (g i))
abbrev AryJ (Z : State) (h : Heap) (a : Addr) (n : Nat) (g : Nat → Int64) : Prop := Ary Z h a .long n (fun i => .long (g i))
theorem own_upI (f : Nat → Int32) (k : Nat) (v : Int32) : up (fun i => Value.int (f i)) k (.int v) = fun i => Value.int (up f k v i) := by funext i; simp only [up]; split <;> rfl
theorem own_upJ (f : Nat → Int64) (k : Nat) (v : Int64) : up (fun i => Value.long (f i)) k (.long v) = fun i => Value.long (up f k v i) := by funext i; simp only [up]; split <;> rfl
theorem Ary.setI {f : Nat → Int32} {k : Nat} {v : Int32} (F : AryI Z h a ty n f) (W : Wr h h' a k (.int v)) : AryI Z h' a ty n (up f k v) := by have r := Ary.set F W; rw [own_upI] at r; exact r
theorem Ary.setJ {f : Nat → Int64} {k : Nat} {v : Int64} (F : AryJ Z h a n f) (W : Wr h h' a k (.long v)) : AryJ Z h' a n (up f k v) := by have r := Ary.set F W; rw [own_upJ] at r; exact r
theorem own_idx {c : Cell} {j : Int32} {k : Nat} (S : c.slots.size = n) (q : j.toInt = k) (hk : k < n) : ¬ (j < 0 ∨ c.slots.size ≤ j.toNatClampNeg) ∧ j.toNatClampNeg = k := by
  have e1 : j.toNatClampNeg = k := by simp only [Int32.toNatClampNeg]; omega
  have e0 : (0 : Int32).toInt = 0 := rfl
  refine ⟨?_, e1⟩
  rw [e1, S, Int32.lt_iff_toInt_lt]; omega
theorem own_ld (X : Stand p l e R s m args below meth c T locs cells slots) (hx : p.tables.exec = Jvm.exec) (hZ : Z.Warmed39 s.vm) (eT : T.heap = h) (F : Ary Z h a ty n g) {j : Int32} (k : Nat) (q : j.toInt = k) (hk : k < n) {v : Value} (hv : g k = v) {i : Instr}
    (hi : (i = .iaload ∧ ty = .int) ∨ (i = .laload ∧ ty = .long) ∨ (i = .caload ∧ ty = .char) ∨ (i = .baload ∧ ty = .byte)) {f : JFrame} (hg : f.method = m) {rest : List Value} (hs : f.stack = .int j :: .ref a :: rest) (hd : decode c.code f.pc = .ok (i, 1)) :
    ∀ target, Steps p.tables e below (T.setTop { f with pc := f.pc + 1, stack := v :: rest }) target → Steps p.tables e below (T.setTop f) target := by
  subst hv
  obtain ⟨cl, A, S, -, H⟩ := F
  obtain ⟨hin, e1⟩ := own_idx S q hk
  have hat : cl.slots[j.toNatClampNeg]? = some (g k) := by rw [e1]; exact H k hk
  intro t kt
  rcases hi with ⟨rfl, rfl⟩ | ⟨rfl, rfl⟩ | ⟨rfl, rfl⟩ | ⟨rfl, rfl⟩
  · exact X.iaload hx (by rw [eT]; exact A.1) (State.isArrayOf_alike hZ.alike A.2.1) A.2.2 hin hat hg hs hd t kt
  · exact X.laload hx (by rw [eT]; exact A.1) (State.isArrayOf_alike hZ.alike A.2.1) A.2.2 hin hat hg hs hd t kt
  · exact X.caload hx (by rw [eT]; exact A.1) (State.isArrayOf_alike hZ.alike A.2.1) A.2.2 hin hat hg hs hd t kt
  · exact X.baloadBytes hx (by rw [eT]; exact A.1) (State.isArrayOf_alike hZ.alike A.2.1) A.2.2 hin hat hg hs hd t kt
theorem own_len (X : Stand p l e R s m args below meth c T locs cells slots) (hx : p.tables.exec = Jvm.exec) (hZ : Z.Warmed39 s.vm) (eT : T.heap = h) (F : Ary Z h a ty n g) {z : Int32} (hz : n.toInt32 = z) {f : JFrame} (hg : f.method = m) {rest : List Value} (hs : f.stack = .ref a :: rest) (hd : decode c.code f.pc = .ok (.arraylength, 1)) :
    ∀ target, Steps p.tables e below (T.setTop { f with pc := f.pc + 1, stack := .int z :: rest }) target → Steps p.tables e below (T.setTop f) target := by
  subst hz
  obtain ⟨cl, A, S, -⟩ := F
  intro t kt
  refine X.arraylength hx (by rw [eT]; exact A.1) (State.isArrayOf_alike hZ.alike A.2.1) hg hs hd t ?_
  rw [S]; exact kt
theorem own_stI (X : Stand p l e R s m args below meth c T locs cells slots) (hx : p.tables.exec = Jvm.exec) (hZ : Z.Warmed39 s.vm) (eT : T.heap = h) (F : Ary Z h a .int n g) {j x : Int32} (k : Nat) (q : j.toInt = k) (hk : k < n) {f : JFrame} (hg : f.method = m) {rest : List Value} (hs : f.stack = .int x :: .int j :: .ref a :: rest) (hd : decode c.code f.pc = .ok (.iastore, 1)) :
    ∃ T' h', Stand p l e R s m args below meth c T' (locs ++ [⟨a, k⟩]) cells slots ∧ T'.heap = h' ∧ Wr h h' a k (.int x) ∧ ∀ target, Steps p.tables e below (T'.setTop { f with pc := f.pc + 1, stack := rest }) target → Steps p.tables e below (T.setTop f) target := by
  obtain ⟨cl, A, S, -, -⟩ := F
  obtain ⟨hin, e1⟩ := own_idx S q hk
  have r := stI X hx hZ eT A hin hg hs hd
  rw [e1] at r; exact r
theorem own_stJ (X : Stand p l e R s m args below meth c T locs cells slots) (hx : p.tables.exec = Jvm.exec) (hZ : Z.Warmed39 s.vm) (eT : T.heap = h) (F : Ary Z h a .long n g) {j : Int32} {x : Int64} (k : Nat) (q : j.toInt = k) (hk : k < n) {f : JFrame} (hg : f.method = m) {rest : List Value} (hs : f.stack = .long x :: .int j :: .ref a :: rest) (hd : decode c.code f.pc = .ok (.lastore, 1)) :
    ∃ T' h', Stand p l e R s m args below meth c T' (locs ++ [⟨a, k⟩]) cells slots ∧ T'.heap = h' ∧ Wr h h' a k (.long x) ∧ ∀ target, Steps p.tables e below (T'.setTop { f with pc := f.pc + 1, stack := rest }) target → Steps p.tables e below (T.setTop f) target := by
  obtain ⟨cl, A, S, -, -⟩ := F
  obtain ⟨hin, e1⟩ := own_idx S q hk
  have r := stJ X hx hZ eT A hin hg hs hd
  rw [e1] at r; exact r
theorem own_stB (X : Stand p l e R s m args below meth c T locs cells slots) (hx : p.tables.exec = Jvm.exec) (hZ : Z.Warmed39 s.vm) (eT : T.heap = h) (F : Ary Z h a .byte n g) {j x : Int32} (k : Nat) (q : j.toInt = k) (hk : k < n) {f : JFrame} (hg : f.method = m) {rest : List Value} (hs : f.stack = .int x :: .int j :: .ref a :: rest) (hd : decode c.code f.pc = .ok (.bastore, 1)) :
    ∃ T' h', Stand p l e R s m args below meth c T' (locs ++ [⟨a, k⟩]) cells slots ∧ T'.heap = h' ∧ Wr h h' a k (.int (nar .byte x)) ∧ ∀ target, Steps p.tables e below (T'.setTop { f with pc := f.pc + 1, stack := rest }) target → Steps p.tables e below (T.setTop f) target := by
  obtain ⟨cl, A, S, -, -⟩ := F
  obtain ⟨hin, e1⟩ := own_idx S q hk
  have r := stB X hx hZ eT A hin hg hs hd
  rw [e1] at r; exact r
theorem own_stC (X : Stand p l e R s m args below meth c T locs cells slots) (hx : p.tables.exec = Jvm.exec) (hZ : Z.Warmed39 s.vm) (eT : T.heap = h) (F : Ary Z h a .char n g) {j x : Int32} (k : Nat) (q : j.toInt = k) (hk : k < n) {f : JFrame} (hg : f.method = m) {rest : List Value} (hs : f.stack = .int x :: .int j :: .ref a :: rest) (hd : decode c.code f.pc = .ok (.castore, 1)) :
    ∃ T' h', Stand p l e R s m args below meth c T' (locs ++ [⟨a, k⟩]) cells slots ∧ T'.heap = h' ∧ Wr h h' a k (.int (nar .char x)) ∧ ∀ target, Steps p.tables e below (T'.setTop { f with pc := f.pc + 1, stack := rest }) target → Steps p.tables e below (T.setTop f) target := by
  obtain ⟨cl, A, S, -, -⟩ := F
  obtain ⟨hin, e1⟩ := own_idx S q hk
  have r := stC X hx hZ eT A hin hg hs hd
  rw [e1] at r; exact r
theorem own_neA {a0 : Array Value} {k : Nat} {K : String} (F : Exa Z h a K) (wi : (Cond.instantiable K k).before a0 Z = true) (G : Ary Z h b ty n g) : a ≠ b := by
  obtain ⟨cl, A, -⟩ := G
  exact ne_arr F wi A
theorem own_selP {y : MethodName} {k : Nat} {a0 as' : Array Value} (hZ : Z.Warmed39 s.vm) (wi : (Cond.instantiable y.cls k).before a0 Z = true) (wn : (Cond.instanceMethod y).before a0 Z = true) (wp : (Cond.privateMethod y).before a0 Z = true) (hy : y.cls ≠ "java/lang/invoke/MethodHandle" ∧ y.cls ≠ "java/lang/invoke/VarHandle") : (Cond.selects y.cls y y).before as' s = true := by
  have wi' : (Cond.instantiable y.cls k).before as' s = true := mvT hZ wi
  obtain ⟨c, kc, h1, h2, -, h4, -⟩ := Cond.instantiable_spec wi'
  refine selects_self_of_private h1 h2 ?_ (Cond.privateMethod_at (mvP hZ wp (args := #[]))) (mvT hZ wn) hy
  cases hi : kc.isInterface with
  | false => rfl
  | true => rw [hi] at h4; simp at h4
/-- long comparisons -/
theorem own_lwlt {x y : Int64} (h : x < y) : lcmpW x y < 0 := (lw_lt x y).mpr h
theorem own_nlwlt {x y : Int64} (h : ¬ x < y) : ¬ lcmpW x y < 0 := fun q => h ((lw_lt x y).mp q)
theorem own_lwgt {x y : Int64} (h : y < x) : 0 < lcmpW x y := (lw_gt x y).mpr h
theorem own_nlwgt {x y : Int64} (h : ¬ y < x) : ¬ 0 < lcmpW x y := fun q => h ((lw_gt x y).mp q)
theorem own_lweq {x y : Int64} (h : x = y) : lcmpW x y = 0 := (lw_eq x y).mpr h
theorem own_nlweq {x y : Int64} (h : ¬ x = y) : ¬ lcmpW x y = 0 := fun q => h ((lw_eq x y).mp q)
end Own
theorem own_lt {x y : Int32} (h : x < y) : x.toInt < y.toInt := Int32.lt_iff_toInt_lt.mp h
theorem own_nlt {x y : Int32} (h : ¬ x < y) : ¬ x.toInt < y.toInt := fun q => h (Int32.lt_iff_toInt_lt.mpr q)
theorem own_eq {x y : Int32} (h : x = y) : x.toInt = y.toInt := by rw [h]
theorem own_neq {x y : Int32} (h : ¬ x = y) : ¬ x.toInt = y.toInt := fun q => h (Int32.toInt_inj.mp q)
theorem own_ltL {x y : Int64} (h : x < y) : x.toInt < y.toInt := Int64.lt_iff_toInt_lt.mp h
theorem own_nltL {x y : Int64} (h : ¬ x < y) : ¬ x.toInt < y.toInt := fun q => h (Int64.lt_iff_toInt_lt.mpr q)
theorem own_eqL {x y : Int64} (h : x = y) : x.toInt = y.toInt := by rw [h]
theorem own_neqL {x y : Int64} (h : ¬ x = y) : ¬ x.toInt = y.toInt := fun q => h (Int64.toInt_inj.mp q)
theorem own_rng32 (x : Int32) : -2147483648 ≤ x.toInt ∧ x.toInt ≤ 2147483647 := by
  have h1 := Int32.le_toInt x
  have h2 := Int32.toInt_lt x
  omega
theorem own_rng64 (x : Int64) : -9223372036854775808 ≤ x.toInt ∧ x.toInt ≤ 9223372036854775807 := by
  have h1 := Int64.le_toInt x
  have h2 := Int64.toInt_lt x
  omega

theorem own_pk {pp : Int32} : 0 ≤ (((pp.toUInt32 >>> ((2 : Int32) &&& 31).toUInt32).toInt32) &&& (255 : Int32)).toInt ∧ (((pp.toUInt32 >>> ((2 : Int32) &&& 31).toUInt32).toInt32) &&& (255 : Int32)).toInt ≤ 255 := by
  have a1 := c_mask ((pp.toUInt32 >>> ((2 : Int32) &&& 31).toUInt32).toInt32) (255 : Int32) 8 (by decide) (by decide)
  omega
theorem own_pl {lo : Int32} (h1 : 32 ≤ lo.toInt) (h2 : lo.toInt ≤ 255) : 0 ≤ (lo - (32 : Int32)).toInt ∧ (lo - (32 : Int32)).toInt ≤ 255 := by
  have ar1 := own_rng32 ((lo - (32 : Int32)))
  have ar2 := own_rng32 (lo)
  have ar3 : ((32 : Int32)).toInt = 32 := rfl
  have ar4 := c_isub (lo) ((32 : Int32))
  omega
theorem own_n64 {rn : Int32} {kr : Nat} (h : rn.toInt = (kr : Int)) (hk : kr < 64) : ¬ rn = (64 : Int32) := fun q => by
  have t := congrArg Int32.toInt q
  have e : (64 : Int32).toInt = 64 := rfl
  omega
abbrev own_b (o : Int32) : Int32 := nar .byte (o.toInt8.toInt32)
theorem own_b0 : ∀ k : Fin 256, (((own_b (Int32.ofNat k.1)) ||| (32 : Int32)) = (120 : Int32) ↔ (Int32.ofNat k.1 = (120 : Int32) ∨ Int32.ofNat k.1 = (88 : Int32))) ∧ (((own_b (Int32.ofNat k.1)) ||| (32 : Int32)) = (109 : Int32) ↔ (Int32.ofNat k.1 = (109 : Int32) ∨ Int32.ofNat k.1 = (77 : Int32))) ∧ (((own_b (Int32.ofNat k.1)) ||| (32 : Int32)) = (108 : Int32) ↔ (Int32.ofNat k.1 = (108 : Int32) ∨ Int32.ofNat k.1 = (76 : Int32))) := by decide +kernel
theorem own_ofN {c : Int32} {k : Nat} (h : c.toInt = k) (hk : k < 2 ^ 31) : c = Int32.ofNat k := by
  apply Int32.toInt_inj.mp
  rw [h]; exact (Int32.toInt_ofNat_small hk).symm
theorem own_bb {o : Int32} (h : 0 ≤ o.toInt ∧ o.toInt ≤ 255) : (((own_b o) ||| (32 : Int32)) = (120 : Int32) ↔ (o = (120 : Int32) ∨ o = (88 : Int32))) ∧ (((own_b o) ||| (32 : Int32)) = (109 : Int32) ↔ (o = (109 : Int32) ∨ o = (77 : Int32))) ∧ (((own_b o) ||| (32 : Int32)) = (108 : Int32) ↔ (o = (108 : Int32) ∨ o = (76 : Int32))) := by
  have e := own_ofN (c := o) (k := o.toInt.toNat) (by omega) (by omega)
  have q := own_b0 ⟨o.toInt.toNat, by omega⟩
  simp only at q
  rw [← e] at q; exact q
abbrev own_PP (f : Nat → Int32) : Prop := ((f 0) ||| (32 : Int32)) = (120 : Int32) ∧ ((f 1) ||| (32 : Int32)) = (109 : Int32) ∧ ((f 2) ||| (32 : Int32)) = (108 : Int32)
theorem own_fin {z ex o0 o1 o2 : Int32} {f : Nat → Int32} (hz : (z = 1 ∧ own_PP f) ∨ (z = 0 ∧ ¬ own_PP f)) (g0 : 0 ≤ o0.toInt ∧ o0.toInt ≤ 255) (g1 : 0 ≤ o1.toInt ∧ o1.toInt ≤ 255) (g2 : 0 ≤ o2.toInt ∧ o2.toInt ≤ 255) (f0 : f 0 = own_b o0) (f1 : f 1 = own_b o1) (f2 : f 2 = own_b o2)
    (hex : ex = (if o0 = (120 : Int32) then (if o1 = (109 : Int32) then (if o2 = (108 : Int32) then (1 : Int32) else (if o2 = (76 : Int32) then (1 : Int32) else (0 : Int32))) else (if o1 = (77 : Int32) then (if o2 = (108 : Int32) then (1 : Int32) else (if o2 = (76 : Int32) then (1 : Int32) else (0 : Int32))) else (0 : Int32))) else (if o0 = (88 : Int32) then (if o1 = (109 : Int32) then (if o2 = (108 : Int32) then (1 : Int32) else (if o2 = (76 : Int32) then (1 : Int32) else (0 : Int32))) else (if o1 = (77 : Int32) then (if o2 = (108 : Int32) then (1 : Int32) else (if o2 = (76 : Int32) then (1 : Int32) else (0 : Int32))) else (0 : Int32))) else (0 : Int32)))) : z = ex := by
  have b0 := (own_bb g0).1
  have b1 := (own_bb g1).2.1
  have b2 := (own_bb g2).2.2
  rw [← f0] at b0
  rw [← f1] at b1
  rw [← f2] at b2
  unfold own_PP at hz
  rw [b0, b1, b2] at hz
  subst hex
  by_cases c0 : o0 = (120 : Int32) <;> by_cases c1 : o0 = (88 : Int32) <;> by_cases c2 : o1 = (109 : Int32) <;> by_cases c3 : o1 = (77 : Int32) <;> by_cases c4 : o2 = (108 : Int32) <;> by_cases c5 : o2 = (76 : Int32) <;> simp only [c0, c1, c2, c3, c4, c5, if_true, if_false, true_or, or_true, or_false, false_or, and_true, true_and, and_false, false_and, not_true, not_false_iff, or_self, and_self] at hz ⊢ <;> exact hz

theorem own_five {nn vk : Int32} (q : ((nn &&& (2147483647 : Int32)) % (5 : Int32)) = vk) : vk = (0 : Int32) ∨ vk = (1 : Int32) ∨ vk = (2 : Int32) ∨ vk = (3 : Int32) ∨ vk = (4 : Int32) := by
  have ar1 := own_rng32 (((nn &&& (2147483647 : Int32)) % (5 : Int32)))
  have ar2 := own_rng32 ((nn &&& (2147483647 : Int32)))
  have ar3 := own_rng32 (nn)
  have ar4 := c_mask (nn) (2147483647 : Int32) 31 (by decide) (by decide)
  have ar5 := c_irem ((nn &&& (2147483647 : Int32))) (5 : Int32) 5 rfl
  have t := congrArg Int32.toInt q
  have e : ∀ {x : Int32} {z : Int32}, x.toInt = z.toInt → x = z := fun h => Int32.toInt_inj.mp h
  rcases (by omega : vk.toInt = 0 ∨ vk.toInt = 1 ∨ vk.toInt = 2 ∨ vk.toInt = 3 ∨ vk.toInt = 4) with r | r | r | r | r
  · exact Or.inl (e (z := 0) r)
  · exact Or.inr (Or.inl (e (z := 1) r))
  · exact Or.inr (Or.inr (Or.inl (e (z := 2) r)))
  · exact Or.inr (Or.inr (Or.inr (Or.inl (e (z := 3) r))))
  · exact Or.inr (Or.inr (Or.inr (Or.inr (e (z := 4) r))))

theorem own_elv {s : State} {args : Array Value} {t : Term} {a : Addr} {c : Cell} {j w : Int32} (A : Arr s s.heap a c .byte) (ev : t.eval args s none [] s = some (.ref a)) (k : (Jvm.Cond.eq (Jvm.Term.elem t (Jvm.Term.int j)) (Jvm.Term.int w)).value args s none s [] = some true) : c.slots[j.toNatClampNeg]? = some (.int w) := by
  obtain ⟨x, y, hx, hy, -, kin⟩ := cmp_v (Or.inl k)
  have hy' : y = .int w := (Option.some.inj hy).symm
  subst hy'
  obtain ⟨z, rfl⟩ := kin
  have hw : (Jvm.Term.int w).eval args s none [] s = some (.int w) := rfl
  have hz : z = w := by simp only [Cond.value, hx, hw] at k; simpa using k
  subst hz
  exact (elem_in hx ev rfl A.1).2
theorem own_start {s : State} {args : Array Value} {t : Term} {a : Addr} {c : Cell} (A : Arr s s.heap a c .byte) (ev : t.eval args s none [] s = some (.ref a)) (k3 : (Jvm.Cond.eq (Jvm.Term.length t) (Jvm.Term.int (3 : Int32))).value args s none s [] = some true)
    (k5 : (Jvm.Cond.eq (Jvm.Term.elem t (Jvm.Term.int (0 : Int32))) (Jvm.Term.int (120 : Int32))).value args s none s [] = some true) (k7 : (Jvm.Cond.eq (Jvm.Term.elem t (Jvm.Term.int (1 : Int32))) (Jvm.Term.int (109 : Int32))).value args s none s [] = some true) (k8 : (Jvm.Cond.eq (Jvm.Term.elem t (Jvm.Term.int (2 : Int32))) (Jvm.Term.int (108 : Int32))).value args s none s [] = some true) :
    AryI s s.heap a .byte 3 (up (up (up (fun _ => (0 : Int32)) 0 (120 : Int32)) 1 (109 : Int32)) 2 (108 : Int32)) := by
  have hA := Arr.fin (U := s) (Vm.Alike.refl _) A
  have S : c.slots.size = 3 := by
    by_cases hl : c.slots.size < 2 ^ 31
    · have e := len_f (first := s) (o := none) (idx := []) ev hA hl
      have hw : (Jvm.Term.int (3 : Int32)).eval args s none [] s = some (.int (3 : Int32)) := rfl
      have q : c.slots.size.toInt32 = (3 : Int32) := by simp only [Cond.value, e, hw] at k3; simpa using k3
      have q2 := congrArg Int32.toInt q
      rw [len_toInt hl] at q2
      have e3 : (3 : Int32).toInt = 3 := rfl
      omega
    · obtain ⟨x, y, hx, -⟩ := cmp_v (Or.inl k3)
      simp [Term.eval, ev, hA, hl] at hx
  refine ⟨c, A, S, by decide, fun i hi => ?_⟩
  match i, hi with
  | 0, _ => exact own_elv (j := 0) A ev k5
  | 1, _ => exact own_elv (j := 1) A ev k7
  | 2, _ => exact own_elv (j := 2) A ev k8
theorem d1_0 : decode method_3_code 0 = .ok (.iload_n 0, 1) := by decide +kernel
theorem d1_1 : decode method_3_code 1 = .ok (.iconst 3, 1) := by decide +kernel
theorem d1_2 : decode method_3_code 2 = .ok (.iand, 1) := by decide +kernel
theorem d1_3 : decode method_3_code 3 = .ok (.istore_n 2, 1) := by decide +kernel
theorem d1_4 : decode method_3_code 4 = .ok (.iload_n 2, 1) := by decide +kernel
theorem d1_5 : decode method_3_code 5 = .ok (.ifCond .ne 5, 3) := by decide +kernel
theorem d1_8 : decode method_3_code 8 = .ok (.iload_n 1, 1) := by decide +kernel
theorem d1_9 : decode method_3_code 9 = .ok (.ireturn, 1) := by decide +kernel
theorem d1_10 : decode method_3_code 10 = .ok (.iload_n 2, 1) := by decide +kernel
theorem d1_11 : decode method_3_code 11 = .ok (.iconst 1, 1) := by decide +kernel
theorem d1_12 : decode method_3_code 12 = .ok (.if_icmp .ne 8, 3) := by decide +kernel
theorem d1_15 : decode method_3_code 15 = .ok (.iload_n 1, 1) := by decide +kernel
theorem d1_16 : decode method_3_code 16 = .ok (.bipush 32, 2) := by decide +kernel
theorem d1_18 : decode method_3_code 18 = .ok (.isub, 1) := by decide +kernel
theorem d1_19 : decode method_3_code 19 = .ok (.ireturn, 1) := by decide +kernel
theorem d1_20 : decode method_3_code 20 = .ok (.iload_n 0, 1) := by decide +kernel
theorem d1_21 : decode method_3_code 21 = .ok (.iconst 2, 1) := by decide +kernel
theorem d1_22 : decode method_3_code 22 = .ok (.iushr, 1) := by decide +kernel
theorem d1_23 : decode method_3_code 23 = .ok (.sipush 255, 3) := by decide +kernel
theorem d1_26 : decode method_3_code 26 = .ok (.iand, 1) := by decide +kernel
theorem d1_27 : decode method_3_code 27 = .ok (.ireturn, 1) := by decide +kernel
theorem pn_1 : plainName "com/example/tessera/tessera/marc/MarkupNameIsReservedTargetPinLaw" = true := by first | (simp [plainName, overriddenIn]; done) | decide +kernel
theorem ef_1 (m : MethodId) (x0 : Int32) (x1 : Int32) : entryFrame m #[(.int x0), (.int x1)] 3 = mkF m 0 #[.val (.int x0), .val (.int x1), .unset] [] := by first | (simp [entryFrame, mkF, argsToLocals, Value.category]; done) | rfl
def Q1 (Z : State) (pp : Int32) (lo : Int32) (h0 : Heap) (n0 : Nat) (v : Option Value) (h : Heap) (L : List Loc) : Prop := ∃ z : Int32, v = some (.int z) ∧ Fr n0 L ∧ h = h0 ∧ (0 ≤ z.toInt ∧ z.toInt ≤ 255)
set_option maxRecDepth 65536 in
set_option maxHeartbeats 40000000 in
theorem rm1 (l : Launch) (Z : State) (a0 : Array Value) (hw : ∀ d ∈ tables_1, d.before a0 Z = true) (ws : List Jvm.Cond) (pp : Int32) (lo : Int32) (h0 : Heap) (n0 : Nat) (Z0 : n0 ≤ h0.size) (h1 : (32 ≤ lo.toInt)) (h2 : (lo.toInt ≤ 255)) :
    MetFree l (⟨"com/example/tessera/tessera/marc/MarkupNameIsReservedTargetPinLaw", "pick", "(II)I"⟩ : MethodName) (head1 (Jvm.Cond.code (⟨"com/example/tessera/tessera/marc/MarkupNameIsReservedTargetPinLaw", "pick", "(II)I"⟩ : MethodName) method_3_code 3 (some .int) :: ws) ({ frames := 0, cells := 0, slots := 0, locals := 0 } : Room)) (fun a U => a = #[(.int pp), (.int lo)] ∧ Z.Warmed39 U.vm ∧ U.heap = h0) (fun _ _ _ _ _ => True) (fun _ U o U' => ∃ v L, o = .returned v ∧ Q1 Z pp lo h0 n0 v U'.heap L ∧ FrameEnd U o U' L ({ frames := 0, cells := 0, slots := 0, locals := 0 } : Room).cells ({ frames := 0, cells := 0, slots := 0, locals := 0 } : Room).slots) := by
  refine MetFree.of_bodySF (plainFor_of_name pn_1) hisR ?_
  intro p e s m args below meth c s₁ Bd hml0 hP hK
  obtain ⟨rfl, hZ, hh⟩ := hP
  have hx := Bd.exec
  have hby := Bd.bytes
  have hml : c.maxLocals = 3 := hml0
  have hown : s.vm.findClass "com/example/tessera/tessera/marc/MarkupNameIsReservedTargetPinLaw" = some m.cls := findClass_of_methodNamed Bd.named
  have hnm := (name_of_methodNamed Bd.named Bd.method).1
  have X0 : Stand p l e ({ frames := 0, cells := 0, slots := 0, locals := 0 } : Room) s m #[(.int pp), (.int lo)] below meth c s₁ [] 0 0 := Stand.of_body Bd
  have e0 : s₁.heap = h0 := by rw [← hh, Bd.state]; rfl
  have N0 := Fr.nil n0
  show Go p e below s (Q1 Z pp lo h0 n0) ({ frames := 0, cells := 0, slots := 0, locals := 0 } : Room).cells ({ frames := 0, cells := 0, slots := 0, locals := 0 } : Room).slots (s₁.setTop (entryFrame m #[(.int pp), (.int lo)] 3))
  rw [ef_1]
  show Go _ _ _ _ _ _ _ (s₁.setTop (mkF m 0 #[.val (.int pp), .val (.int lo), .unset] []))
  refine Go.step (fun t k => XS.iloadN X0.here hx rfl (hb hby d1_0) rfl k) ?_
  show Go _ _ _ _ _ _ _ (s₁.setTop (mkF m 1 #[.val (.int pp), .val (.int lo), .unset] [(.int pp)]))
  refine Go.step (fun t k => XS.iconst X0.here hx rfl (hb hby d1_1) k) ?_
  show Go _ _ _ _ _ _ _ (s₁.setTop (mkF m 2 #[.val (.int pp), .val (.int lo), .unset] [(.int (3 : Int32)), (.int pp)]))
  refine Go.step (fun t k => XS.iand X0.here hx rfl (hb hby d1_2) rfl k) ?_
  show Go _ _ _ _ _ _ _ (s₁.setTop (mkF m 3 #[.val (.int pp), .val (.int lo), .unset] [(.int (pp &&& (3 : Int32)))]))
  refine Go.step (fun t k => XS.istoreN X0.here hx rfl (hb hby d1_3) rfl (l' := #[.val (.int pp), .val (.int lo), .val (.int (pp &&& (3 : Int32)))]) rfl k) ?_
  show Go _ _ _ _ _ _ _ (s₁.setTop (mkF m 4 #[.val (.int pp), .val (.int lo), .val (.int (pp &&& (3 : Int32)))] []))
  refine Go.step (fun t k => XS.iloadN X0.here hx rfl (hb hby d1_4) rfl k) ?_
  show Go _ _ _ _ _ _ _ (s₁.setTop (mkF m 5 #[.val (.int pp), .val (.int lo), .val (.int (pp &&& (3 : Int32)))] [(.int (pp &&& (3 : Int32)))]))
  by_cases hc5_1 : (pp &&& (3 : Int32)) = (0 : Int32)
  · refine Go.step (fun t k => XS.ifNo X0.here hx rfl (hb hby d1_5) rfl ((if0 _ _).trans (teq hc5_1).2) k) ?_
    show Go _ _ _ _ _ _ _ (s₁.setTop (mkF m 8 #[.val (.int pp), .val (.int lo), .val (.int (pp &&& (3 : Int32)))] []))
    refine Go.step (fun t k => XS.iloadN X0.here hx rfl (hb hby d1_8) rfl k) ?_
    show Go _ _ _ _ _ _ _ (s₁.setTop (mkF m 9 #[.val (.int pp), .val (.int lo), .val (.int (pp &&& (3 : Int32)))] [(.int lo)]))
    refine Go.retI X0 Bd.notSynchronized hx Bd.returns (hb hby d1_9) (by decide) (by decide) ?_
    rw [e0]
    exact ⟨lo, rfl, N0, rfl, ⟨(by omega), h2⟩⟩
  · refine Go.step (fun t k => XS.ifYes X0.here hx rfl (pc0 := 5) (pc' := 10) rfl (hb hby d1_5) rfl ((if0 _ _).trans (feq hc5_1).2) (by decide) (by decide) k) ?_
    show Go _ _ _ _ _ _ _ (s₁.setTop (mkF m 10 #[.val (.int pp), .val (.int lo), .val (.int (pp &&& (3 : Int32)))] []))
    refine Go.step (fun t k => XS.iloadN X0.here hx rfl (hb hby d1_10) rfl k) ?_
    show Go _ _ _ _ _ _ _ (s₁.setTop (mkF m 11 #[.val (.int pp), .val (.int lo), .val (.int (pp &&& (3 : Int32)))] [(.int (pp &&& (3 : Int32)))]))
    refine Go.step (fun t k => XS.iconst X0.here hx rfl (hb hby d1_11) k) ?_
    show Go _ _ _ _ _ _ _ (s₁.setTop (mkF m 12 #[.val (.int pp), .val (.int lo), .val (.int (pp &&& (3 : Int32)))] [(.int (1 : Int32)), (.int (pp &&& (3 : Int32)))]))
    by_cases hc12_2 : (pp &&& (3 : Int32)) = (1 : Int32)
    · refine Go.step (fun t k => XS.icmpNo X0.here hx rfl (hb hby d1_12) rfl (teq hc12_2).2 k) ?_
      show Go _ _ _ _ _ _ _ (s₁.setTop (mkF m 15 #[.val (.int pp), .val (.int lo), .val (.int (pp &&& (3 : Int32)))] []))
      refine Go.step (fun t k => XS.iloadN X0.here hx rfl (hb hby d1_15) rfl k) ?_
      show Go _ _ _ _ _ _ _ (s₁.setTop (mkF m 16 #[.val (.int pp), .val (.int lo), .val (.int (pp &&& (3 : Int32)))] [(.int lo)]))
      refine Go.step (fun t k => XS.bipush X0.here hx rfl (hb hby d1_16) k) ?_
      show Go _ _ _ _ _ _ _ (s₁.setTop (mkF m 18 #[.val (.int pp), .val (.int lo), .val (.int (pp &&& (3 : Int32)))] [(.int (32 : Int32)), (.int lo)]))
      refine Go.step (fun t k => XS.isub X0.here hx rfl (hb hby d1_18) rfl k) ?_
      show Go _ _ _ _ _ _ _ (s₁.setTop (mkF m 19 #[.val (.int pp), .val (.int lo), .val (.int (pp &&& (3 : Int32)))] [(.int (lo - (32 : Int32)))]))
      refine Go.retI X0 Bd.notSynchronized hx Bd.returns (hb hby d1_19) (by decide) (by decide) ?_
      rw [e0]
      exact ⟨(lo - (32 : Int32)), rfl, N0, rfl, (own_pl h1 h2)⟩
    · refine Go.step (fun t k => XS.icmpYes X0.here hx rfl (pc0 := 12) (pc' := 20) rfl (hb hby d1_12) rfl (feq hc12_2).2 (by decide) (by decide) k) ?_
      show Go _ _ _ _ _ _ _ (s₁.setTop (mkF m 20 #[.val (.int pp), .val (.int lo), .val (.int (pp &&& (3 : Int32)))] []))
      refine Go.step (fun t k => XS.iloadN X0.here hx rfl (hb hby d1_20) rfl k) ?_
      show Go _ _ _ _ _ _ _ (s₁.setTop (mkF m 21 #[.val (.int pp), .val (.int lo), .val (.int (pp &&& (3 : Int32)))] [(.int pp)]))
      refine Go.step (fun t k => XS.iconst X0.here hx rfl (hb hby d1_21) k) ?_
      show Go _ _ _ _ _ _ _ (s₁.setTop (mkF m 22 #[.val (.int pp), .val (.int lo), .val (.int (pp &&& (3 : Int32)))] [(.int (2 : Int32)), (.int pp)]))
      refine Go.step (fun t k => XS.iushr X0.here hx rfl (hb hby d1_22) rfl k) ?_
      show Go _ _ _ _ _ _ _ (s₁.setTop (mkF m 23 #[.val (.int pp), .val (.int lo), .val (.int (pp &&& (3 : Int32)))] [(.int ((pp.toUInt32 >>> ((2 : Int32) &&& 31).toUInt32).toInt32))]))
      refine Go.step (fun t k => XS.sipush X0.here hx rfl (hb hby d1_23) k) ?_
      show Go _ _ _ _ _ _ _ (s₁.setTop (mkF m 26 #[.val (.int pp), .val (.int lo), .val (.int (pp &&& (3 : Int32)))] [(.int (255 : Int32)), (.int ((pp.toUInt32 >>> ((2 : Int32) &&& 31).toUInt32).toInt32))]))
      refine Go.step (fun t k => XS.iand X0.here hx rfl (hb hby d1_26) rfl k) ?_
      show Go _ _ _ _ _ _ _ (s₁.setTop (mkF m 27 #[.val (.int pp), .val (.int lo), .val (.int (pp &&& (3 : Int32)))] [(.int (((pp.toUInt32 >>> ((2 : Int32) &&& 31).toUInt32).toInt32) &&& (255 : Int32)))]))
      refine Go.retI X0 Bd.notSynchronized hx Bd.returns (hb hby d1_27) (by decide) (by decide) ?_
      rw [e0]
      exact ⟨(((pp.toUInt32 >>> ((2 : Int32) &&& 31).toUInt32).toInt32) &&& (255 : Int32)), rfl, N0, rfl, own_pk⟩
theorem d2_0 : decode prog_27_method_1_code 0 = .ok (.aload_n 0, 1) := by decide +kernel
theorem d2_1 : decode prog_27_method_1_code 1 = .ok (.invokespecial 1, 3) := by decide +kernel
theorem d2_4 : decode prog_27_method_1_code 4 = .ok (.aload_n 0, 1) := by decide +kernel
theorem d2_5 : decode prog_27_method_1_code 5 = .ok (.bipush 64, 2) := by decide +kernel
theorem d2_7 : decode prog_27_method_1_code 7 = .ok (.newarray .byte, 2) := by decide +kernel
theorem d2_9 : decode prog_27_method_1_code 9 = .ok (.putfield 9, 3) := by decide +kernel
theorem d2_12 : decode prog_27_method_1_code 12 = .ok (.return_, 1) := by decide +kernel
theorem pn_2 : plainName "com/example/tessera/tessera/marc/MarkupName" = true := by first | (simp [plainName, overriddenIn]; done) | decide +kernel
theorem ef_2 (m : MethodId) (x0 : Addr) : entryFrame m #[(.ref x0)] 1 = mkF m 0 #[.val (.ref x0)] [] := by first | (simp [entryFrame, mkF, argsToLocals, Value.category]; done) | rfl
def Q2 (Z : State) (aa : Addr) (h0 : Heap) (n0 : Nat) (v : Option Value) (h : Heap) (L : List Loc) : Prop := ∃ by_ : Addr, v = none ∧ Fr n0 L ∧ Keep h0 h [aa] ∧ Fld Z h aa "com/example/tessera/tessera/marc/MarkupName" "bytes" "[B" (.ref by_) ∧ Fld Z h aa "com/example/tessera/tessera/marc/MarkupName" "length" "I" (.int (0 : Int32)) ∧ Fld Z h aa "com/example/tessera/tessera/marc/MarkupName" "localStart" "I" (.int (0 : Int32)) ∧ AryI Z h by_ .byte 64 (fun _ => (0 : Int32)) ∧ n0 ≤ by_ ∧ aa ≠ by_
set_option maxRecDepth 65536 in
set_option maxHeartbeats 40000000 in
theorem rm2 (l : Launch) (Z : State) (a0 : Array Value) (hw : ∀ d ∈ tables_1, d.before a0 Z = true) (ws : List Jvm.Cond) (aa : Addr) (h0 : Heap) (n0 : Nat) (Z0 : n0 ≤ h0.size) (F_bytes_aa : Fld Z h0 aa "com/example/tessera/tessera/marc/MarkupName" "bytes" "[B" .null) (F_length_aa : Fld Z h0 aa "com/example/tessera/tessera/marc/MarkupName" "length" "I" (.int (0 : Int32))) (F_localStart_aa : Fld Z h0 aa "com/example/tessera/tessera/marc/MarkupName" "localStart" "I" (.int (0 : Int32))) (E_aa : Exa Z h0 aa "com/example/tessera/tessera/marc/MarkupName") (g_aa : n0 ≤ aa) :
    MetFree l (⟨"com/example/tessera/tessera/marc/MarkupName", "<init>", "()V"⟩ : MethodName) (head1 (Jvm.Cond.code (⟨"com/example/tessera/tessera/marc/MarkupName", "<init>", "()V"⟩ : MethodName) prog_27_method_1_code 1 none :: ws) ({ frames := 1, cells := 1, slots := 64, locals := 12 } : Room)) (fun a U => a = #[(.ref aa)] ∧ Z.Warmed39 U.vm ∧ U.heap = h0) (fun _ _ _ _ _ => True) (fun _ U o U' => ∃ v L, o = .returned v ∧ Q2 Z aa h0 n0 v U'.heap L ∧ FrameEnd U o U' L ({ frames := 1, cells := 1, slots := 64, locals := 12 } : Room).cells ({ frames := 1, cells := 1, slots := 64, locals := 12 } : Room).slots) := by
  refine MetFree.of_bodySF (plainFor_of_name pn_2) hisR ?_
  intro p e s m args below meth c s₁ Bd hml0 hP hK
  obtain ⟨rfl, hZ, hh⟩ := hP
  have hx := Bd.exec
  have hby := Bd.bytes
  have hml : c.maxLocals = 1 := hml0
  have hown : s.vm.findClass "com/example/tessera/tessera/marc/MarkupName" = some m.cls := findClass_of_methodNamed Bd.named
  have hnm := (name_of_methodNamed Bd.named Bd.method).1
  have X0 : Stand p l e ({ frames := 1, cells := 1, slots := 64, locals := 12 } : Room) s m #[(.ref aa)] below meth c s₁ [] 0 0 := Stand.of_body Bd
  have e0 : s₁.heap = h0 := by rw [← hh, Bd.state]; rfl
  have N0 := Fr.nil n0
  have K0 := Keep.refl h0 ([aa] : List Addr)
  show Go p e below s (Q2 Z aa h0 n0) ({ frames := 1, cells := 1, slots := 64, locals := 12 } : Room).cells ({ frames := 1, cells := 1, slots := 64, locals := 12 } : Room).slots (s₁.setTop (entryFrame m #[(.ref aa)] 1))
  rw [ef_2]
  show Go _ _ _ _ _ _ _ (s₁.setTop (mkF m 0 #[.val (.ref aa)] []))
  refine Go.step (fun t k => XS.aloadN X0.here hx rfl (hb hby d2_0) rfl rfl k) ?_
  show Go _ _ _ _ _ _ _ (s₁.setTop (mkF m 1 #[.val (.ref aa)] [(.ref aa)]))
  obtain ⟨T1, X1, e1, st1⟩ := initO X0 hx hZ hown (hw _ (List.mem_of_getElem? (i := 11) rfl)) (hw _ (List.mem_of_getElem? (i := 12) rfl)) (hw _ (List.mem_of_getElem? (i := 13) rfl)) e0 (g := (mkF m 1 #[.val (.ref aa)] [(.ref aa)])) rfl (by rw [hml]; rfl) rfl (hb hby d2_1) (by decide) (W := 0) (by show 2 * 0 + _ ≤ _; exact Nat.le_of_eq rfl) (by decide)
  refine Go.step st1 ?_
  show Go _ _ _ _ _ _ _ (T1.setTop (mkF m 4 #[.val (.ref aa)] []))
  refine Go.step (fun t k => XS.aloadN X1.here hx rfl (hb hby d2_4) rfl rfl k) ?_
  show Go _ _ _ _ _ _ _ (T1.setTop (mkF m 5 #[.val (.ref aa)] [(.ref aa)]))
  refine Go.step (fun t k => XS.bipush X1.here hx rfl (hb hby d2_5) k) ?_
  show Go _ _ _ _ _ _ _ (T1.setTop (mkF m 7 #[.val (.ref aa)] [(.int (64 : Int32)), (.ref aa)]))
  obtain ⟨T2, h2, k2, X2, e2, E2, A2, st2⟩ := newP X1 hx hZ (hw _ (List.mem_of_getElem? (i := 14) rfl)) e1 (g := (mkF m 7 #[.val (.ref aa)] [(.int (64 : Int32)), (.ref aa)])) rfl (hb hby d2_7) rfl (by decide) (cap := 64) (by decide) (by decide) (by decide) (by decide)
  obtain ⟨by_, gz2⟩ : ∃ z, z = h0.size := ⟨_, rfl⟩
  have ne_aa_by_ : aa ≠ by_ := Nat.ne_of_lt (Nat.lt_of_lt_of_le F_bytes_aa.lt (Nat.le_of_eq gz2.symm))
  have g_by_ : n0 ≤ by_ := Nat.le_trans Z0 (Nat.le_of_eq gz2.symm)
  have sz_by_ : h0.size ≤ by_ := Nat.le_trans K0.1 (Nat.le_of_eq gz2.symm)
  rw [← gz2] at A2 st2
  replace F_bytes_aa := F_bytes_aa.ext E2
  replace F_length_aa := F_length_aa.ext E2
  replace F_localStart_aa := F_localStart_aa.ext E2
  replace E_aa := E_aa.ext E2
  have Z2 := Nat.le_trans Z0 E2.1
  have K2 := K0.ext E2
  have A_by_ : AryI Z h2 by_ .byte 64 (fun _ => (0 : Int32)) := Ary.new A2 rfl
  refine Go.step st2 ?_
  show Go _ _ _ _ _ _ _ (T2.setTop (mkF m 9 #[.val (.ref aa)] [(.ref by_), (.ref aa)]))
  obtain ⟨T3, h3, X3, e3, W3, st3⟩ := putF X2 hx hZ hown (host := "") (Or.inl (hw _ (List.mem_of_getElem? (i := 15) rfl))) Via.refl e2 F_bytes_aa E_aa (Or.inl (hw _ (List.mem_of_getElem? (i := 16) rfl))) (hw _ (List.mem_of_getElem? (i := 6) rfl)) (ty := (.array .byte)) (by decide) rfl rfl (g := (mkF m 9 #[.val (.ref aa)] [(.ref by_), (.ref aa)])) rfl rfl (hb hby d2_9)
  replace F_length_aa := F_length_aa.other W3 (Or.inr (slot_ne (Or.inl (hw _ (List.mem_of_getElem? (i := 23) rfl))) (Or.inl (hw _ (List.mem_of_getElem? (i := 16) rfl))) (by decide) (t := .int) (t' := (.array .byte)) (by decide) (by decide)))
  replace F_localStart_aa := F_localStart_aa.other W3 (Or.inr (slot_ne (Or.inl (hw _ (List.mem_of_getElem? (i := 32) rfl))) (Or.inl (hw _ (List.mem_of_getElem? (i := 16) rfl))) (by decide) (t := .int) (t' := (.array .byte)) (by decide) (by decide)))
  replace E_aa := E_aa.wr W3
  replace A_by_ := A_by_.other W3 (Ne.symm ne_aa_by_)
  have Z3 := Nat.le_trans Z2 (Keep.of_wr W3).1
  have N3 := Fr.snoc X3 N0 g_aa
  have K3 := K2.wr W3 (Or.inl (List.mem_of_getElem? (i := 0) rfl))
  replace F_bytes_aa := F_bytes_aa.same W3
  refine Go.step st3 ?_
  show Go _ _ _ _ _ _ _ (T3.setTop (mkF m 12 #[.val (.ref aa)] []))
  refine Go.retV X3 Bd.notSynchronized hx Bd.returns (hb hby d2_12) (by decide) (by decide) ?_
  rw [e3]
  exact ⟨by_, rfl, N3, K3, F_bytes_aa, F_length_aa, F_localStart_aa, A_by_, g_by_, ne_aa_by_⟩
theorem d5_0 : decode prog_27_method_3_code 0 = .ok (.aload_n 0, 1) := by decide +kernel
theorem d5_1 : decode prog_27_method_3_code 1 = .ok (.getfield 13, 3) := by decide +kernel
theorem d5_4 : decode prog_27_method_3_code 4 = .ok (.aload_n 0, 1) := by decide +kernel
theorem d5_5 : decode prog_27_method_3_code 5 = .ok (.getfield 9, 3) := by decide +kernel
theorem d5_8 : decode prog_27_method_3_code 8 = .ok (.arraylength, 1) := by decide +kernel
theorem d5_9 : decode prog_27_method_3_code 9 = .ok (.if_icmp .ne 20, 3) := by decide +kernel
theorem d5_29 : decode prog_27_method_3_code 29 = .ok (.aload_n 0, 1) := by decide +kernel
theorem d5_30 : decode prog_27_method_3_code 30 = .ok (.getfield 9, 3) := by decide +kernel
theorem d5_33 : decode prog_27_method_3_code 33 = .ok (.aload_n 0, 1) := by decide +kernel
theorem d5_34 : decode prog_27_method_3_code 34 = .ok (.dup, 1) := by decide +kernel
theorem d5_35 : decode prog_27_method_3_code 35 = .ok (.getfield 13, 3) := by decide +kernel
theorem d5_38 : decode prog_27_method_3_code 38 = .ok (.dup_x1, 1) := by decide +kernel
theorem d5_39 : decode prog_27_method_3_code 39 = .ok (.iconst 1, 1) := by decide +kernel
theorem d5_40 : decode prog_27_method_3_code 40 = .ok (.iadd, 1) := by decide +kernel
theorem d5_41 : decode prog_27_method_3_code 41 = .ok (.putfield 13, 3) := by decide +kernel
theorem d5_44 : decode prog_27_method_3_code 44 = .ok (.iload_n 1, 1) := by decide +kernel
theorem d5_45 : decode prog_27_method_3_code 45 = .ok (.i2b, 1) := by decide +kernel
theorem d5_46 : decode prog_27_method_3_code 46 = .ok (.bastore, 1) := by decide +kernel
theorem d5_47 : decode prog_27_method_3_code 47 = .ok (.iload_n 1, 1) := by decide +kernel
theorem d5_48 : decode prog_27_method_3_code 48 = .ok (.bipush 58, 2) := by decide +kernel
theorem d5_50 : decode prog_27_method_3_code 50 = .ok (.if_icmp .ne 19, 3) := by decide +kernel
theorem d5_53 : decode prog_27_method_3_code 53 = .ok (.aload_n 0, 1) := by decide +kernel
theorem d5_54 : decode prog_27_method_3_code 54 = .ok (.getfield 13, 3) := by decide +kernel
theorem d5_57 : decode prog_27_method_3_code 57 = .ok (.iconst 1, 1) := by decide +kernel
theorem d5_58 : decode prog_27_method_3_code 58 = .ok (.if_icmp .le 11, 3) := by decide +kernel
theorem d5_61 : decode prog_27_method_3_code 61 = .ok (.aload_n 0, 1) := by decide +kernel
theorem d5_62 : decode prog_27_method_3_code 62 = .ok (.aload_n 0, 1) := by decide +kernel
theorem d5_63 : decode prog_27_method_3_code 63 = .ok (.getfield 13, 3) := by decide +kernel
theorem d5_66 : decode prog_27_method_3_code 66 = .ok (.putfield 17, 3) := by decide +kernel
theorem d5_69 : decode prog_27_method_3_code 69 = .ok (.return_, 1) := by decide +kernel
theorem pn_5 : plainName "com/example/tessera/tessera/marc/MarkupName" = true := by first | (simp [plainName, overriddenIn]; done) | decide +kernel
theorem ef_5 (m : MethodId) (x0 : Addr) (x1 : Int32) : entryFrame m #[(.ref x0), (.int x1)] 2 = mkF m 0 #[.val (.ref x0), .val (.int x1)] [] := by first | (simp [entryFrame, mkF, argsToLocals, Value.category]; done) | rfl
def Q5 (Z : State) (aa : Addr) (ov : Int32) (by_ : Addr) (lv : Int32) (ls : Int32) (fb : Nat → Int32) (kl : Nat) (h0 : Heap) (n0 : Nat) (v : Option Value) (h : Heap) (L : List Loc) : Prop := ∃ lz : Int32, v = none ∧ Fr n0 L ∧ Keep h0 h [aa, by_] ∧ Fld Z h aa "com/example/tessera/tessera/marc/MarkupName" "bytes" "[B" (.ref by_) ∧ Fld Z h aa "com/example/tessera/tessera/marc/MarkupName" "length" "I" (.int (lv + (1 : Int32))) ∧ Fld Z h aa "com/example/tessera/tessera/marc/MarkupName" "localStart" "I" (.int lz) ∧ AryI Z h by_ .byte 64 (up fb kl (own_b ov))
set_option maxRecDepth 65536 in
set_option maxHeartbeats 40000000 in
theorem rm5 (l : Launch) (Z : State) (a0 : Array Value) (hw : ∀ d ∈ tables_1, d.before a0 Z = true) (ws : List Jvm.Cond) (aa : Addr) (ov : Int32) (by_ : Addr) (lv : Int32) (ls : Int32) (fb : Nat → Int32) (kl : Nat) (h0 : Heap) (n0 : Nat) (Z0 : n0 ≤ h0.size) (F_bytes_aa : Fld Z h0 aa "com/example/tessera/tessera/marc/MarkupName" "bytes" "[B" (.ref by_)) (F_length_aa : Fld Z h0 aa "com/example/tessera/tessera/marc/MarkupName" "length" "I" (.int lv)) (F_localStart_aa : Fld Z h0 aa "com/example/tessera/tessera/marc/MarkupName" "localStart" "I" (.int ls)) (E_aa : Exa Z h0 aa "com/example/tessera/tessera/marc/MarkupName") (g_aa : n0 ≤ aa) (A_by_ : AryI Z h0 by_ .byte 64 fb) (g_by_ : n0 ≤ by_) (ne_aa_by_ : aa ≠ by_) (hlv : (lv.toInt = (kl : Int))) (hkl : (kl < 64)) :
    MetFree l (⟨"com/example/tessera/tessera/marc/MarkupName", "add", "(I)V"⟩ : MethodName) (head1 (Jvm.Cond.code (⟨"com/example/tessera/tessera/marc/MarkupName", "add", "(I)V"⟩ : MethodName) prog_27_method_3_code 2 none :: ws) ({ frames := 0, cells := 0, slots := 0, locals := 0 } : Room)) (fun a U => a = #[(.ref aa), (.int ov)] ∧ Z.Warmed39 U.vm ∧ U.heap = h0) (fun _ _ _ _ _ => True) (fun _ U o U' => ∃ v L, o = .returned v ∧ Q5 Z aa ov by_ lv ls fb kl h0 n0 v U'.heap L ∧ FrameEnd U o U' L ({ frames := 0, cells := 0, slots := 0, locals := 0 } : Room).cells ({ frames := 0, cells := 0, slots := 0, locals := 0 } : Room).slots) := by
  refine MetFree.of_bodySF (plainFor_of_name pn_5) hisR ?_
  intro p e s m args below meth c s₁ Bd hml0 hP hK
  obtain ⟨rfl, hZ, hh⟩ := hP
  have hx := Bd.exec
  have hby := Bd.bytes
  have hml : c.maxLocals = 2 := hml0
  have hown : s.vm.findClass "com/example/tessera/tessera/marc/MarkupName" = some m.cls := findClass_of_methodNamed Bd.named
  have hnm := (name_of_methodNamed Bd.named Bd.method).1
  have X0 : Stand p l e ({ frames := 0, cells := 0, slots := 0, locals := 0 } : Room) s m #[(.ref aa), (.int ov)] below meth c s₁ [] 0 0 := Stand.of_body Bd
  have e0 : s₁.heap = h0 := by rw [← hh, Bd.state]; rfl
  have N0 := Fr.nil n0
  have K0 := Keep.refl h0 ([aa, by_] : List Addr)
  show Go p e below s (Q5 Z aa ov by_ lv ls fb kl h0 n0) ({ frames := 0, cells := 0, slots := 0, locals := 0 } : Room).cells ({ frames := 0, cells := 0, slots := 0, locals := 0 } : Room).slots (s₁.setTop (entryFrame m #[(.ref aa), (.int ov)] 2))
  rw [ef_5]
  show Go _ _ _ _ _ _ _ (s₁.setTop (mkF m 0 #[.val (.ref aa), .val (.int ov)] []))
  refine Go.step (fun t k => XS.aloadN X0.here hx rfl (hb hby d5_0) rfl rfl k) ?_
  show Go _ _ _ _ _ _ _ (s₁.setTop (mkF m 1 #[.val (.ref aa), .val (.int ov)] [(.ref aa)]))
  obtain ⟨T1, X1, e1, st1⟩ := getF X0 hx hZ hown (host := "") (Or.inl (hw _ (List.mem_of_getElem? (i := 22) rfl))) Via.refl e0 F_length_aa (g := (mkF m 1 #[.val (.ref aa), .val (.int ov)] [(.ref aa)])) rfl rfl (hb hby d5_1)
  refine Go.step st1 ?_
  show Go _ _ _ _ _ _ _ (T1.setTop (mkF m 4 #[.val (.ref aa), .val (.int ov)] [(.int lv)]))
  refine Go.step (fun t k => XS.aloadN X1.here hx rfl (hb hby d5_4) rfl rfl k) ?_
  show Go _ _ _ _ _ _ _ (T1.setTop (mkF m 5 #[.val (.ref aa), .val (.int ov)] [(.ref aa), (.int lv)]))
  obtain ⟨T2, X2, e2, st2⟩ := getF X1 hx hZ hown (host := "") (Or.inl (hw _ (List.mem_of_getElem? (i := 15) rfl))) Via.refl e1 F_bytes_aa (g := (mkF m 5 #[.val (.ref aa), .val (.int ov)] [(.ref aa), (.int lv)])) rfl rfl (hb hby d5_5)
  refine Go.step st2 ?_
  show Go _ _ _ _ _ _ _ (T2.setTop (mkF m 8 #[.val (.ref aa), .val (.int ov)] [(.ref by_), (.int lv)]))
  refine Go.step (own_len X2 hx hZ e2 A_by_ (z := (64 : Int32)) rfl (f := (mkF m 8 #[.val (.ref aa), .val (.int ov)] [(.ref by_), (.int lv)])) rfl rfl (hb hby d5_8)) ?_
  show Go _ _ _ _ _ _ _ (T2.setTop (mkF m 9 #[.val (.ref aa), .val (.int ov)] [(.int (64 : Int32)), (.int lv)]))
  refine Go.step (fun t k => XS.icmpYes X2.here hx rfl (pc0 := 9) (pc' := 29) rfl (hb hby d5_9) rfl (feq (own_n64 hlv hkl : ¬ lv = (64 : Int32))).2 (by decide) (by decide) k) ?_
  show Go _ _ _ _ _ _ _ (T2.setTop (mkF m 29 #[.val (.ref aa), .val (.int ov)] []))
  refine Go.step (fun t k => XS.aloadN X2.here hx rfl (hb hby d5_29) rfl rfl k) ?_
  show Go _ _ _ _ _ _ _ (T2.setTop (mkF m 30 #[.val (.ref aa), .val (.int ov)] [(.ref aa)]))
  obtain ⟨T4, X4, e4, st4⟩ := getF X2 hx hZ hown (host := "") (Or.inl (hw _ (List.mem_of_getElem? (i := 15) rfl))) Via.refl e2 F_bytes_aa (g := (mkF m 30 #[.val (.ref aa), .val (.int ov)] [(.ref aa)])) rfl rfl (hb hby d5_30)
  refine Go.step st4 ?_
  show Go _ _ _ _ _ _ _ (T4.setTop (mkF m 33 #[.val (.ref aa), .val (.int ov)] [(.ref by_)]))
  refine Go.step (fun t k => XS.aloadN X4.here hx rfl (hb hby d5_33) rfl rfl k) ?_
  show Go _ _ _ _ _ _ _ (T4.setTop (mkF m 34 #[.val (.ref aa), .val (.int ov)] [(.ref aa), (.ref by_)]))
  refine Go.step (fun t k => XS.dup X4.here hx rfl (hb hby d5_34) rfl rfl k) ?_
  show Go _ _ _ _ _ _ _ (T4.setTop (mkF m 35 #[.val (.ref aa), .val (.int ov)] [(.ref aa), (.ref aa), (.ref by_)]))
  obtain ⟨T5, X5, e5, st5⟩ := getF X4 hx hZ hown (host := "") (Or.inl (hw _ (List.mem_of_getElem? (i := 22) rfl))) Via.refl e4 F_length_aa (g := (mkF m 35 #[.val (.ref aa), .val (.int ov)] [(.ref aa), (.ref aa), (.ref by_)])) rfl rfl (hb hby d5_35)
  refine Go.step st5 ?_
  show Go _ _ _ _ _ _ _ (T5.setTop (mkF m 38 #[.val (.ref aa), .val (.int ov)] [(.int lv), (.ref aa), (.ref by_)]))
  refine Go.step (fun t k => XS.dupX1 X5.here hx rfl (hb hby d5_38) rfl rfl rfl k) ?_
  show Go _ _ _ _ _ _ _ (T5.setTop (mkF m 39 #[.val (.ref aa), .val (.int ov)] [(.int lv), (.ref aa), (.int lv), (.ref by_)]))
  refine Go.step (fun t k => XS.iconst X5.here hx rfl (hb hby d5_39) k) ?_
  show Go _ _ _ _ _ _ _ (T5.setTop (mkF m 40 #[.val (.ref aa), .val (.int ov)] [(.int (1 : Int32)), (.int lv), (.ref aa), (.int lv), (.ref by_)]))
  refine Go.step (fun t k => XS.iadd X5.here hx rfl (hb hby d5_40) rfl k) ?_
  show Go _ _ _ _ _ _ _ (T5.setTop (mkF m 41 #[.val (.ref aa), .val (.int ov)] [(.int (lv + (1 : Int32))), (.ref aa), (.int lv), (.ref by_)]))
  obtain ⟨T6, h6, X6, e6, W6, st6⟩ := putF X5 hx hZ hown (host := "") (Or.inl (hw _ (List.mem_of_getElem? (i := 22) rfl))) Via.refl e5 F_length_aa E_aa (Or.inl (hw _ (List.mem_of_getElem? (i := 23) rfl))) (hw _ (List.mem_of_getElem? (i := 6) rfl)) (ty := .int) (by decide) rfl rfl (g := (mkF m 41 #[.val (.ref aa), .val (.int ov)] [(.int (lv + (1 : Int32))), (.ref aa), (.int lv), (.ref by_)])) rfl rfl (hb hby d5_41)
  replace F_bytes_aa := F_bytes_aa.other W6 (Or.inr (slot_ne (Or.inl (hw _ (List.mem_of_getElem? (i := 16) rfl))) (Or.inl (hw _ (List.mem_of_getElem? (i := 23) rfl))) (by decide) (t := (.array .byte)) (t' := .int) (by decide) (by decide)))
  replace F_localStart_aa := F_localStart_aa.other W6 (Or.inr (slot_ne (Or.inl (hw _ (List.mem_of_getElem? (i := 32) rfl))) (Or.inl (hw _ (List.mem_of_getElem? (i := 23) rfl))) (by decide) (t := .int) (t' := .int) (by decide) (by decide)))
  replace E_aa := E_aa.wr W6
  replace A_by_ := A_by_.other W6 (Ne.symm ne_aa_by_)
  have Z6 := Nat.le_trans Z0 (Keep.of_wr W6).1
  have N6 := Fr.snoc X6 N0 g_aa
  have K6 := K0.wr W6 (Or.inl (List.mem_of_getElem? (i := 0) rfl))
  replace F_length_aa := F_length_aa.same W6
  refine Go.step st6 ?_
  show Go _ _ _ _ _ _ _ (T6.setTop (mkF m 44 #[.val (.ref aa), .val (.int ov)] [(.int lv), (.ref by_)]))
  refine Go.step (fun t k => XS.iloadN X6.here hx rfl (hb hby d5_44) rfl k) ?_
  show Go _ _ _ _ _ _ _ (T6.setTop (mkF m 45 #[.val (.ref aa), .val (.int ov)] [(.int ov), (.int lv), (.ref by_)]))
  refine Go.step (fun t k => XS.i2b X6.here hx rfl (hb hby d5_45) rfl k) ?_
  show Go _ _ _ _ _ _ _ (T6.setTop (mkF m 46 #[.val (.ref aa), .val (.int ov)] [(.int (ov.toInt8.toInt32)), (.int lv), (.ref by_)]))
  obtain ⟨T7, h7, X7, e7, W7, st7⟩ := own_stB X6 hx hZ e6 A_by_ kl hlv hkl (f := (mkF m 46 #[.val (.ref aa), .val (.int ov)] [(.int (ov.toInt8.toInt32)), (.int lv), (.ref by_)])) rfl rfl (hb hby d5_46)
  replace F_bytes_aa := F_bytes_aa.other W7 (Or.inl ne_aa_by_)
  replace F_length_aa := F_length_aa.other W7 (Or.inl ne_aa_by_)
  replace F_localStart_aa := F_localStart_aa.other W7 (Or.inl ne_aa_by_)
  replace E_aa := E_aa.wr W7
  have Z7 := Nat.le_trans Z6 (Keep.of_wr W7).1
  have N7 := Fr.snoc X7 N6 g_by_
  have K7 := K6.wr W7 (Or.inl (List.mem_of_getElem? (i := 1) rfl))
  replace A_by_ := A_by_.setI W7
  refine Go.step st7 ?_
  show Go _ _ _ _ _ _ _ (T7.setTop (mkF m 47 #[.val (.ref aa), .val (.int ov)] []))
  refine Go.step (fun t k => XS.iloadN X7.here hx rfl (hb hby d5_47) rfl k) ?_
  show Go _ _ _ _ _ _ _ (T7.setTop (mkF m 48 #[.val (.ref aa), .val (.int ov)] [(.int ov)]))
  refine Go.step (fun t k => XS.bipush X7.here hx rfl (hb hby d5_48) k) ?_
  show Go _ _ _ _ _ _ _ (T7.setTop (mkF m 50 #[.val (.ref aa), .val (.int ov)] [(.int (58 : Int32)), (.int ov)]))
  by_cases hc50_8 : ov = (58 : Int32)
  · refine Go.step (fun t k => XS.icmpNo X7.here hx rfl (hb hby d5_50) rfl (teq hc50_8).2 k) ?_
    show Go _ _ _ _ _ _ _ (T7.setTop (mkF m 53 #[.val (.ref aa), .val (.int ov)] []))
    refine Go.step (fun t k => XS.aloadN X7.here hx rfl (hb hby d5_53) rfl rfl k) ?_
    show Go _ _ _ _ _ _ _ (T7.setTop (mkF m 54 #[.val (.ref aa), .val (.int ov)] [(.ref aa)]))
    obtain ⟨T9, X9, e9, st9⟩ := getF X7 hx hZ hown (host := "") (Or.inl (hw _ (List.mem_of_getElem? (i := 22) rfl))) Via.refl e7 F_length_aa (g := (mkF m 54 #[.val (.ref aa), .val (.int ov)] [(.ref aa)])) rfl rfl (hb hby d5_54)
    refine Go.step st9 ?_
    show Go _ _ _ _ _ _ _ (T9.setTop (mkF m 57 #[.val (.ref aa), .val (.int ov)] [(.int (lv + (1 : Int32)))]))
    refine Go.step (fun t k => XS.iconst X9.here hx rfl (hb hby d5_57) k) ?_
    show Go _ _ _ _ _ _ _ (T9.setTop (mkF m 58 #[.val (.ref aa), .val (.int ov)] [(.int (1 : Int32)), (.int (lv + (1 : Int32)))]))
    by_cases hc58_10 : (1 : Int32) < (lv + (1 : Int32))
    · refine Go.step (fun t k => XS.icmpNo X9.here hx rfl (hb hby d5_58) rfl (tlt hc58_10).2.2.2 k) ?_
      show Go _ _ _ _ _ _ _ (T9.setTop (mkF m 61 #[.val (.ref aa), .val (.int ov)] []))
      refine Go.step (fun t k => XS.aloadN X9.here hx rfl (hb hby d5_61) rfl rfl k) ?_
      show Go _ _ _ _ _ _ _ (T9.setTop (mkF m 62 #[.val (.ref aa), .val (.int ov)] [(.ref aa)]))
      refine Go.step (fun t k => XS.aloadN X9.here hx rfl (hb hby d5_62) rfl rfl k) ?_
      show Go _ _ _ _ _ _ _ (T9.setTop (mkF m 63 #[.val (.ref aa), .val (.int ov)] [(.ref aa), (.ref aa)]))
      obtain ⟨T11, X11, e11, st11⟩ := getF X9 hx hZ hown (host := "") (Or.inl (hw _ (List.mem_of_getElem? (i := 22) rfl))) Via.refl e9 F_length_aa (g := (mkF m 63 #[.val (.ref aa), .val (.int ov)] [(.ref aa), (.ref aa)])) rfl rfl (hb hby d5_63)
      refine Go.step st11 ?_
      show Go _ _ _ _ _ _ _ (T11.setTop (mkF m 66 #[.val (.ref aa), .val (.int ov)] [(.int (lv + (1 : Int32))), (.ref aa)]))
      obtain ⟨T12, h12, X12, e12, W12, st12⟩ := putF X11 hx hZ hown (host := "") (Or.inl (hw _ (List.mem_of_getElem? (i := 31) rfl))) Via.refl e11 F_localStart_aa E_aa (Or.inl (hw _ (List.mem_of_getElem? (i := 32) rfl))) (hw _ (List.mem_of_getElem? (i := 6) rfl)) (ty := .int) (by decide) rfl rfl (g := (mkF m 66 #[.val (.ref aa), .val (.int ov)] [(.int (lv + (1 : Int32))), (.ref aa)])) rfl rfl (hb hby d5_66)
      replace F_bytes_aa := F_bytes_aa.other W12 (Or.inr (slot_ne (Or.inl (hw _ (List.mem_of_getElem? (i := 16) rfl))) (Or.inl (hw _ (List.mem_of_getElem? (i := 32) rfl))) (by decide) (t := (.array .byte)) (t' := .int) (by decide) (by decide)))
      replace F_length_aa := F_length_aa.other W12 (Or.inr (slot_ne (Or.inl (hw _ (List.mem_of_getElem? (i := 23) rfl))) (Or.inl (hw _ (List.mem_of_getElem? (i := 32) rfl))) (by decide) (t := .int) (t' := .int) (by decide) (by decide)))
      replace E_aa := E_aa.wr W12
      replace A_by_ := A_by_.other W12 (Ne.symm ne_aa_by_)
      have Z12 := Nat.le_trans Z7 (Keep.of_wr W12).1
      have N12 := Fr.snoc X12 N7 g_aa
      have K12 := K7.wr W12 (Or.inl (List.mem_of_getElem? (i := 0) rfl))
      replace F_localStart_aa := F_localStart_aa.same W12
      refine Go.step st12 ?_
      show Go _ _ _ _ _ _ _ (T12.setTop (mkF m 69 #[.val (.ref aa), .val (.int ov)] []))
      refine Go.retV X12 Bd.notSynchronized hx Bd.returns (hb hby d5_69) (by decide) (by decide) ?_
      rw [e12]
      exact ⟨(lv + (1 : Int32)), rfl, N12, K12, F_bytes_aa, F_length_aa, F_localStart_aa, A_by_⟩
    · refine Go.step (fun t k => XS.icmpYes X9.here hx rfl (pc0 := 58) (pc' := 69) rfl (hb hby d5_58) rfl (flt hc58_10).2.2.2 (by decide) (by decide) k) ?_
      show Go _ _ _ _ _ _ _ (T9.setTop (mkF m 69 #[.val (.ref aa), .val (.int ov)] []))
      refine Go.retV X9 Bd.notSynchronized hx Bd.returns (hb hby d5_69) (by decide) (by decide) ?_
      rw [e9]
      exact ⟨ls, rfl, N7, K7, F_bytes_aa, F_length_aa, F_localStart_aa, A_by_⟩
  · refine Go.step (fun t k => XS.icmpYes X7.here hx rfl (pc0 := 50) (pc' := 69) rfl (hb hby d5_50) rfl (feq hc50_8).2 (by decide) (by decide) k) ?_
    show Go _ _ _ _ _ _ _ (T7.setTop (mkF m 69 #[.val (.ref aa), .val (.int ov)] []))
    refine Go.retV X7 Bd.notSynchronized hx Bd.returns (hb hby d5_69) (by decide) (by decide) ?_
    rw [e7]
    exact ⟨ls, rfl, N7, K7, F_bytes_aa, F_length_aa, F_localStart_aa, A_by_⟩
theorem d4_0 : decode prog_27_method_9_code 0 = .ok (.aload_n 0, 1) := by decide +kernel
theorem d4_1 : decode prog_27_method_9_code 1 = .ok (.getfield 13, 3) := by decide +kernel
theorem d4_11 : decode prog_27_method_9_code 11 = .ok (.iconst 0, 1) := by decide +kernel
theorem d4_12 : decode prog_27_method_9_code 12 = .ok (.ireturn, 1) := by decide +kernel
theorem d4_13 : decode prog_27_method_9_code 13 = .ok (.iconst 0, 1) := by decide +kernel
theorem d4_14 : decode prog_27_method_9_code 14 = .ok (.istore_n 1, 1) := by decide +kernel
theorem d4_15 : decode prog_27_method_9_code 15 = .ok (.iload_n 1, 1) := by decide +kernel
theorem d4_16 : decode prog_27_method_9_code 16 = .ok (.getstatic 47, 3) := by decide +kernel
theorem d4_19 : decode prog_27_method_9_code 19 = .ok (.arraylength, 1) := by decide +kernel
theorem d4_20 : decode prog_27_method_9_code 20 = .ok (.if_icmp .ge 28, 3) := by decide +kernel
theorem d4_23 : decode prog_27_method_9_code 23 = .ok (.aload_n 0, 1) := by decide +kernel
theorem d4_24 : decode prog_27_method_9_code 24 = .ok (.getfield 9, 3) := by decide +kernel
theorem d4_27 : decode prog_27_method_9_code 27 = .ok (.iload_n 1, 1) := by decide +kernel
theorem d4_28 : decode prog_27_method_9_code 28 = .ok (.baload, 1) := by decide +kernel
theorem d4_29 : decode prog_27_method_9_code 29 = .ok (.bipush 32, 2) := by decide +kernel
theorem d4_31 : decode prog_27_method_9_code 31 = .ok (.ior, 1) := by decide +kernel
theorem d4_32 : decode prog_27_method_9_code 32 = .ok (.getstatic 47, 3) := by decide +kernel
theorem d4_35 : decode prog_27_method_9_code 35 = .ok (.iload_n 1, 1) := by decide +kernel
theorem d4_36 : decode prog_27_method_9_code 36 = .ok (.baload, 1) := by decide +kernel
theorem d4_37 : decode prog_27_method_9_code 37 = .ok (.if_icmp .eq 5, 3) := by decide +kernel
theorem d4_4 : decode prog_27_method_9_code 4 = .ok (.getstatic 47, 3) := by decide +kernel
theorem d4_40 : decode prog_27_method_9_code 40 = .ok (.iconst 0, 1) := by decide +kernel
theorem d4_41 : decode prog_27_method_9_code 41 = .ok (.ireturn, 1) := by decide +kernel
theorem d4_42 : decode prog_27_method_9_code 42 = .ok (.iinc 1 1, 3) := by decide +kernel
theorem d4_45 : decode prog_27_method_9_code 45 = .ok (.goto (-30), 3) := by decide +kernel
theorem d4_48 : decode prog_27_method_9_code 48 = .ok (.iconst 1, 1) := by decide +kernel
theorem d4_49 : decode prog_27_method_9_code 49 = .ok (.ireturn, 1) := by decide +kernel
theorem d4_7 : decode prog_27_method_9_code 7 = .ok (.arraylength, 1) := by decide +kernel
theorem d4_8 : decode prog_27_method_9_code 8 = .ok (.if_icmp .eq 5, 3) := by decide +kernel
theorem pn_4_n : plainName "com/example/tessera/tessera/marc/MarkupName" = true := by first | (simp [plainName, overriddenIn]; done) | decide +kernel
theorem ef_4_n (m : MethodId) (x0 : Addr) : entryFrame m #[(.ref x0)] 2 = mkF m 0 #[.val (.ref x0), .unset] [] := by first | (simp [entryFrame, mkF, argsToLocals, Value.category]; done) | rfl
def Q4_n (Z : State) (aa : Addr) (rt : Addr) (lv : Int32) (h0 : Heap) (n0 : Nat) (v : Option Value) (h : Heap) (L : List Loc) : Prop := v = some (.int (0 : Int32)) ∧ Fr n0 L ∧ h = h0
set_option maxRecDepth 65536 in
set_option maxHeartbeats 40000000 in
theorem rm4_n (l : Launch) (Z : State) (a0 : Array Value) (hw : ∀ d ∈ tables_1, d.before a0 Z = true) (ws : List Jvm.Cond) (aa : Addr) (rt : Addr) (lv : Int32) (h0 : Heap) (n0 : Nat) (Z0 : n0 ≤ h0.size) (F_length_aa : Fld Z h0 aa "com/example/tessera/tessera/marc/MarkupName" "length" "I" (.int lv)) (old : Old Z n0 h0) (hsta : (Sta Z Z.heap "com/example/tessera/tessera/marc/MarkupName" "RESERVED_TARGET" "[B" (.ref rt))) (hrt : (AryI Z Z.heap rt .byte 3 (up (up (up (fun _ => (0 : Int32)) 0 (120 : Int32)) 1 (109 : Int32)) 2 (108 : Int32)))) (hn3 : (¬ lv = (3 : Int32))) :
    MetFree l (⟨"com/example/tessera/tessera/marc/MarkupName", "isReservedTarget", "()Z"⟩ : MethodName) (head1 (Jvm.Cond.code (⟨"com/example/tessera/tessera/marc/MarkupName", "isReservedTarget", "()Z"⟩ : MethodName) prog_27_method_9_code 2 (some .boolean) :: ws) ({ frames := 0, cells := 0, slots := 0, locals := 0 } : Room)) (fun a U => a = #[(.ref aa)] ∧ Z.Warmed39 U.vm ∧ U.heap = h0) (fun _ _ _ _ _ => True) (fun _ U o U' => ∃ v L, o = .returned v ∧ Q4_n Z aa rt lv h0 n0 v U'.heap L ∧ FrameEnd U o U' L ({ frames := 0, cells := 0, slots := 0, locals := 0 } : Room).cells ({ frames := 0, cells := 0, slots := 0, locals := 0 } : Room).slots) := by
  refine MetFree.of_bodySF (plainFor_of_name pn_4_n) hisR ?_
  intro p e s m args below meth c s₁ Bd hml0 hP hK
  obtain ⟨rfl, hZ, hh⟩ := hP
  have hx := Bd.exec
  have hby := Bd.bytes
  have hml : c.maxLocals = 2 := hml0
  have hown : s.vm.findClass "com/example/tessera/tessera/marc/MarkupName" = some m.cls := findClass_of_methodNamed Bd.named
  have hnm := (name_of_methodNamed Bd.named Bd.method).1
  have X0 : Stand p l e ({ frames := 0, cells := 0, slots := 0, locals := 0 } : Room) s m #[(.ref aa)] below meth c s₁ [] 0 0 := Stand.of_body Bd
  have e0 : s₁.heap = h0 := by rw [← hh, Bd.state]; rfl
  have N0 := Fr.nil n0
  show Go p e below s (Q4_n Z aa rt lv h0 n0) ({ frames := 0, cells := 0, slots := 0, locals := 0 } : Room).cells ({ frames := 0, cells := 0, slots := 0, locals := 0 } : Room).slots (s₁.setTop (entryFrame m #[(.ref aa)] 2))
  rw [ef_4_n]
  show Go _ _ _ _ _ _ _ (s₁.setTop (mkF m 0 #[.val (.ref aa), .unset] []))
  have S_RT := Sta.ext old.2 hsta
  have A_rt : AryI Z h0 rt .byte 3 (up (up (up (fun _ => (0 : Int32)) 0 (120 : Int32)) 1 (109 : Int32)) 2 (108 : Int32)) := Ary.ext hrt old.2
  refine Go.step (fun t k => XS.aloadN X0.here hx rfl (hb hby d4_0) rfl rfl k) ?_
  show Go _ _ _ _ _ _ _ (s₁.setTop (mkF m 1 #[.val (.ref aa), .unset] [(.ref aa)]))
  obtain ⟨T1, X1, e1, st1⟩ := getF X0 hx hZ hown (host := "") (Or.inl (hw _ (List.mem_of_getElem? (i := 22) rfl))) Via.refl e0 F_length_aa (g := (mkF m 1 #[.val (.ref aa), .unset] [(.ref aa)])) rfl rfl (hb hby d4_1)
  refine Go.step st1 ?_
  show Go _ _ _ _ _ _ _ (T1.setTop (mkF m 4 #[.val (.ref aa), .unset] [(.int lv)]))
  obtain ⟨T2, X2, e2, st2⟩ := getS2 X1 hx hZ hown (host := "") (Or.inl (hw _ (List.mem_of_getElem? (i := 24) rfl))) Via.refl e1 S_RT (g := (mkF m 4 #[.val (.ref aa), .unset] [(.int lv)])) rfl (hb hby d4_4)
  refine Go.step st2 ?_
  show Go _ _ _ _ _ _ _ (T2.setTop (mkF m 7 #[.val (.ref aa), .unset] [(.ref rt), (.int lv)]))
  refine Go.step (own_len X2 hx hZ e2 A_rt (z := (3 : Int32)) rfl (f := (mkF m 7 #[.val (.ref aa), .unset] [(.ref rt), (.int lv)])) rfl rfl (hb hby d4_7)) ?_
  show Go _ _ _ _ _ _ _ (T2.setTop (mkF m 8 #[.val (.ref aa), .unset] [(.int (3 : Int32)), (.int lv)]))
  refine Go.step (fun t k => XS.icmpNo X2.here hx rfl (hb hby d4_8) rfl (feq (hn3 : ¬ lv = (3 : Int32))).1 k) ?_
  show Go _ _ _ _ _ _ _ (T2.setTop (mkF m 11 #[.val (.ref aa), .unset] []))
  refine Go.step (fun t k => XS.iconst X2.here hx rfl (hb hby d4_11) k) ?_
  show Go _ _ _ _ _ _ _ (T2.setTop (mkF m 12 #[.val (.ref aa), .unset] [(.int (0 : Int32))]))
  refine Go.retN X2 Bd.notSynchronized hx (t := .boolean) Bd.returns (by simp) (hb hby d4_12) (by decide) (by decide) (0 : Int32) rfl ?_
  rw [e2]
  exact ⟨rfl, N0, rfl⟩
theorem pn_4_3 : plainName "com/example/tessera/tessera/marc/MarkupName" = true := by first | (simp [plainName, overriddenIn]; done) | decide +kernel
theorem ef_4_3 (m : MethodId) (x0 : Addr) : entryFrame m #[(.ref x0)] 2 = mkF m 0 #[.val (.ref x0), .unset] [] := by first | (simp [entryFrame, mkF, argsToLocals, Value.category]; done) | rfl
def Q4_3 (Z : State) (aa : Addr) (rt : Addr) (by_ : Addr) (fb : Nat → Int32) (h0 : Heap) (n0 : Nat) (v : Option Value) (h : Heap) (L : List Loc) : Prop := ∃ z : Int32, v = some (.int z) ∧ Fr n0 L ∧ h = h0 ∧ ((z = 1 ∧ own_PP fb) ∨ (z = 0 ∧ ¬ own_PP fb))
set_option maxRecDepth 65536 in
set_option maxHeartbeats 40000000 in
theorem rm4_3 (l : Launch) (Z : State) (a0 : Array Value) (hw : ∀ d ∈ tables_1, d.before a0 Z = true) (ws : List Jvm.Cond) (aa : Addr) (rt : Addr) (by_ : Addr) (fb : Nat → Int32) (h0 : Heap) (n0 : Nat) (Z0 : n0 ≤ h0.size) (F_length_aa : Fld Z h0 aa "com/example/tessera/tessera/marc/MarkupName" "length" "I" (.int (3 : Int32))) (F_bytes_aa : Fld Z h0 aa "com/example/tessera/tessera/marc/MarkupName" "bytes" "[B" (.ref by_)) (A_by_ : AryI Z h0 by_ .byte 64 fb) (old : Old Z n0 h0) (hsta : (Sta Z Z.heap "com/example/tessera/tessera/marc/MarkupName" "RESERVED_TARGET" "[B" (.ref rt))) (hrt : (AryI Z Z.heap rt .byte 3 (up (up (up (fun _ => (0 : Int32)) 0 (120 : Int32)) 1 (109 : Int32)) 2 (108 : Int32)))) :
    MetFree l (⟨"com/example/tessera/tessera/marc/MarkupName", "isReservedTarget", "()Z"⟩ : MethodName) (head1 (Jvm.Cond.code (⟨"com/example/tessera/tessera/marc/MarkupName", "isReservedTarget", "()Z"⟩ : MethodName) prog_27_method_9_code 2 (some .boolean) :: ws) ({ frames := 0, cells := 0, slots := 0, locals := 0 } : Room)) (fun a U => a = #[(.ref aa)] ∧ Z.Warmed39 U.vm ∧ U.heap = h0) (fun _ _ _ _ _ => True) (fun _ U o U' => ∃ v L, o = .returned v ∧ Q4_3 Z aa rt by_ fb h0 n0 v U'.heap L ∧ FrameEnd U o U' L ({ frames := 0, cells := 0, slots := 0, locals := 0 } : Room).cells ({ frames := 0, cells := 0, slots := 0, locals := 0 } : Room).slots) := by
  refine MetFree.of_bodySF (plainFor_of_name pn_4_3) hisR ?_
  intro p e s m args below meth c s₁ Bd hml0 hP hK
  obtain ⟨rfl, hZ, hh⟩ := hP
  have hx := Bd.exec
  have hby := Bd.bytes
  have hml : c.maxLocals = 2 := hml0
  have hown : s.vm.findClass "com/example/tessera/tessera/marc/MarkupName" = some m.cls := findClass_of_methodNamed Bd.named
  have hnm := (name_of_methodNamed Bd.named Bd.method).1
  have X0 : Stand p l e ({ frames := 0, cells := 0, slots := 0, locals := 0 } : Room) s m #[(.ref aa)] below meth c s₁ [] 0 0 := Stand.of_body Bd
  have e0 : s₁.heap = h0 := by rw [← hh, Bd.state]; rfl
  have N0 := Fr.nil n0
  show Go p e below s (Q4_3 Z aa rt by_ fb h0 n0) ({ frames := 0, cells := 0, slots := 0, locals := 0 } : Room).cells ({ frames := 0, cells := 0, slots := 0, locals := 0 } : Room).slots (s₁.setTop (entryFrame m #[(.ref aa)] 2))
  rw [ef_4_3]
  show Go _ _ _ _ _ _ _ (s₁.setTop (mkF m 0 #[.val (.ref aa), .unset] []))
  have S_RT := Sta.ext old.2 hsta
  have A_rt : AryI Z h0 rt .byte 3 (up (up (up (fun _ => (0 : Int32)) 0 (120 : Int32)) 1 (109 : Int32)) 2 (108 : Int32)) := Ary.ext hrt old.2
  refine Go.step (fun t k => XS.aloadN X0.here hx rfl (hb hby d4_0) rfl rfl k) ?_
  show Go _ _ _ _ _ _ _ (s₁.setTop (mkF m 1 #[.val (.ref aa), .unset] [(.ref aa)]))
  obtain ⟨T1, X1, e1, st1⟩ := getF X0 hx hZ hown (host := "") (Or.inl (hw _ (List.mem_of_getElem? (i := 22) rfl))) Via.refl e0 F_length_aa (g := (mkF m 1 #[.val (.ref aa), .unset] [(.ref aa)])) rfl rfl (hb hby d4_1)
  refine Go.step st1 ?_
  show Go _ _ _ _ _ _ _ (T1.setTop (mkF m 4 #[.val (.ref aa), .unset] [(.int (3 : Int32))]))
  obtain ⟨T2, X2, e2, st2⟩ := getS2 X1 hx hZ hown (host := "") (Or.inl (hw _ (List.mem_of_getElem? (i := 24) rfl))) Via.refl e1 S_RT (g := (mkF m 4 #[.val (.ref aa), .unset] [(.int (3 : Int32))])) rfl (hb hby d4_4)
  refine Go.step st2 ?_
  show Go _ _ _ _ _ _ _ (T2.setTop (mkF m 7 #[.val (.ref aa), .unset] [(.ref rt), (.int (3 : Int32))]))
  refine Go.step (own_len X2 hx hZ e2 A_rt (z := (3 : Int32)) rfl (f := (mkF m 7 #[.val (.ref aa), .unset] [(.ref rt), (.int (3 : Int32))])) rfl rfl (hb hby d4_7)) ?_
  show Go _ _ _ _ _ _ _ (T2.setTop (mkF m 8 #[.val (.ref aa), .unset] [(.int (3 : Int32)), (.int (3 : Int32))]))
  refine Go.step (fun t k => XS.icmpYes X2.here hx rfl (pc0 := 8) (pc' := 13) rfl (hb hby d4_8) rfl (teq (by decide : (3 : Int32) = (3 : Int32))).1 (by decide) (by decide) k) ?_
  show Go _ _ _ _ _ _ _ (T2.setTop (mkF m 13 #[.val (.ref aa), .unset] []))
  refine Go.step (fun t k => XS.iconst X2.here hx rfl (hb hby d4_13) k) ?_
  show Go _ _ _ _ _ _ _ (T2.setTop (mkF m 14 #[.val (.ref aa), .unset] [(.int (0 : Int32))]))
  refine Go.step (fun t k => XS.istoreN X2.here hx rfl (hb hby d4_14) rfl (l' := #[.val (.ref aa), .val (.int (0 : Int32))]) rfl k) ?_
  show Go _ _ _ _ _ _ _ (T2.setTop (mkF m 15 #[.val (.ref aa), .val (.int (0 : Int32))] []))
  refine Go.step (fun t k => XS.iloadN X2.here hx rfl (hb hby d4_15) rfl k) ?_
  show Go _ _ _ _ _ _ _ (T2.setTop (mkF m 16 #[.val (.ref aa), .val (.int (0 : Int32))] [(.int (0 : Int32))]))
  obtain ⟨T4, X4, e4, st4⟩ := getS2 X2 hx hZ hown (host := "") (Or.inl (hw _ (List.mem_of_getElem? (i := 24) rfl))) Via.refl e2 S_RT (g := (mkF m 16 #[.val (.ref aa), .val (.int (0 : Int32))] [(.int (0 : Int32))])) rfl (hb hby d4_16)
  refine Go.step st4 ?_
  show Go _ _ _ _ _ _ _ (T4.setTop (mkF m 19 #[.val (.ref aa), .val (.int (0 : Int32))] [(.ref rt), (.int (0 : Int32))]))
  refine Go.step (own_len X4 hx hZ e4 A_rt (z := (3 : Int32)) rfl (f := (mkF m 19 #[.val (.ref aa), .val (.int (0 : Int32))] [(.ref rt), (.int (0 : Int32))])) rfl rfl (hb hby d4_19)) ?_
  show Go _ _ _ _ _ _ _ (T4.setTop (mkF m 20 #[.val (.ref aa), .val (.int (0 : Int32))] [(.int (3 : Int32)), (.int (0 : Int32))]))
  refine Go.step (fun t k => XS.icmpNo X4.here hx rfl (hb hby d4_20) rfl (tlt (by decide : (0 : Int32) < (3 : Int32))).2.1 k) ?_
  show Go _ _ _ _ _ _ _ (T4.setTop (mkF m 23 #[.val (.ref aa), .val (.int (0 : Int32))] []))
  refine Go.step (fun t k => XS.aloadN X4.here hx rfl (hb hby d4_23) rfl rfl k) ?_
  show Go _ _ _ _ _ _ _ (T4.setTop (mkF m 24 #[.val (.ref aa), .val (.int (0 : Int32))] [(.ref aa)]))
  obtain ⟨T6, X6, e6, st6⟩ := getF X4 hx hZ hown (host := "") (Or.inl (hw _ (List.mem_of_getElem? (i := 15) rfl))) Via.refl e4 F_bytes_aa (g := (mkF m 24 #[.val (.ref aa), .val (.int (0 : Int32))] [(.ref aa)])) rfl rfl (hb hby d4_24)
  refine Go.step st6 ?_
  show Go _ _ _ _ _ _ _ (T6.setTop (mkF m 27 #[.val (.ref aa), .val (.int (0 : Int32))] [(.ref by_)]))
  refine Go.step (fun t k => XS.iloadN X6.here hx rfl (hb hby d4_27) rfl k) ?_
  show Go _ _ _ _ _ _ _ (T6.setTop (mkF m 28 #[.val (.ref aa), .val (.int (0 : Int32))] [(.int (0 : Int32)), (.ref by_)]))
  refine Go.step (own_ld X6 hx hZ e6 A_by_ (j := (0 : Int32)) 0 rfl (by decide) (v := (.int (fb 0))) rfl (Or.inr (Or.inr (Or.inr ⟨rfl, rfl⟩))) (f := (mkF m 28 #[.val (.ref aa), .val (.int (0 : Int32))] [(.int (0 : Int32)), (.ref by_)])) rfl rfl (hb hby d4_28)) ?_
  show Go _ _ _ _ _ _ _ (T6.setTop (mkF m 29 #[.val (.ref aa), .val (.int (0 : Int32))] [(.int (fb 0))]))
  refine Go.step (fun t k => XS.bipush X6.here hx rfl (hb hby d4_29) k) ?_
  show Go _ _ _ _ _ _ _ (T6.setTop (mkF m 31 #[.val (.ref aa), .val (.int (0 : Int32))] [(.int (32 : Int32)), (.int (fb 0))]))
  refine Go.step (fun t k => XS.ior X6.here hx rfl (hb hby d4_31) rfl k) ?_
  show Go _ _ _ _ _ _ _ (T6.setTop (mkF m 32 #[.val (.ref aa), .val (.int (0 : Int32))] [(.int ((fb 0) ||| (32 : Int32)))]))
  obtain ⟨T8, X8, e8, st8⟩ := getS2 X6 hx hZ hown (host := "") (Or.inl (hw _ (List.mem_of_getElem? (i := 24) rfl))) Via.refl e6 S_RT (g := (mkF m 32 #[.val (.ref aa), .val (.int (0 : Int32))] [(.int ((fb 0) ||| (32 : Int32)))])) rfl (hb hby d4_32)
  refine Go.step st8 ?_
  show Go _ _ _ _ _ _ _ (T8.setTop (mkF m 35 #[.val (.ref aa), .val (.int (0 : Int32))] [(.ref rt), (.int ((fb 0) ||| (32 : Int32)))]))
  refine Go.step (fun t k => XS.iloadN X8.here hx rfl (hb hby d4_35) rfl k) ?_
  show Go _ _ _ _ _ _ _ (T8.setTop (mkF m 36 #[.val (.ref aa), .val (.int (0 : Int32))] [(.int (0 : Int32)), (.ref rt), (.int ((fb 0) ||| (32 : Int32)))]))
  refine Go.step (own_ld X8 hx hZ e8 A_rt (j := (0 : Int32)) 0 rfl (by decide) (v := (.int (120 : Int32))) rfl (Or.inr (Or.inr (Or.inr ⟨rfl, rfl⟩))) (f := (mkF m 36 #[.val (.ref aa), .val (.int (0 : Int32))] [(.int (0 : Int32)), (.ref rt), (.int ((fb 0) ||| (32 : Int32)))])) rfl rfl (hb hby d4_36)) ?_
  show Go _ _ _ _ _ _ _ (T8.setTop (mkF m 37 #[.val (.ref aa), .val (.int (0 : Int32))] [(.int (120 : Int32)), (.int ((fb 0) ||| (32 : Int32)))]))
  by_cases hc37_10 : ((fb 0) ||| (32 : Int32)) = (120 : Int32)
  · refine Go.step (fun t k => XS.icmpYes X8.here hx rfl (pc0 := 37) (pc' := 42) rfl (hb hby d4_37) rfl (teq hc37_10).1 (by decide) (by decide) k) ?_
    show Go _ _ _ _ _ _ _ (T8.setTop (mkF m 42 #[.val (.ref aa), .val (.int (0 : Int32))] []))
    refine Go.step (fun t k => XS.iinc X8.here hx rfl (hb hby d4_42) rfl (l' := #[.val (.ref aa), .val (.int (1 : Int32))]) rfl k) ?_
    show Go _ _ _ _ _ _ _ (T8.setTop (mkF m 45 #[.val (.ref aa), .val (.int (1 : Int32))] []))
    refine Go.step (fun t k => XS.goto X8.here hx rfl (pc0 := 45) (pc' := 15) rfl (hb hby d4_45) (by decide) (by decide) k) ?_
    show Go _ _ _ _ _ _ _ (T8.setTop (mkF m 15 #[.val (.ref aa), .val (.int (1 : Int32))] []))
    refine Go.step (fun t k => XS.iloadN X8.here hx rfl (hb hby d4_15) rfl k) ?_
    show Go _ _ _ _ _ _ _ (T8.setTop (mkF m 16 #[.val (.ref aa), .val (.int (1 : Int32))] [(.int (1 : Int32))]))
    obtain ⟨T11, X11, e11, st11⟩ := getS2 X8 hx hZ hown (host := "") (Or.inl (hw _ (List.mem_of_getElem? (i := 24) rfl))) Via.refl e8 S_RT (g := (mkF m 16 #[.val (.ref aa), .val (.int (1 : Int32))] [(.int (1 : Int32))])) rfl (hb hby d4_16)
    refine Go.step st11 ?_
    show Go _ _ _ _ _ _ _ (T11.setTop (mkF m 19 #[.val (.ref aa), .val (.int (1 : Int32))] [(.ref rt), (.int (1 : Int32))]))
    refine Go.step (own_len X11 hx hZ e11 A_rt (z := (3 : Int32)) rfl (f := (mkF m 19 #[.val (.ref aa), .val (.int (1 : Int32))] [(.ref rt), (.int (1 : Int32))])) rfl rfl (hb hby d4_19)) ?_
    show Go _ _ _ _ _ _ _ (T11.setTop (mkF m 20 #[.val (.ref aa), .val (.int (1 : Int32))] [(.int (3 : Int32)), (.int (1 : Int32))]))
    refine Go.step (fun t k => XS.icmpNo X11.here hx rfl (hb hby d4_20) rfl (tlt (by decide : (1 : Int32) < (3 : Int32))).2.1 k) ?_
    show Go _ _ _ _ _ _ _ (T11.setTop (mkF m 23 #[.val (.ref aa), .val (.int (1 : Int32))] []))
    refine Go.step (fun t k => XS.aloadN X11.here hx rfl (hb hby d4_23) rfl rfl k) ?_
    show Go _ _ _ _ _ _ _ (T11.setTop (mkF m 24 #[.val (.ref aa), .val (.int (1 : Int32))] [(.ref aa)]))
    obtain ⟨T13, X13, e13, st13⟩ := getF X11 hx hZ hown (host := "") (Or.inl (hw _ (List.mem_of_getElem? (i := 15) rfl))) Via.refl e11 F_bytes_aa (g := (mkF m 24 #[.val (.ref aa), .val (.int (1 : Int32))] [(.ref aa)])) rfl rfl (hb hby d4_24)
    refine Go.step st13 ?_
    show Go _ _ _ _ _ _ _ (T13.setTop (mkF m 27 #[.val (.ref aa), .val (.int (1 : Int32))] [(.ref by_)]))
    refine Go.step (fun t k => XS.iloadN X13.here hx rfl (hb hby d4_27) rfl k) ?_
    show Go _ _ _ _ _ _ _ (T13.setTop (mkF m 28 #[.val (.ref aa), .val (.int (1 : Int32))] [(.int (1 : Int32)), (.ref by_)]))
    refine Go.step (own_ld X13 hx hZ e13 A_by_ (j := (1 : Int32)) 1 rfl (by decide) (v := (.int (fb 1))) rfl (Or.inr (Or.inr (Or.inr ⟨rfl, rfl⟩))) (f := (mkF m 28 #[.val (.ref aa), .val (.int (1 : Int32))] [(.int (1 : Int32)), (.ref by_)])) rfl rfl (hb hby d4_28)) ?_
    show Go _ _ _ _ _ _ _ (T13.setTop (mkF m 29 #[.val (.ref aa), .val (.int (1 : Int32))] [(.int (fb 1))]))
    refine Go.step (fun t k => XS.bipush X13.here hx rfl (hb hby d4_29) k) ?_
    show Go _ _ _ _ _ _ _ (T13.setTop (mkF m 31 #[.val (.ref aa), .val (.int (1 : Int32))] [(.int (32 : Int32)), (.int (fb 1))]))
    refine Go.step (fun t k => XS.ior X13.here hx rfl (hb hby d4_31) rfl k) ?_
    show Go _ _ _ _ _ _ _ (T13.setTop (mkF m 32 #[.val (.ref aa), .val (.int (1 : Int32))] [(.int ((fb 1) ||| (32 : Int32)))]))
    obtain ⟨T15, X15, e15, st15⟩ := getS2 X13 hx hZ hown (host := "") (Or.inl (hw _ (List.mem_of_getElem? (i := 24) rfl))) Via.refl e13 S_RT (g := (mkF m 32 #[.val (.ref aa), .val (.int (1 : Int32))] [(.int ((fb 1) ||| (32 : Int32)))])) rfl (hb hby d4_32)
    refine Go.step st15 ?_
    show Go _ _ _ _ _ _ _ (T15.setTop (mkF m 35 #[.val (.ref aa), .val (.int (1 : Int32))] [(.ref rt), (.int ((fb 1) ||| (32 : Int32)))]))
    refine Go.step (fun t k => XS.iloadN X15.here hx rfl (hb hby d4_35) rfl k) ?_
    show Go _ _ _ _ _ _ _ (T15.setTop (mkF m 36 #[.val (.ref aa), .val (.int (1 : Int32))] [(.int (1 : Int32)), (.ref rt), (.int ((fb 1) ||| (32 : Int32)))]))
    refine Go.step (own_ld X15 hx hZ e15 A_rt (j := (1 : Int32)) 1 rfl (by decide) (v := (.int (109 : Int32))) rfl (Or.inr (Or.inr (Or.inr ⟨rfl, rfl⟩))) (f := (mkF m 36 #[.val (.ref aa), .val (.int (1 : Int32))] [(.int (1 : Int32)), (.ref rt), (.int ((fb 1) ||| (32 : Int32)))])) rfl rfl (hb hby d4_36)) ?_
    show Go _ _ _ _ _ _ _ (T15.setTop (mkF m 37 #[.val (.ref aa), .val (.int (1 : Int32))] [(.int (109 : Int32)), (.int ((fb 1) ||| (32 : Int32)))]))
    by_cases hc37_17 : ((fb 1) ||| (32 : Int32)) = (109 : Int32)
    · refine Go.step (fun t k => XS.icmpYes X15.here hx rfl (pc0 := 37) (pc' := 42) rfl (hb hby d4_37) rfl (teq hc37_17).1 (by decide) (by decide) k) ?_
      show Go _ _ _ _ _ _ _ (T15.setTop (mkF m 42 #[.val (.ref aa), .val (.int (1 : Int32))] []))
      refine Go.step (fun t k => XS.iinc X15.here hx rfl (hb hby d4_42) rfl (l' := #[.val (.ref aa), .val (.int (2 : Int32))]) rfl k) ?_
      show Go _ _ _ _ _ _ _ (T15.setTop (mkF m 45 #[.val (.ref aa), .val (.int (2 : Int32))] []))
      refine Go.step (fun t k => XS.goto X15.here hx rfl (pc0 := 45) (pc' := 15) rfl (hb hby d4_45) (by decide) (by decide) k) ?_
      show Go _ _ _ _ _ _ _ (T15.setTop (mkF m 15 #[.val (.ref aa), .val (.int (2 : Int32))] []))
      refine Go.step (fun t k => XS.iloadN X15.here hx rfl (hb hby d4_15) rfl k) ?_
      show Go _ _ _ _ _ _ _ (T15.setTop (mkF m 16 #[.val (.ref aa), .val (.int (2 : Int32))] [(.int (2 : Int32))]))
      obtain ⟨T18, X18, e18, st18⟩ := getS2 X15 hx hZ hown (host := "") (Or.inl (hw _ (List.mem_of_getElem? (i := 24) rfl))) Via.refl e15 S_RT (g := (mkF m 16 #[.val (.ref aa), .val (.int (2 : Int32))] [(.int (2 : Int32))])) rfl (hb hby d4_16)
      refine Go.step st18 ?_
      show Go _ _ _ _ _ _ _ (T18.setTop (mkF m 19 #[.val (.ref aa), .val (.int (2 : Int32))] [(.ref rt), (.int (2 : Int32))]))
      refine Go.step (own_len X18 hx hZ e18 A_rt (z := (3 : Int32)) rfl (f := (mkF m 19 #[.val (.ref aa), .val (.int (2 : Int32))] [(.ref rt), (.int (2 : Int32))])) rfl rfl (hb hby d4_19)) ?_
      show Go _ _ _ _ _ _ _ (T18.setTop (mkF m 20 #[.val (.ref aa), .val (.int (2 : Int32))] [(.int (3 : Int32)), (.int (2 : Int32))]))
      refine Go.step (fun t k => XS.icmpNo X18.here hx rfl (hb hby d4_20) rfl (tlt (by decide : (2 : Int32) < (3 : Int32))).2.1 k) ?_
      show Go _ _ _ _ _ _ _ (T18.setTop (mkF m 23 #[.val (.ref aa), .val (.int (2 : Int32))] []))
      refine Go.step (fun t k => XS.aloadN X18.here hx rfl (hb hby d4_23) rfl rfl k) ?_
      show Go _ _ _ _ _ _ _ (T18.setTop (mkF m 24 #[.val (.ref aa), .val (.int (2 : Int32))] [(.ref aa)]))
      obtain ⟨T20, X20, e20, st20⟩ := getF X18 hx hZ hown (host := "") (Or.inl (hw _ (List.mem_of_getElem? (i := 15) rfl))) Via.refl e18 F_bytes_aa (g := (mkF m 24 #[.val (.ref aa), .val (.int (2 : Int32))] [(.ref aa)])) rfl rfl (hb hby d4_24)
      refine Go.step st20 ?_
      show Go _ _ _ _ _ _ _ (T20.setTop (mkF m 27 #[.val (.ref aa), .val (.int (2 : Int32))] [(.ref by_)]))
      refine Go.step (fun t k => XS.iloadN X20.here hx rfl (hb hby d4_27) rfl k) ?_
      show Go _ _ _ _ _ _ _ (T20.setTop (mkF m 28 #[.val (.ref aa), .val (.int (2 : Int32))] [(.int (2 : Int32)), (.ref by_)]))
      refine Go.step (own_ld X20 hx hZ e20 A_by_ (j := (2 : Int32)) 2 rfl (by decide) (v := (.int (fb 2))) rfl (Or.inr (Or.inr (Or.inr ⟨rfl, rfl⟩))) (f := (mkF m 28 #[.val (.ref aa), .val (.int (2 : Int32))] [(.int (2 : Int32)), (.ref by_)])) rfl rfl (hb hby d4_28)) ?_
      show Go _ _ _ _ _ _ _ (T20.setTop (mkF m 29 #[.val (.ref aa), .val (.int (2 : Int32))] [(.int (fb 2))]))
      refine Go.step (fun t k => XS.bipush X20.here hx rfl (hb hby d4_29) k) ?_
      show Go _ _ _ _ _ _ _ (T20.setTop (mkF m 31 #[.val (.ref aa), .val (.int (2 : Int32))] [(.int (32 : Int32)), (.int (fb 2))]))
      refine Go.step (fun t k => XS.ior X20.here hx rfl (hb hby d4_31) rfl k) ?_
      show Go _ _ _ _ _ _ _ (T20.setTop (mkF m 32 #[.val (.ref aa), .val (.int (2 : Int32))] [(.int ((fb 2) ||| (32 : Int32)))]))
      obtain ⟨T22, X22, e22, st22⟩ := getS2 X20 hx hZ hown (host := "") (Or.inl (hw _ (List.mem_of_getElem? (i := 24) rfl))) Via.refl e20 S_RT (g := (mkF m 32 #[.val (.ref aa), .val (.int (2 : Int32))] [(.int ((fb 2) ||| (32 : Int32)))])) rfl (hb hby d4_32)
      refine Go.step st22 ?_
      show Go _ _ _ _ _ _ _ (T22.setTop (mkF m 35 #[.val (.ref aa), .val (.int (2 : Int32))] [(.ref rt), (.int ((fb 2) ||| (32 : Int32)))]))
      refine Go.step (fun t k => XS.iloadN X22.here hx rfl (hb hby d4_35) rfl k) ?_
      show Go _ _ _ _ _ _ _ (T22.setTop (mkF m 36 #[.val (.ref aa), .val (.int (2 : Int32))] [(.int (2 : Int32)), (.ref rt), (.int ((fb 2) ||| (32 : Int32)))]))
      refine Go.step (own_ld X22 hx hZ e22 A_rt (j := (2 : Int32)) 2 rfl (by decide) (v := (.int (108 : Int32))) rfl (Or.inr (Or.inr (Or.inr ⟨rfl, rfl⟩))) (f := (mkF m 36 #[.val (.ref aa), .val (.int (2 : Int32))] [(.int (2 : Int32)), (.ref rt), (.int ((fb 2) ||| (32 : Int32)))])) rfl rfl (hb hby d4_36)) ?_
      show Go _ _ _ _ _ _ _ (T22.setTop (mkF m 37 #[.val (.ref aa), .val (.int (2 : Int32))] [(.int (108 : Int32)), (.int ((fb 2) ||| (32 : Int32)))]))
      by_cases hc37_24 : ((fb 2) ||| (32 : Int32)) = (108 : Int32)
      · refine Go.step (fun t k => XS.icmpYes X22.here hx rfl (pc0 := 37) (pc' := 42) rfl (hb hby d4_37) rfl (teq hc37_24).1 (by decide) (by decide) k) ?_
        show Go _ _ _ _ _ _ _ (T22.setTop (mkF m 42 #[.val (.ref aa), .val (.int (2 : Int32))] []))
        refine Go.step (fun t k => XS.iinc X22.here hx rfl (hb hby d4_42) rfl (l' := #[.val (.ref aa), .val (.int (3 : Int32))]) rfl k) ?_
        show Go _ _ _ _ _ _ _ (T22.setTop (mkF m 45 #[.val (.ref aa), .val (.int (3 : Int32))] []))
        refine Go.step (fun t k => XS.goto X22.here hx rfl (pc0 := 45) (pc' := 15) rfl (hb hby d4_45) (by decide) (by decide) k) ?_
        show Go _ _ _ _ _ _ _ (T22.setTop (mkF m 15 #[.val (.ref aa), .val (.int (3 : Int32))] []))
        refine Go.step (fun t k => XS.iloadN X22.here hx rfl (hb hby d4_15) rfl k) ?_
        show Go _ _ _ _ _ _ _ (T22.setTop (mkF m 16 #[.val (.ref aa), .val (.int (3 : Int32))] [(.int (3 : Int32))]))
        obtain ⟨T25, X25, e25, st25⟩ := getS2 X22 hx hZ hown (host := "") (Or.inl (hw _ (List.mem_of_getElem? (i := 24) rfl))) Via.refl e22 S_RT (g := (mkF m 16 #[.val (.ref aa), .val (.int (3 : Int32))] [(.int (3 : Int32))])) rfl (hb hby d4_16)
        refine Go.step st25 ?_
        show Go _ _ _ _ _ _ _ (T25.setTop (mkF m 19 #[.val (.ref aa), .val (.int (3 : Int32))] [(.ref rt), (.int (3 : Int32))]))
        refine Go.step (own_len X25 hx hZ e25 A_rt (z := (3 : Int32)) rfl (f := (mkF m 19 #[.val (.ref aa), .val (.int (3 : Int32))] [(.ref rt), (.int (3 : Int32))])) rfl rfl (hb hby d4_19)) ?_
        show Go _ _ _ _ _ _ _ (T25.setTop (mkF m 20 #[.val (.ref aa), .val (.int (3 : Int32))] [(.int (3 : Int32)), (.int (3 : Int32))]))
        refine Go.step (fun t k => XS.icmpYes X25.here hx rfl (pc0 := 20) (pc' := 48) rfl (hb hby d4_20) rfl (flt (by decide : ¬ (3 : Int32) < (3 : Int32))).2.1 (by decide) (by decide) k) ?_
        show Go _ _ _ _ _ _ _ (T25.setTop (mkF m 48 #[.val (.ref aa), .val (.int (3 : Int32))] []))
        refine Go.step (fun t k => XS.iconst X25.here hx rfl (hb hby d4_48) k) ?_
        show Go _ _ _ _ _ _ _ (T25.setTop (mkF m 49 #[.val (.ref aa), .val (.int (3 : Int32))] [(.int (1 : Int32))]))
        refine Go.retN X25 Bd.notSynchronized hx (t := .boolean) Bd.returns (by simp) (hb hby d4_49) (by decide) (by decide) (1 : Int32) rfl ?_
        rw [e25]
        exact ⟨(1 : Int32), rfl, N0, rfl, (Or.inl ⟨rfl, hc37_10, hc37_17, hc37_24⟩)⟩
      · refine Go.step (fun t k => XS.icmpNo X22.here hx rfl (hb hby d4_37) rfl (feq hc37_24).1 k) ?_
        show Go _ _ _ _ _ _ _ (T22.setTop (mkF m 40 #[.val (.ref aa), .val (.int (2 : Int32))] []))
        refine Go.step (fun t k => XS.iconst X22.here hx rfl (hb hby d4_40) k) ?_
        show Go _ _ _ _ _ _ _ (T22.setTop (mkF m 41 #[.val (.ref aa), .val (.int (2 : Int32))] [(.int (0 : Int32))]))
        refine Go.retN X22 Bd.notSynchronized hx (t := .boolean) Bd.returns (by simp) (hb hby d4_41) (by decide) (by decide) (0 : Int32) rfl ?_
        rw [e22]
        exact ⟨(0 : Int32), rfl, N0, rfl, (Or.inr ⟨rfl, fun r => hc37_24 r.2.2⟩)⟩
    · refine Go.step (fun t k => XS.icmpNo X15.here hx rfl (hb hby d4_37) rfl (feq hc37_17).1 k) ?_
      show Go _ _ _ _ _ _ _ (T15.setTop (mkF m 40 #[.val (.ref aa), .val (.int (1 : Int32))] []))
      refine Go.step (fun t k => XS.iconst X15.here hx rfl (hb hby d4_40) k) ?_
      show Go _ _ _ _ _ _ _ (T15.setTop (mkF m 41 #[.val (.ref aa), .val (.int (1 : Int32))] [(.int (0 : Int32))]))
      refine Go.retN X15 Bd.notSynchronized hx (t := .boolean) Bd.returns (by simp) (hb hby d4_41) (by decide) (by decide) (0 : Int32) rfl ?_
      rw [e15]
      exact ⟨(0 : Int32), rfl, N0, rfl, (Or.inr ⟨rfl, fun r => hc37_17 r.2.1⟩)⟩
  · refine Go.step (fun t k => XS.icmpNo X8.here hx rfl (hb hby d4_37) rfl (feq hc37_10).1 k) ?_
    show Go _ _ _ _ _ _ _ (T8.setTop (mkF m 40 #[.val (.ref aa), .val (.int (0 : Int32))] []))
    refine Go.step (fun t k => XS.iconst X8.here hx rfl (hb hby d4_40) k) ?_
    show Go _ _ _ _ _ _ _ (T8.setTop (mkF m 41 #[.val (.ref aa), .val (.int (0 : Int32))] [(.int (0 : Int32))]))
    refine Go.retN X8 Bd.notSynchronized hx (t := .boolean) Bd.returns (by simp) (hb hby d4_41) (by decide) (by decide) (0 : Int32) rfl ?_
    rw [e8]
    exact ⟨(0 : Int32), rfl, N0, rfl, (Or.inr ⟨rfl, fun r => hc37_10 r.1⟩)⟩
theorem pn_0 : plainName "com/example/tessera/tessera/marc/MarkupNameIsReservedTargetPinLaw" = true := by first | (simp [plainName, overriddenIn]; done) | decide +kernel
theorem pd_0_0 : parseMethodDescriptor "(II)I" = some ⟨[.int, .int], some .int⟩ := by decide +kernel
theorem pd_0_1 : parseMethodDescriptor "()V" = some ⟨[], none⟩ := by decide +kernel
theorem pd_0_2 : parseMethodDescriptor "()Z" = some ⟨[], some .boolean⟩ := by decide +kernel
theorem pd_0_3 : parseMethodDescriptor "(I)V" = some ⟨[.int], none⟩ := by decide +kernel
theorem ef_0 (m : MethodId) (x0 : Int32) (x1 : Int32) (x2 : Int32) (x3 : Int32) (x4 : Int32) : entryFrame m #[(.int x0), (.int x1), (.int x2), (.int x3), (.int x4)] maxLocals = mkF m 0 #[.val (.int x0), .val (.int x1), .val (.int x2), .val (.int x3), .val (.int x4), .unset, .unset, .unset, .unset, .unset, .unset, .unset] [] := by first | (simp [entryFrame, mkF, argsToLocals, Value.category, maxLocals]; done) | rfl
def Q0 (Z : State) (nn : Int32) (p0 : Int32) (p1 : Int32) (p2 : Int32) (p3 : Int32) (rt : Addr) (h0 : Heap) (n0 : Nat) (v : Option Value) (h : Heap) (L : List Loc) : Prop := v = some (.int (1 : Int32)) ∧ Fr n0 L
set_option maxRecDepth 65536 in
set_option maxHeartbeats 40000000 in
theorem rm0 (l : Launch) (Z : State) (a0 : Array Value) (hw : ∀ d ∈ tables_1, d.before a0 Z = true) (ws : List Jvm.Cond) (nn : Int32) (p0 : Int32) (p1 : Int32) (p2 : Int32) (p3 : Int32) (rt : Addr) (h0 : Heap) (n0 : Nat) (Z0 : n0 ≤ h0.size) (old : Old Z n0 h0) (hsta : (Sta Z Z.heap "com/example/tessera/tessera/marc/MarkupName" "RESERVED_TARGET" "[B" (.ref rt))) (hrt : (AryI Z Z.heap rt .byte 3 (up (up (up (fun _ => (0 : Int32)) 0 (120 : Int32)) 1 (109 : Int32)) 2 (108 : Int32)))) :
    MetFree l x (head1 (Jvm.Cond.code x code maxLocals ret :: ws) room_1) (fun a U => a = #[(.int nn), (.int p0), (.int p1), (.int p2), (.int p3)] ∧ Z.Warmed39 U.vm ∧ U.heap = h0) (fun _ _ _ _ _ => True) (fun _ U o U' => ∃ v L, o = .returned v ∧ Q0 Z nn p0 p1 p2 p3 rt h0 n0 v U'.heap L ∧ FrameEnd U o U' L 16 256) := by
  refine MetFree.of_bodySF (plainFor_of_name pn_0) hisR ?_
  intro p e s m args below meth c s₁ Bd hml0 hP hK
  obtain ⟨rfl, hZ, hh⟩ := hP
  have hx := Bd.exec
  have hby := Bd.bytes
  have hml : c.maxLocals = 12 := hml0
  have hown : s.vm.findClass "com/example/tessera/tessera/marc/MarkupNameIsReservedTargetPinLaw" = some m.cls := findClass_of_methodNamed Bd.named
  have hnm := (name_of_methodNamed Bd.named Bd.method).1
  have X0 : Stand p l e room_1 s m #[(.int nn), (.int p0), (.int p1), (.int p2), (.int p3)] below meth c s₁ [] 0 0 := Stand.of_body Bd
  have e0 : s₁.heap = h0 := by rw [← hh, Bd.state]; rfl
  have N0 := Fr.nil n0
  show Go p e below s (Q0 Z nn p0 p1 p2 p3 rt h0 n0) 16 256 (s₁.setTop (entryFrame m #[(.int nn), (.int p0), (.int p1), (.int p2), (.int p3)] maxLocals))
  rw [ef_0]
  show Go _ _ _ _ _ _ _ (s₁.setTop (mkF m 0 #[.val (.int nn), .val (.int p0), .val (.int p1), .val (.int p2), .val (.int p3), .unset, .unset, .unset, .unset, .unset, .unset, .unset] []))
  refine Go.step (fun t k => XS.iloadN X0.here hx rfl (hb hby at_0) rfl k) ?_
  show Go _ _ _ _ _ _ _ (s₁.setTop (mkF m 1 #[.val (.int nn), .val (.int p0), .val (.int p1), .val (.int p2), .val (.int p3), .unset, .unset, .unset, .unset, .unset, .unset, .unset] [(.int nn)]))
  refine Go.step (fun t k => X0.ldcInt hx hown (mvT hZ (hw _ (List.mem_of_getElem? (i := 0) rfl))) (g := (mkF m 1 #[.val (.int nn), .val (.int p0), .val (.int p1), .val (.int p2), .val (.int p3), .unset, .unset, .unset, .unset, .unset, .unset, .unset] [(.int nn)])) rfl (hb hby at_1) _ k) ?_
  show Go _ _ _ _ _ _ _ (s₁.setTop (mkF m 3 #[.val (.int nn), .val (.int p0), .val (.int p1), .val (.int p2), .val (.int p3), .unset, .unset, .unset, .unset, .unset, .unset, .unset] [(.int (2147483647 : Int32)), (.int nn)]))
  refine Go.step (fun t k => XS.iand X0.here hx rfl (hb hby at_3) rfl k) ?_
  show Go _ _ _ _ _ _ _ (s₁.setTop (mkF m 4 #[.val (.int nn), .val (.int p0), .val (.int p1), .val (.int p2), .val (.int p3), .unset, .unset, .unset, .unset, .unset, .unset, .unset] [(.int (nn &&& (2147483647 : Int32)))]))
  refine Go.step (fun t k => XS.iconst X0.here hx rfl (hb hby at_4) k) ?_
  show Go _ _ _ _ _ _ _ (s₁.setTop (mkF m 5 #[.val (.int nn), .val (.int p0), .val (.int p1), .val (.int p2), .val (.int p3), .unset, .unset, .unset, .unset, .unset, .unset, .unset] [(.int (5 : Int32)), (.int (nn &&& (2147483647 : Int32)))]))
  refine Go.step (fun t k => iremM X0 hx rfl (hb hby at_5) rfl (by decide) k) ?_
  show Go _ _ _ _ _ _ _ (s₁.setTop (mkF m 6 #[.val (.int nn), .val (.int p0), .val (.int p1), .val (.int p2), .val (.int p3), .unset, .unset, .unset, .unset, .unset, .unset, .unset] [(.int ((nn &&& (2147483647 : Int32)) % (5 : Int32)))]))
  refine Go.step (fun t k => XS.istore X0.here hx rfl (hb hby at_6) rfl (l' := #[.val (.int nn), .val (.int p0), .val (.int p1), .val (.int p2), .val (.int p3), .val (.int ((nn &&& (2147483647 : Int32)) % (5 : Int32))), .unset, .unset, .unset, .unset, .unset, .unset]) rfl k) ?_
  show Go _ _ _ _ _ _ _ (s₁.setTop (mkF m 8 #[.val (.int nn), .val (.int p0), .val (.int p1), .val (.int p2), .val (.int p3), .val (.int ((nn &&& (2147483647 : Int32)) % (5 : Int32))), .unset, .unset, .unset, .unset, .unset, .unset] []))
  generalize hvk : ((nn &&& (2147483647 : Int32)) % (5 : Int32)) = vk
  show Go _ _ _ _ _ _ _ (s₁.setTop (mkF m 8 #[.val (.int nn), .val (.int p0), .val (.int p1), .val (.int p2), .val (.int p3), .val (.int vk), .unset, .unset, .unset, .unset, .unset, .unset] []))
  refine Go.step (fun t k => XS.iloadN X0.here hx rfl (hb hby at_8) rfl k) ?_
  show Go _ _ _ _ _ _ _ (s₁.setTop (mkF m 9 #[.val (.int nn), .val (.int p0), .val (.int p1), .val (.int p2), .val (.int p3), .val (.int vk), .unset, .unset, .unset, .unset, .unset, .unset] [(.int p0)]))
  refine Go.step (fun t k => XS.bipush X0.here hx rfl (hb hby at_9) k) ?_
  show Go _ _ _ _ _ _ _ (s₁.setTop (mkF m 11 #[.val (.int nn), .val (.int p0), .val (.int p1), .val (.int p2), .val (.int p3), .val (.int vk), .unset, .unset, .unset, .unset, .unset, .unset] [(.int (120 : Int32)), (.int p0)]))
  obtain ⟨_, _, ⟨T1, L1, k1, n1⟩, -, X1, ⟨Lc1, hQ1, l1, y1, z1⟩, st1⟩ := Jvm.LawKit.callS X0 hx (y := (⟨"com/example/tessera/tessera/marc/MarkupNameIsReservedTargetPinLaw", "pick", "(II)I"⟩ : MethodName)) hown (mvT hZ (hw _ (List.mem_of_getElem? (i := 1) rfl))) (mvT hZ (hw _ (List.mem_of_getElem? (i := 2) rfl))) (mvT hZ (hw _ (List.mem_of_getElem? (i := 3) rfl))) (mvT hZ (hw _ (List.mem_of_getElem? (i := 4) rfl))) (by decide) (backOf (W := 0) (rm1 l Z a0 hw [] p0 (120 : Int32) h0 n0 Z0 (by decide) (by decide)) hZ (hw _ (List.mem_of_getElem? (i := 4) rfl)) (hw _ (List.mem_of_getElem? (i := 3) rfl)) (by decide) (by decide)) (g := (mkF m 11 #[.val (.int nn), .val (.int p0), .val (.int p1), .val (.int p2), .val (.int p3), .val (.int vk), .unset, .unset, .unset, .unset, .unset, .unset] [(.int (120 : Int32)), (.int p0)])) rfl (by rw [hml]; rfl) (argsL := [(.int p0), (.int (120 : Int32))]) (rest := []) (lenOf pd_0_0 rfl) rfl (by show 2 * 0 + _ ≤ _; exact Nat.le_of_eq rfl) (hb hby at_11) (fun _ _ => ⟨rfl, e0, (by decide : 0 + 0 ≤ _), (by decide : 0 + 0 ≤ _)⟩)
  dsimp only [Pt.U, Pt.locs, Pt.cells, Pt.slots] at X1 l1 y1 z1 st1 hQ1
  subst l1 y1 z1
  obtain ⟨o0, rfl, N1q, K1q, o1_hz⟩ := hQ1
  have N1 := Fr.app N0 N1q
  refine Go.step st1 ?_
  show Go _ _ _ _ _ _ _ (T1.setTop (mkF m 14 #[.val (.int nn), .val (.int p0), .val (.int p1), .val (.int p2), .val (.int p3), .val (.int vk), .unset, .unset, .unset, .unset, .unset, .unset] [(.int o0)]))
  refine Go.step (fun t k => XS.istore X1.here hx rfl (hb hby at_14) rfl (l' := #[.val (.int nn), .val (.int p0), .val (.int p1), .val (.int p2), .val (.int p3), .val (.int vk), .val (.int o0), .unset, .unset, .unset, .unset, .unset]) rfl k) ?_
  show Go _ _ _ _ _ _ _ (T1.setTop (mkF m 16 #[.val (.int nn), .val (.int p0), .val (.int p1), .val (.int p2), .val (.int p3), .val (.int vk), .val (.int o0), .unset, .unset, .unset, .unset, .unset] []))
  refine Go.step (fun t k => XS.iloadN X1.here hx rfl (hb hby at_16) rfl k) ?_
  show Go _ _ _ _ _ _ _ (T1.setTop (mkF m 17 #[.val (.int nn), .val (.int p0), .val (.int p1), .val (.int p2), .val (.int p3), .val (.int vk), .val (.int o0), .unset, .unset, .unset, .unset, .unset] [(.int p1)]))
  refine Go.step (fun t k => XS.bipush X1.here hx rfl (hb hby at_17) k) ?_
  show Go _ _ _ _ _ _ _ (T1.setTop (mkF m 19 #[.val (.int nn), .val (.int p0), .val (.int p1), .val (.int p2), .val (.int p3), .val (.int vk), .val (.int o0), .unset, .unset, .unset, .unset, .unset] [(.int (109 : Int32)), (.int p1)]))
  obtain ⟨_, _, ⟨T2, L2, k2, n2⟩, -, X2, ⟨Lc2, hQ2, l2, y2, z2⟩, st2⟩ := Jvm.LawKit.callS X1 hx (y := (⟨"com/example/tessera/tessera/marc/MarkupNameIsReservedTargetPinLaw", "pick", "(II)I"⟩ : MethodName)) hown (mvT hZ (hw _ (List.mem_of_getElem? (i := 1) rfl))) (mvT hZ (hw _ (List.mem_of_getElem? (i := 2) rfl))) (mvT hZ (hw _ (List.mem_of_getElem? (i := 3) rfl))) (mvT hZ (hw _ (List.mem_of_getElem? (i := 4) rfl))) (by decide) (backOf (W := 0) (rm1 l Z a0 hw [] p1 (109 : Int32) h0 n0 Z0 (by decide) (by decide)) hZ (hw _ (List.mem_of_getElem? (i := 4) rfl)) (hw _ (List.mem_of_getElem? (i := 3) rfl)) (by decide) (by decide)) (g := (mkF m 19 #[.val (.int nn), .val (.int p0), .val (.int p1), .val (.int p2), .val (.int p3), .val (.int vk), .val (.int o0), .unset, .unset, .unset, .unset, .unset] [(.int (109 : Int32)), (.int p1)])) rfl (by rw [hml]; rfl) (argsL := [(.int p1), (.int (109 : Int32))]) (rest := []) (lenOf pd_0_0 rfl) rfl (by show 2 * 0 + _ ≤ _; exact Nat.le_of_eq rfl) (hb hby at_19) (fun _ _ => ⟨rfl, K1q, (by decide : 0 + 0 ≤ _), (by decide : 0 + 0 ≤ _)⟩)
  dsimp only [Pt.U, Pt.locs, Pt.cells, Pt.slots] at X2 l2 y2 z2 st2 hQ2
  subst l2 y2 z2
  obtain ⟨o1, rfl, N2q, K2q, o2_hz⟩ := hQ2
  have N2 := Fr.app N1 N2q
  refine Go.step st2 ?_
  show Go _ _ _ _ _ _ _ (T2.setTop (mkF m 22 #[.val (.int nn), .val (.int p0), .val (.int p1), .val (.int p2), .val (.int p3), .val (.int vk), .val (.int o0), .unset, .unset, .unset, .unset, .unset] [(.int o1)]))
  refine Go.step (fun t k => XS.istore X2.here hx rfl (hb hby at_22) rfl (l' := #[.val (.int nn), .val (.int p0), .val (.int p1), .val (.int p2), .val (.int p3), .val (.int vk), .val (.int o0), .val (.int o1), .unset, .unset, .unset, .unset]) rfl k) ?_
  show Go _ _ _ _ _ _ _ (T2.setTop (mkF m 24 #[.val (.int nn), .val (.int p0), .val (.int p1), .val (.int p2), .val (.int p3), .val (.int vk), .val (.int o0), .val (.int o1), .unset, .unset, .unset, .unset] []))
  refine Go.step (fun t k => XS.iloadN X2.here hx rfl (hb hby at_24) rfl k) ?_
  show Go _ _ _ _ _ _ _ (T2.setTop (mkF m 25 #[.val (.int nn), .val (.int p0), .val (.int p1), .val (.int p2), .val (.int p3), .val (.int vk), .val (.int o0), .val (.int o1), .unset, .unset, .unset, .unset] [(.int p2)]))
  refine Go.step (fun t k => XS.bipush X2.here hx rfl (hb hby at_25) k) ?_
  show Go _ _ _ _ _ _ _ (T2.setTop (mkF m 27 #[.val (.int nn), .val (.int p0), .val (.int p1), .val (.int p2), .val (.int p3), .val (.int vk), .val (.int o0), .val (.int o1), .unset, .unset, .unset, .unset] [(.int (108 : Int32)), (.int p2)]))
  obtain ⟨_, _, ⟨T3, L3, k3, n3⟩, -, X3, ⟨Lc3, hQ3, l3, y3, z3⟩, st3⟩ := Jvm.LawKit.callS X2 hx (y := (⟨"com/example/tessera/tessera/marc/MarkupNameIsReservedTargetPinLaw", "pick", "(II)I"⟩ : MethodName)) hown (mvT hZ (hw _ (List.mem_of_getElem? (i := 1) rfl))) (mvT hZ (hw _ (List.mem_of_getElem? (i := 2) rfl))) (mvT hZ (hw _ (List.mem_of_getElem? (i := 3) rfl))) (mvT hZ (hw _ (List.mem_of_getElem? (i := 4) rfl))) (by decide) (backOf (W := 0) (rm1 l Z a0 hw [] p2 (108 : Int32) h0 n0 Z0 (by decide) (by decide)) hZ (hw _ (List.mem_of_getElem? (i := 4) rfl)) (hw _ (List.mem_of_getElem? (i := 3) rfl)) (by decide) (by decide)) (g := (mkF m 27 #[.val (.int nn), .val (.int p0), .val (.int p1), .val (.int p2), .val (.int p3), .val (.int vk), .val (.int o0), .val (.int o1), .unset, .unset, .unset, .unset] [(.int (108 : Int32)), (.int p2)])) rfl (by rw [hml]; rfl) (argsL := [(.int p2), (.int (108 : Int32))]) (rest := []) (lenOf pd_0_0 rfl) rfl (by show 2 * 0 + _ ≤ _; exact Nat.le_of_eq rfl) (hb hby at_27) (fun _ _ => ⟨rfl, K2q, (by decide : 0 + 0 ≤ _), (by decide : 0 + 0 ≤ _)⟩)
  dsimp only [Pt.U, Pt.locs, Pt.cells, Pt.slots] at X3 l3 y3 z3 st3 hQ3
  subst l3 y3 z3
  obtain ⟨o2, rfl, N3q, K3q, o3_hz⟩ := hQ3
  have N3 := Fr.app N2 N3q
  refine Go.step st3 ?_
  show Go _ _ _ _ _ _ _ (T3.setTop (mkF m 30 #[.val (.int nn), .val (.int p0), .val (.int p1), .val (.int p2), .val (.int p3), .val (.int vk), .val (.int o0), .val (.int o1), .unset, .unset, .unset, .unset] [(.int o2)]))
  refine Go.step (fun t k => XS.istore X3.here hx rfl (hb hby at_30) rfl (l' := #[.val (.int nn), .val (.int p0), .val (.int p1), .val (.int p2), .val (.int p3), .val (.int vk), .val (.int o0), .val (.int o1), .val (.int o2), .unset, .unset, .unset]) rfl k) ?_
  show Go _ _ _ _ _ _ _ (T3.setTop (mkF m 32 #[.val (.int nn), .val (.int p0), .val (.int p1), .val (.int p2), .val (.int p3), .val (.int vk), .val (.int o0), .val (.int o1), .val (.int o2), .unset, .unset, .unset] []))
  refine Go.step (fun t k => XS.iload X3.here hx rfl (hb hby at_32) rfl k) ?_
  show Go _ _ _ _ _ _ _ (T3.setTop (mkF m 34 #[.val (.int nn), .val (.int p0), .val (.int p1), .val (.int p2), .val (.int p3), .val (.int vk), .val (.int o0), .val (.int o1), .val (.int o2), .unset, .unset, .unset] [(.int p3)]))
  refine Go.step (fun t k => XS.sipush X3.here hx rfl (hb hby at_34) k) ?_
  show Go _ _ _ _ _ _ _ (T3.setTop (mkF m 37 #[.val (.int nn), .val (.int p0), .val (.int p1), .val (.int p2), .val (.int p3), .val (.int vk), .val (.int o0), .val (.int o1), .val (.int o2), .unset, .unset, .unset] [(.int (255 : Int32)), (.int p3)]))
  refine Go.step (fun t k => XS.iand X3.here hx rfl (hb hby at_37) rfl k) ?_
  show Go _ _ _ _ _ _ _ (T3.setTop (mkF m 38 #[.val (.int nn), .val (.int p0), .val (.int p1), .val (.int p2), .val (.int p3), .val (.int vk), .val (.int o0), .val (.int o1), .val (.int o2), .unset, .unset, .unset] [(.int (p3 &&& (255 : Int32)))]))
  refine Go.step (fun t k => XS.istore X3.here hx rfl (hb hby at_38) rfl (l' := #[.val (.int nn), .val (.int p0), .val (.int p1), .val (.int p2), .val (.int p3), .val (.int vk), .val (.int o0), .val (.int o1), .val (.int o2), .val (.int (p3 &&& (255 : Int32))), .unset, .unset]) rfl k) ?_
  show Go _ _ _ _ _ _ _ (T3.setTop (mkF m 40 #[.val (.int nn), .val (.int p0), .val (.int p1), .val (.int p2), .val (.int p3), .val (.int vk), .val (.int o0), .val (.int o1), .val (.int o2), .val (.int (p3 &&& (255 : Int32))), .unset, .unset] []))
  obtain ⟨T4, h4, X4, e4, E4, A4, D4, -, st4⟩ := newO X3 hx hZ hown (hw _ (List.mem_of_getElem? (i := 5) rfl)) (hw _ (List.mem_of_getElem? (i := 6) rfl)) (hw _ (List.mem_of_getElem? (i := 7) rfl)) K3q (g := (mkF m 40 #[.val (.int nn), .val (.int p0), .val (.int p1), .val (.int p2), .val (.int p3), .val (.int vk), .val (.int o0), .val (.int o1), .val (.int o2), .val (.int (p3 &&& (255 : Int32))), .unset, .unset] [])) rfl (hb hby at_40) (by decide) (by decide)
  obtain ⟨om, gz4⟩ : ∃ z, z = h0.size := ⟨_, rfl⟩
  have g_om : n0 ≤ om := Nat.le_trans Z0 (Nat.le_of_eq gz4.symm)
  rw [← gz4] at A4 D4 st4
  replace old := Old.ext old E4
  have Z4 := Nat.le_trans Z0 E4.1
  have E_om := A4
  have F_bytes_om : Fld Z h4 om "com/example/tessera/tessera/marc/MarkupName" "bytes" "[B" .null := D4 (Or.inl (hw _ (List.mem_of_getElem? (i := 16) rfl))) (ty := (.array .byte)) (by decide)
  have F_length_om : Fld Z h4 om "com/example/tessera/tessera/marc/MarkupName" "length" "I" (.int (0 : Int32)) := D4 (Or.inl (hw _ (List.mem_of_getElem? (i := 23) rfl))) (ty := .int) (by decide)
  have F_localStart_om : Fld Z h4 om "com/example/tessera/tessera/marc/MarkupName" "localStart" "I" (.int (0 : Int32)) := D4 (Or.inl (hw _ (List.mem_of_getElem? (i := 32) rfl))) (ty := .int) (by decide)
  refine Go.step st4 ?_
  show Go _ _ _ _ _ _ _ (T4.setTop (mkF m 43 #[.val (.int nn), .val (.int p0), .val (.int p1), .val (.int p2), .val (.int p3), .val (.int vk), .val (.int o0), .val (.int o1), .val (.int o2), .val (.int (p3 &&& (255 : Int32))), .unset, .unset] [(.ref om)]))
  refine Go.step (fun t k => XS.dup X4.here hx rfl (hb hby at_43) rfl rfl k) ?_
  show Go _ _ _ _ _ _ _ (T4.setTop (mkF m 44 #[.val (.int nn), .val (.int p0), .val (.int p1), .val (.int p2), .val (.int p3), .val (.int vk), .val (.int o0), .val (.int o1), .val (.int o2), .val (.int (p3 &&& (255 : Int32))), .unset, .unset] [(.ref om), (.ref om)]))
  obtain ⟨_, _, ⟨T5, L5, k5, n5⟩, -, X5, ⟨Lc5, hQ5, l5, y5, z5⟩, st5⟩ := X4.specialBack hx (y := (⟨"com/example/tessera/tessera/marc/MarkupName", "<init>", "()V"⟩ : MethodName)) rfl hown (mvT hZ (hw _ (List.mem_of_getElem? (i := 8) rfl))) (mvT hZ (hw _ (List.mem_of_getElem? (i := 9) rfl))) (mvT hZ (hw _ (List.mem_of_getElem? (i := 10) rfl))) (by decide) (backOf (W := 1) (rm2 l Z a0 hw [] om h4 n0 Z4 F_bytes_om F_length_om F_localStart_om E_om g_om) hZ (hw _ (List.mem_of_getElem? (i := 10) rfl)) (hw _ (List.mem_of_getElem? (i := 7) rfl)) (by decide) (by decide)) (g := (mkF m 44 #[.val (.int nn), .val (.int p0), .val (.int p1), .val (.int p2), .val (.int p3), .val (.int vk), .val (.int o0), .val (.int o1), .val (.int o2), .val (.int (p3 &&& (255 : Int32))), .unset, .unset] [(.ref om), (.ref om)])) rfl (by rw [hml]; rfl) (Steps.refl _) (a := om) (argsL := []) (rest := [(.ref om)]) (lenOf pd_0_1 rfl) rfl (by show 2 * 0 + _ ≤ _; exact Nat.le_of_eq rfl) (hb hby at_44) (fun _ _ => ⟨rfl, e4, (by decide : 1 + 1 ≤ _), (by decide : 3 + 64 ≤ _)⟩)
  dsimp only [Pt.U, Pt.locs, Pt.cells, Pt.slots] at X5 l5 y5 z5 st5 hQ5
  subst l5 y5 z5
  obtain ⟨by_, rfl, N5q, K5q, o5_F_bytes_om, o5_F_length_om, o5_F_localStart_om, o5_A_by_, o5_g_by_, o5_ne_om_by_⟩ := hQ5
  have N5 := Fr.app N3 N5q
  replace old := Old.keep old K5q (allS g_om all0)
  replace E_om := E_om.keep K5q
  have Z5 := Nat.le_trans Z4 K5q.1
  have F_bytes_om := o5_F_bytes_om
  have F_length_om := o5_F_length_om
  have F_localStart_om := o5_F_localStart_om
  have A_by_ := o5_A_by_
  refine Go.step (fun t k => st5.trans k) ?_
  show Go _ _ _ _ _ _ _ (T5.setTop (mkF m 47 #[.val (.int nn), .val (.int p0), .val (.int p1), .val (.int p2), .val (.int p3), .val (.int vk), .val (.int o0), .val (.int o1), .val (.int o2), .val (.int (p3 &&& (255 : Int32))), .unset, .unset] [(.ref om)]))
  refine Go.step (fun t k => XS.astore X5.here hx rfl (hb hby at_47) rfl rfl (l' := #[.val (.int nn), .val (.int p0), .val (.int p1), .val (.int p2), .val (.int p3), .val (.int vk), .val (.int o0), .val (.int o1), .val (.int o2), .val (.int (p3 &&& (255 : Int32))), .val (.ref om), .unset]) rfl k) ?_
  show Go _ _ _ _ _ _ _ (T5.setTop (mkF m 49 #[.val (.int nn), .val (.int p0), .val (.int p1), .val (.int p2), .val (.int p3), .val (.int vk), .val (.int o0), .val (.int o1), .val (.int o2), .val (.int (p3 &&& (255 : Int32))), .val (.ref om), .unset] []))
  rcases own_five hvk with rfl | rfl | rfl | rfl | rfl
  · show Go _ _ _ _ _ _ _ (T5.setTop (mkF m 49 #[.val (.int nn), .val (.int p0), .val (.int p1), .val (.int p2), .val (.int p3), .val (.int (0 : Int32)), .val (.int o0), .val (.int o1), .val (.int o2), .val (.int (p3 &&& (255 : Int32))), .val (.ref om), .unset] []))
    refine Go.step (fun t k => XS.iload X5.here hx rfl (hb hby at_49) rfl k) ?_
    show Go _ _ _ _ _ _ _ (T5.setTop (mkF m 51 #[.val (.int nn), .val (.int p0), .val (.int p1), .val (.int p2), .val (.int p3), .val (.int (0 : Int32)), .val (.int o0), .val (.int o1), .val (.int o2), .val (.int (p3 &&& (255 : Int32))), .val (.ref om), .unset] [(.int (0 : Int32))]))
    refine Go.step (fun t k => XS.ifYes X5.here hx rfl (pc0 := 51) (pc' := 61) rfl (hb hby at_51) rfl ((if0 _ _).trans (flt (by decide : ¬ (0 : Int32) < (0 : Int32))).2.2.2) (by decide) (by decide) k) ?_
    show Go _ _ _ _ _ _ _ (T5.setTop (mkF m 61 #[.val (.int nn), .val (.int p0), .val (.int p1), .val (.int p2), .val (.int p3), .val (.int (0 : Int32)), .val (.int o0), .val (.int o1), .val (.int o2), .val (.int (p3 &&& (255 : Int32))), .val (.ref om), .unset] []))
    refine Go.step (fun t k => XS.iload X5.here hx rfl (hb hby at_61) rfl k) ?_
    show Go _ _ _ _ _ _ _ (T5.setTop (mkF m 63 #[.val (.int nn), .val (.int p0), .val (.int p1), .val (.int p2), .val (.int p3), .val (.int (0 : Int32)), .val (.int o0), .val (.int o1), .val (.int o2), .val (.int (p3 &&& (255 : Int32))), .val (.ref om), .unset] [(.int (0 : Int32))]))
    refine Go.step (fun t k => XS.iconst X5.here hx rfl (hb hby at_63) k) ?_
    show Go _ _ _ _ _ _ _ (T5.setTop (mkF m 64 #[.val (.int nn), .val (.int p0), .val (.int p1), .val (.int p2), .val (.int p3), .val (.int (0 : Int32)), .val (.int o0), .val (.int o1), .val (.int o2), .val (.int (p3 &&& (255 : Int32))), .val (.ref om), .unset] [(.int (1 : Int32)), (.int (0 : Int32))]))
    refine Go.step (fun t k => XS.icmpYes X5.here hx rfl (pc0 := 64) (pc' := 74) rfl (hb hby at_64) rfl (flt (by decide : ¬ (1 : Int32) < (0 : Int32))).2.2.2 (by decide) (by decide) k) ?_
    show Go _ _ _ _ _ _ _ (T5.setTop (mkF m 74 #[.val (.int nn), .val (.int p0), .val (.int p1), .val (.int p2), .val (.int p3), .val (.int (0 : Int32)), .val (.int o0), .val (.int o1), .val (.int o2), .val (.int (p3 &&& (255 : Int32))), .val (.ref om), .unset] []))
    refine Go.step (fun t k => XS.iload X5.here hx rfl (hb hby at_74) rfl k) ?_
    show Go _ _ _ _ _ _ _ (T5.setTop (mkF m 76 #[.val (.int nn), .val (.int p0), .val (.int p1), .val (.int p2), .val (.int p3), .val (.int (0 : Int32)), .val (.int o0), .val (.int o1), .val (.int o2), .val (.int (p3 &&& (255 : Int32))), .val (.ref om), .unset] [(.int (0 : Int32))]))
    refine Go.step (fun t k => XS.iconst X5.here hx rfl (hb hby at_76) k) ?_
    show Go _ _ _ _ _ _ _ (T5.setTop (mkF m 77 #[.val (.int nn), .val (.int p0), .val (.int p1), .val (.int p2), .val (.int p3), .val (.int (0 : Int32)), .val (.int o0), .val (.int o1), .val (.int o2), .val (.int (p3 &&& (255 : Int32))), .val (.ref om), .unset] [(.int (2 : Int32)), (.int (0 : Int32))]))
    refine Go.step (fun t k => XS.icmpYes X5.here hx rfl (pc0 := 77) (pc' := 87) rfl (hb hby at_77) rfl (flt (by decide : ¬ (2 : Int32) < (0 : Int32))).2.2.2 (by decide) (by decide) k) ?_
    show Go _ _ _ _ _ _ _ (T5.setTop (mkF m 87 #[.val (.int nn), .val (.int p0), .val (.int p1), .val (.int p2), .val (.int p3), .val (.int (0 : Int32)), .val (.int o0), .val (.int o1), .val (.int o2), .val (.int (p3 &&& (255 : Int32))), .val (.ref om), .unset] []))
    refine Go.step (fun t k => XS.iload X5.here hx rfl (hb hby at_87) rfl k) ?_
    show Go _ _ _ _ _ _ _ (T5.setTop (mkF m 89 #[.val (.int nn), .val (.int p0), .val (.int p1), .val (.int p2), .val (.int p3), .val (.int (0 : Int32)), .val (.int o0), .val (.int o1), .val (.int o2), .val (.int (p3 &&& (255 : Int32))), .val (.ref om), .unset] [(.int (0 : Int32))]))
    refine Go.step (fun t k => XS.iconst X5.here hx rfl (hb hby at_89) k) ?_
    show Go _ _ _ _ _ _ _ (T5.setTop (mkF m 90 #[.val (.int nn), .val (.int p0), .val (.int p1), .val (.int p2), .val (.int p3), .val (.int (0 : Int32)), .val (.int o0), .val (.int o1), .val (.int o2), .val (.int (p3 &&& (255 : Int32))), .val (.ref om), .unset] [(.int (3 : Int32)), (.int (0 : Int32))]))
    refine Go.step (fun t k => XS.icmpYes X5.here hx rfl (pc0 := 90) (pc' := 100) rfl (hb hby at_90) rfl (flt (by decide : ¬ (3 : Int32) < (0 : Int32))).2.2.2 (by decide) (by decide) k) ?_
    show Go _ _ _ _ _ _ _ (T5.setTop (mkF m 100 #[.val (.int nn), .val (.int p0), .val (.int p1), .val (.int p2), .val (.int p3), .val (.int (0 : Int32)), .val (.int o0), .val (.int o1), .val (.int o2), .val (.int (p3 &&& (255 : Int32))), .val (.ref om), .unset] []))
    refine Go.step (fun t k => XS.iload X5.here hx rfl (hb hby at_100) rfl k) ?_
    show Go _ _ _ _ _ _ _ (T5.setTop (mkF m 102 #[.val (.int nn), .val (.int p0), .val (.int p1), .val (.int p2), .val (.int p3), .val (.int (0 : Int32)), .val (.int o0), .val (.int o1), .val (.int o2), .val (.int (p3 &&& (255 : Int32))), .val (.ref om), .unset] [(.int (0 : Int32))]))
    refine Go.step (fun t k => XS.iconst X5.here hx rfl (hb hby at_102) k) ?_
    show Go _ _ _ _ _ _ _ (T5.setTop (mkF m 103 #[.val (.int nn), .val (.int p0), .val (.int p1), .val (.int p2), .val (.int p3), .val (.int (0 : Int32)), .val (.int o0), .val (.int o1), .val (.int o2), .val (.int (p3 &&& (255 : Int32))), .val (.ref om), .unset] [(.int (3 : Int32)), (.int (0 : Int32))]))
    refine Go.step (fun t k => XS.icmpYes X5.here hx rfl (pc0 := 103) (pc' := 152) rfl (hb hby at_103) rfl (feq (by decide : ¬ (0 : Int32) = (3 : Int32))).2 (by decide) (by decide) k) ?_
    show Go _ _ _ _ _ _ _ (T5.setTop (mkF m 152 #[.val (.int nn), .val (.int p0), .val (.int p1), .val (.int p2), .val (.int p3), .val (.int (0 : Int32)), .val (.int o0), .val (.int o1), .val (.int o2), .val (.int (p3 &&& (255 : Int32))), .val (.ref om), .unset] []))
    refine Go.step (fun t k => XS.iconst X5.here hx rfl (hb hby at_152) k) ?_
    show Go _ _ _ _ _ _ _ (T5.setTop (mkF m 153 #[.val (.int nn), .val (.int p0), .val (.int p1), .val (.int p2), .val (.int p3), .val (.int (0 : Int32)), .val (.int o0), .val (.int o1), .val (.int o2), .val (.int (p3 &&& (255 : Int32))), .val (.ref om), .unset] [(.int (0 : Int32))]))
    refine Go.step (fun t k => XS.istore X5.here hx rfl (hb hby at_153) rfl (l' := #[.val (.int nn), .val (.int p0), .val (.int p1), .val (.int p2), .val (.int p3), .val (.int (0 : Int32)), .val (.int o0), .val (.int o1), .val (.int o2), .val (.int (p3 &&& (255 : Int32))), .val (.ref om), .val (.int (0 : Int32))]) rfl k) ?_
    show Go _ _ _ _ _ _ _ (T5.setTop (mkF m 155 #[.val (.int nn), .val (.int p0), .val (.int p1), .val (.int p2), .val (.int p3), .val (.int (0 : Int32)), .val (.int o0), .val (.int o1), .val (.int o2), .val (.int (p3 &&& (255 : Int32))), .val (.ref om), .val (.int (0 : Int32))] []))
    refine Go.step (fun t k => XS.aload X5.here hx rfl (hb hby at_155) rfl rfl k) ?_
    show Go _ _ _ _ _ _ _ (T5.setTop (mkF m 157 #[.val (.int nn), .val (.int p0), .val (.int p1), .val (.int p2), .val (.int p3), .val (.int (0 : Int32)), .val (.int o0), .val (.int o1), .val (.int o2), .val (.int (p3 &&& (255 : Int32))), .val (.ref om), .val (.int (0 : Int32))] [(.ref om)]))
    obtain ⟨cq6, kq6, q6a, q6b, q6c⟩ := isOf hZ rfl E_om
    obtain ⟨_, _, ⟨T6, L6, k6, n6⟩, -, X6, ⟨Lc6, hQ6, l6, y6, z6⟩, st6⟩ := X5.virtualBack hx (y := (⟨"com/example/tessera/tessera/marc/MarkupName", "isReservedTarget", "()Z"⟩ : MethodName)) (z := (⟨"com/example/tessera/tessera/marc/MarkupName", "isReservedTarget", "()Z"⟩ : MethodName)) hown (mvT hZ (hw _ (List.mem_of_getElem? (i := 17) rfl))) (mvT hZ (hw _ (List.mem_of_getElem? (i := 18) rfl))) (notFace_of_selects (args := #[]) (mvT hZ (hw _ (List.mem_of_getElem? (i := 20) rfl)))) (mvT hZ (hw _ (List.mem_of_getElem? (i := 20) rfl))) (mvT hZ (hw _ (List.mem_of_getElem? (i := 19) rfl))) (by decide) (backOf (W := 0) (rm4_n l Z a0 hw [] om rt (0 : Int32) T5.heap n0 Z5 F_length_om old hsta hrt (by decide)) hZ (hw _ (List.mem_of_getElem? (i := 21) rfl)) (hw _ (List.mem_of_getElem? (i := 7) rfl)) (by decide) (by decide)) q6a q6c (g := (mkF m 157 #[.val (.int nn), .val (.int p0), .val (.int p1), .val (.int p2), .val (.int p3), .val (.int (0 : Int32)), .val (.int o0), .val (.int o1), .val (.int o2), .val (.int (p3 &&& (255 : Int32))), .val (.ref om), .val (.int (0 : Int32))] [(.ref om)])) rfl (by rw [hml]; rfl) (Steps.refl _) (argsL := []) (rest := []) (lenOf pd_0_2 rfl) rfl (by show 2 * 0 + _ ≤ _; exact Nat.le_of_eq rfl) (hb hby at_157) (fun _ _ => ⟨rfl, rfl, (by decide : 2 + 0 ≤ _), (by decide : 67 + 0 ≤ _)⟩)
    dsimp only [Pt.U, Pt.locs, Pt.cells, Pt.slots] at X6 l6 y6 z6 st6 hQ6
    subst l6 y6 z6
    obtain ⟨rfl, N6q, K6q⟩ := hQ6
    have N6 := Fr.app N5 N6q
    refine Go.step (fun t k => st6.trans k) ?_
    show Go _ _ _ _ _ _ _ (T6.setTop (mkF m 160 #[.val (.int nn), .val (.int p0), .val (.int p1), .val (.int p2), .val (.int p3), .val (.int (0 : Int32)), .val (.int o0), .val (.int o1), .val (.int o2), .val (.int (p3 &&& (255 : Int32))), .val (.ref om), .val (.int (0 : Int32))] [(.int (0 : Int32))]))
    refine Go.step (fun t k => XS.iload X6.here hx rfl (hb hby at_160) rfl k) ?_
    show Go _ _ _ _ _ _ _ (T6.setTop (mkF m 162 #[.val (.int nn), .val (.int p0), .val (.int p1), .val (.int p2), .val (.int p3), .val (.int (0 : Int32)), .val (.int o0), .val (.int o1), .val (.int o2), .val (.int (p3 &&& (255 : Int32))), .val (.ref om), .val (.int (0 : Int32))] [(.int (0 : Int32)), (.int (0 : Int32))]))
    refine Go.step (fun t k => XS.icmpNo X6.here hx rfl (hb hby at_162) rfl (teq (rfl : (0 : Int32) = (0 : Int32))).2 k) ?_
    show Go _ _ _ _ _ _ _ (T6.setTop (mkF m 165 #[.val (.int nn), .val (.int p0), .val (.int p1), .val (.int p2), .val (.int p3), .val (.int (0 : Int32)), .val (.int o0), .val (.int o1), .val (.int o2), .val (.int (p3 &&& (255 : Int32))), .val (.ref om), .val (.int (0 : Int32))] []))
    refine Go.step (fun t k => XS.iconst X6.here hx rfl (hb hby at_165) k) ?_
    show Go _ _ _ _ _ _ _ (T6.setTop (mkF m 166 #[.val (.int nn), .val (.int p0), .val (.int p1), .val (.int p2), .val (.int p3), .val (.int (0 : Int32)), .val (.int o0), .val (.int o1), .val (.int o2), .val (.int (p3 &&& (255 : Int32))), .val (.ref om), .val (.int (0 : Int32))] [(.int (1 : Int32))]))
    refine Go.step (fun t k => XS.goto X6.here hx rfl (pc0 := 166) (pc' := 170) rfl (hb hby at_166) (by decide) (by decide) k) ?_
    show Go _ _ _ _ _ _ _ (T6.setTop (mkF m 170 #[.val (.int nn), .val (.int p0), .val (.int p1), .val (.int p2), .val (.int p3), .val (.int (0 : Int32)), .val (.int o0), .val (.int o1), .val (.int o2), .val (.int (p3 &&& (255 : Int32))), .val (.ref om), .val (.int (0 : Int32))] [(.int (1 : Int32))]))
    refine Go.retN X6 Bd.notSynchronized hx (t := .boolean) Bd.returns (by simp) (hb hby at_170) (by decide) (by decide) (1 : Int32) rfl ?_
    rw [K6q]
    exact ⟨rfl, N6⟩
  · show Go _ _ _ _ _ _ _ (T5.setTop (mkF m 49 #[.val (.int nn), .val (.int p0), .val (.int p1), .val (.int p2), .val (.int p3), .val (.int (1 : Int32)), .val (.int o0), .val (.int o1), .val (.int o2), .val (.int (p3 &&& (255 : Int32))), .val (.ref om), .unset] []))
    refine Go.step (fun t k => XS.iload X5.here hx rfl (hb hby at_49) rfl k) ?_
    show Go _ _ _ _ _ _ _ (T5.setTop (mkF m 51 #[.val (.int nn), .val (.int p0), .val (.int p1), .val (.int p2), .val (.int p3), .val (.int (1 : Int32)), .val (.int o0), .val (.int o1), .val (.int o2), .val (.int (p3 &&& (255 : Int32))), .val (.ref om), .unset] [(.int (1 : Int32))]))
    refine Go.step (fun t k => XS.ifNo X5.here hx rfl (hb hby at_51) rfl ((if0 _ _).trans (tlt (by decide : (0 : Int32) < (1 : Int32))).2.2.2) k) ?_
    show Go _ _ _ _ _ _ _ (T5.setTop (mkF m 54 #[.val (.int nn), .val (.int p0), .val (.int p1), .val (.int p2), .val (.int p3), .val (.int (1 : Int32)), .val (.int o0), .val (.int o1), .val (.int o2), .val (.int (p3 &&& (255 : Int32))), .val (.ref om), .unset] []))
    refine Go.step (fun t k => XS.aload X5.here hx rfl (hb hby at_54) rfl rfl k) ?_
    show Go _ _ _ _ _ _ _ (T5.setTop (mkF m 56 #[.val (.int nn), .val (.int p0), .val (.int p1), .val (.int p2), .val (.int p3), .val (.int (1 : Int32)), .val (.int o0), .val (.int o1), .val (.int o2), .val (.int (p3 &&& (255 : Int32))), .val (.ref om), .unset] [(.ref om)]))
    refine Go.step (fun t k => XS.iload X5.here hx rfl (hb hby at_56) rfl k) ?_
    show Go _ _ _ _ _ _ _ (T5.setTop (mkF m 58 #[.val (.int nn), .val (.int p0), .val (.int p1), .val (.int p2), .val (.int p3), .val (.int (1 : Int32)), .val (.int o0), .val (.int o1), .val (.int o2), .val (.int (p3 &&& (255 : Int32))), .val (.ref om), .unset] [(.int o0), (.ref om)]))
    obtain ⟨cq7, kq7, q7a, q7b, q7c⟩ := isOf hZ rfl E_om
    obtain ⟨_, _, ⟨T7, L7, k7, n7⟩, -, X7, ⟨Lc7, hQ7, l7, y7, z7⟩, st7⟩ := X5.virtualBack hx (y := (⟨"com/example/tessera/tessera/marc/MarkupName", "add", "(I)V"⟩ : MethodName)) (z := (⟨"com/example/tessera/tessera/marc/MarkupName", "add", "(I)V"⟩ : MethodName)) hown (mvT hZ (hw _ (List.mem_of_getElem? (i := 26) rfl))) (mvT hZ (hw _ (List.mem_of_getElem? (i := 27) rfl))) (notFace_of_selects (args := #[]) (mvT hZ (hw _ (List.mem_of_getElem? (i := 29) rfl)))) (mvT hZ (hw _ (List.mem_of_getElem? (i := 29) rfl))) (mvT hZ (hw _ (List.mem_of_getElem? (i := 28) rfl))) (by decide) (backOf (W := 0) (rm5 l Z a0 hw [] om o0 by_ (0 : Int32) (0 : Int32) (fun _ => (0 : Int32)) 0 T5.heap n0 Z5 F_bytes_om F_length_om F_localStart_om E_om g_om A_by_ o5_g_by_ o5_ne_om_by_ rfl (by decide)) hZ (hw _ (List.mem_of_getElem? (i := 30) rfl)) (hw _ (List.mem_of_getElem? (i := 7) rfl)) (by decide) (by decide)) q7a q7c (g := (mkF m 58 #[.val (.int nn), .val (.int p0), .val (.int p1), .val (.int p2), .val (.int p3), .val (.int (1 : Int32)), .val (.int o0), .val (.int o1), .val (.int o2), .val (.int (p3 &&& (255 : Int32))), .val (.ref om), .unset] [(.int o0), (.ref om)])) rfl (by rw [hml]; rfl) (Steps.refl _) (argsL := [(.int o0)]) (rest := []) (lenOf pd_0_3 rfl) rfl (by show 2 * 0 + _ ≤ _; exact Nat.le_of_eq rfl) (hb hby at_58) (fun _ _ => ⟨rfl, rfl, (by decide : 2 + 0 ≤ _), (by decide : 67 + 0 ≤ _)⟩)
    dsimp only [Pt.U, Pt.locs, Pt.cells, Pt.slots] at X7 l7 y7 z7 st7 hQ7
    subst l7 y7 z7
    obtain ⟨lz_7, rfl, N7q, K7q, o7_F_bytes_om, o7_F_length_om, o7_F_localStart_om, o7_A_by_⟩ := hQ7
    have N7 := Fr.app N5 N7q
    replace old := Old.keep old K7q (allS g_om (allS o5_g_by_ all0))
    replace E_om := E_om.keep K7q
    have Z7 := Nat.le_trans Z5 K7q.1
    have F_bytes_om := o7_F_bytes_om
    have F_length_om := o7_F_length_om
    have F_localStart_om := o7_F_localStart_om
    have A_by_ := o7_A_by_
    refine Go.step (fun t k => st7.trans k) ?_
    show Go _ _ _ _ _ _ _ (T7.setTop (mkF m 61 #[.val (.int nn), .val (.int p0), .val (.int p1), .val (.int p2), .val (.int p3), .val (.int (1 : Int32)), .val (.int o0), .val (.int o1), .val (.int o2), .val (.int (p3 &&& (255 : Int32))), .val (.ref om), .unset] []))
    refine Go.step (fun t k => XS.iload X7.here hx rfl (hb hby at_61) rfl k) ?_
    show Go _ _ _ _ _ _ _ (T7.setTop (mkF m 63 #[.val (.int nn), .val (.int p0), .val (.int p1), .val (.int p2), .val (.int p3), .val (.int (1 : Int32)), .val (.int o0), .val (.int o1), .val (.int o2), .val (.int (p3 &&& (255 : Int32))), .val (.ref om), .unset] [(.int (1 : Int32))]))
    refine Go.step (fun t k => XS.iconst X7.here hx rfl (hb hby at_63) k) ?_
    show Go _ _ _ _ _ _ _ (T7.setTop (mkF m 64 #[.val (.int nn), .val (.int p0), .val (.int p1), .val (.int p2), .val (.int p3), .val (.int (1 : Int32)), .val (.int o0), .val (.int o1), .val (.int o2), .val (.int (p3 &&& (255 : Int32))), .val (.ref om), .unset] [(.int (1 : Int32)), (.int (1 : Int32))]))
    refine Go.step (fun t k => XS.icmpYes X7.here hx rfl (pc0 := 64) (pc' := 74) rfl (hb hby at_64) rfl (flt (by decide : ¬ (1 : Int32) < (1 : Int32))).2.2.2 (by decide) (by decide) k) ?_
    show Go _ _ _ _ _ _ _ (T7.setTop (mkF m 74 #[.val (.int nn), .val (.int p0), .val (.int p1), .val (.int p2), .val (.int p3), .val (.int (1 : Int32)), .val (.int o0), .val (.int o1), .val (.int o2), .val (.int (p3 &&& (255 : Int32))), .val (.ref om), .unset] []))
    refine Go.step (fun t k => XS.iload X7.here hx rfl (hb hby at_74) rfl k) ?_
    show Go _ _ _ _ _ _ _ (T7.setTop (mkF m 76 #[.val (.int nn), .val (.int p0), .val (.int p1), .val (.int p2), .val (.int p3), .val (.int (1 : Int32)), .val (.int o0), .val (.int o1), .val (.int o2), .val (.int (p3 &&& (255 : Int32))), .val (.ref om), .unset] [(.int (1 : Int32))]))
    refine Go.step (fun t k => XS.iconst X7.here hx rfl (hb hby at_76) k) ?_
    show Go _ _ _ _ _ _ _ (T7.setTop (mkF m 77 #[.val (.int nn), .val (.int p0), .val (.int p1), .val (.int p2), .val (.int p3), .val (.int (1 : Int32)), .val (.int o0), .val (.int o1), .val (.int o2), .val (.int (p3 &&& (255 : Int32))), .val (.ref om), .unset] [(.int (2 : Int32)), (.int (1 : Int32))]))
    refine Go.step (fun t k => XS.icmpYes X7.here hx rfl (pc0 := 77) (pc' := 87) rfl (hb hby at_77) rfl (flt (by decide : ¬ (2 : Int32) < (1 : Int32))).2.2.2 (by decide) (by decide) k) ?_
    show Go _ _ _ _ _ _ _ (T7.setTop (mkF m 87 #[.val (.int nn), .val (.int p0), .val (.int p1), .val (.int p2), .val (.int p3), .val (.int (1 : Int32)), .val (.int o0), .val (.int o1), .val (.int o2), .val (.int (p3 &&& (255 : Int32))), .val (.ref om), .unset] []))
    refine Go.step (fun t k => XS.iload X7.here hx rfl (hb hby at_87) rfl k) ?_
    show Go _ _ _ _ _ _ _ (T7.setTop (mkF m 89 #[.val (.int nn), .val (.int p0), .val (.int p1), .val (.int p2), .val (.int p3), .val (.int (1 : Int32)), .val (.int o0), .val (.int o1), .val (.int o2), .val (.int (p3 &&& (255 : Int32))), .val (.ref om), .unset] [(.int (1 : Int32))]))
    refine Go.step (fun t k => XS.iconst X7.here hx rfl (hb hby at_89) k) ?_
    show Go _ _ _ _ _ _ _ (T7.setTop (mkF m 90 #[.val (.int nn), .val (.int p0), .val (.int p1), .val (.int p2), .val (.int p3), .val (.int (1 : Int32)), .val (.int o0), .val (.int o1), .val (.int o2), .val (.int (p3 &&& (255 : Int32))), .val (.ref om), .unset] [(.int (3 : Int32)), (.int (1 : Int32))]))
    refine Go.step (fun t k => XS.icmpYes X7.here hx rfl (pc0 := 90) (pc' := 100) rfl (hb hby at_90) rfl (flt (by decide : ¬ (3 : Int32) < (1 : Int32))).2.2.2 (by decide) (by decide) k) ?_
    show Go _ _ _ _ _ _ _ (T7.setTop (mkF m 100 #[.val (.int nn), .val (.int p0), .val (.int p1), .val (.int p2), .val (.int p3), .val (.int (1 : Int32)), .val (.int o0), .val (.int o1), .val (.int o2), .val (.int (p3 &&& (255 : Int32))), .val (.ref om), .unset] []))
    refine Go.step (fun t k => XS.iload X7.here hx rfl (hb hby at_100) rfl k) ?_
    show Go _ _ _ _ _ _ _ (T7.setTop (mkF m 102 #[.val (.int nn), .val (.int p0), .val (.int p1), .val (.int p2), .val (.int p3), .val (.int (1 : Int32)), .val (.int o0), .val (.int o1), .val (.int o2), .val (.int (p3 &&& (255 : Int32))), .val (.ref om), .unset] [(.int (1 : Int32))]))
    refine Go.step (fun t k => XS.iconst X7.here hx rfl (hb hby at_102) k) ?_
    show Go _ _ _ _ _ _ _ (T7.setTop (mkF m 103 #[.val (.int nn), .val (.int p0), .val (.int p1), .val (.int p2), .val (.int p3), .val (.int (1 : Int32)), .val (.int o0), .val (.int o1), .val (.int o2), .val (.int (p3 &&& (255 : Int32))), .val (.ref om), .unset] [(.int (3 : Int32)), (.int (1 : Int32))]))
    refine Go.step (fun t k => XS.icmpYes X7.here hx rfl (pc0 := 103) (pc' := 152) rfl (hb hby at_103) rfl (feq (by decide : ¬ (1 : Int32) = (3 : Int32))).2 (by decide) (by decide) k) ?_
    show Go _ _ _ _ _ _ _ (T7.setTop (mkF m 152 #[.val (.int nn), .val (.int p0), .val (.int p1), .val (.int p2), .val (.int p3), .val (.int (1 : Int32)), .val (.int o0), .val (.int o1), .val (.int o2), .val (.int (p3 &&& (255 : Int32))), .val (.ref om), .unset] []))
    refine Go.step (fun t k => XS.iconst X7.here hx rfl (hb hby at_152) k) ?_
    show Go _ _ _ _ _ _ _ (T7.setTop (mkF m 153 #[.val (.int nn), .val (.int p0), .val (.int p1), .val (.int p2), .val (.int p3), .val (.int (1 : Int32)), .val (.int o0), .val (.int o1), .val (.int o2), .val (.int (p3 &&& (255 : Int32))), .val (.ref om), .unset] [(.int (0 : Int32))]))
    refine Go.step (fun t k => XS.istore X7.here hx rfl (hb hby at_153) rfl (l' := #[.val (.int nn), .val (.int p0), .val (.int p1), .val (.int p2), .val (.int p3), .val (.int (1 : Int32)), .val (.int o0), .val (.int o1), .val (.int o2), .val (.int (p3 &&& (255 : Int32))), .val (.ref om), .val (.int (0 : Int32))]) rfl k) ?_
    show Go _ _ _ _ _ _ _ (T7.setTop (mkF m 155 #[.val (.int nn), .val (.int p0), .val (.int p1), .val (.int p2), .val (.int p3), .val (.int (1 : Int32)), .val (.int o0), .val (.int o1), .val (.int o2), .val (.int (p3 &&& (255 : Int32))), .val (.ref om), .val (.int (0 : Int32))] []))
    refine Go.step (fun t k => XS.aload X7.here hx rfl (hb hby at_155) rfl rfl k) ?_
    show Go _ _ _ _ _ _ _ (T7.setTop (mkF m 157 #[.val (.int nn), .val (.int p0), .val (.int p1), .val (.int p2), .val (.int p3), .val (.int (1 : Int32)), .val (.int o0), .val (.int o1), .val (.int o2), .val (.int (p3 &&& (255 : Int32))), .val (.ref om), .val (.int (0 : Int32))] [(.ref om)]))
    obtain ⟨cq8, kq8, q8a, q8b, q8c⟩ := isOf hZ rfl E_om
    obtain ⟨_, _, ⟨T8, L8, k8, n8⟩, -, X8, ⟨Lc8, hQ8, l8, y8, z8⟩, st8⟩ := X7.virtualBack hx (y := (⟨"com/example/tessera/tessera/marc/MarkupName", "isReservedTarget", "()Z"⟩ : MethodName)) (z := (⟨"com/example/tessera/tessera/marc/MarkupName", "isReservedTarget", "()Z"⟩ : MethodName)) hown (mvT hZ (hw _ (List.mem_of_getElem? (i := 17) rfl))) (mvT hZ (hw _ (List.mem_of_getElem? (i := 18) rfl))) (notFace_of_selects (args := #[]) (mvT hZ (hw _ (List.mem_of_getElem? (i := 20) rfl)))) (mvT hZ (hw _ (List.mem_of_getElem? (i := 20) rfl))) (mvT hZ (hw _ (List.mem_of_getElem? (i := 19) rfl))) (by decide) (backOf (W := 0) (rm4_n l Z a0 hw [] om rt (1 : Int32) T7.heap n0 Z7 F_length_om old hsta hrt (by decide)) hZ (hw _ (List.mem_of_getElem? (i := 21) rfl)) (hw _ (List.mem_of_getElem? (i := 7) rfl)) (by decide) (by decide)) q8a q8c (g := (mkF m 157 #[.val (.int nn), .val (.int p0), .val (.int p1), .val (.int p2), .val (.int p3), .val (.int (1 : Int32)), .val (.int o0), .val (.int o1), .val (.int o2), .val (.int (p3 &&& (255 : Int32))), .val (.ref om), .val (.int (0 : Int32))] [(.ref om)])) rfl (by rw [hml]; rfl) (Steps.refl _) (argsL := []) (rest := []) (lenOf pd_0_2 rfl) rfl (by show 2 * 0 + _ ≤ _; exact Nat.le_of_eq rfl) (hb hby at_157) (fun _ _ => ⟨rfl, rfl, (by decide : 2 + 0 ≤ _), (by decide : 67 + 0 ≤ _)⟩)
    dsimp only [Pt.U, Pt.locs, Pt.cells, Pt.slots] at X8 l8 y8 z8 st8 hQ8
    subst l8 y8 z8
    obtain ⟨rfl, N8q, K8q⟩ := hQ8
    have N8 := Fr.app N7 N8q
    refine Go.step (fun t k => st8.trans k) ?_
    show Go _ _ _ _ _ _ _ (T8.setTop (mkF m 160 #[.val (.int nn), .val (.int p0), .val (.int p1), .val (.int p2), .val (.int p3), .val (.int (1 : Int32)), .val (.int o0), .val (.int o1), .val (.int o2), .val (.int (p3 &&& (255 : Int32))), .val (.ref om), .val (.int (0 : Int32))] [(.int (0 : Int32))]))
    refine Go.step (fun t k => XS.iload X8.here hx rfl (hb hby at_160) rfl k) ?_
    show Go _ _ _ _ _ _ _ (T8.setTop (mkF m 162 #[.val (.int nn), .val (.int p0), .val (.int p1), .val (.int p2), .val (.int p3), .val (.int (1 : Int32)), .val (.int o0), .val (.int o1), .val (.int o2), .val (.int (p3 &&& (255 : Int32))), .val (.ref om), .val (.int (0 : Int32))] [(.int (0 : Int32)), (.int (0 : Int32))]))
    refine Go.step (fun t k => XS.icmpNo X8.here hx rfl (hb hby at_162) rfl (teq (rfl : (0 : Int32) = (0 : Int32))).2 k) ?_
    show Go _ _ _ _ _ _ _ (T8.setTop (mkF m 165 #[.val (.int nn), .val (.int p0), .val (.int p1), .val (.int p2), .val (.int p3), .val (.int (1 : Int32)), .val (.int o0), .val (.int o1), .val (.int o2), .val (.int (p3 &&& (255 : Int32))), .val (.ref om), .val (.int (0 : Int32))] []))
    refine Go.step (fun t k => XS.iconst X8.here hx rfl (hb hby at_165) k) ?_
    show Go _ _ _ _ _ _ _ (T8.setTop (mkF m 166 #[.val (.int nn), .val (.int p0), .val (.int p1), .val (.int p2), .val (.int p3), .val (.int (1 : Int32)), .val (.int o0), .val (.int o1), .val (.int o2), .val (.int (p3 &&& (255 : Int32))), .val (.ref om), .val (.int (0 : Int32))] [(.int (1 : Int32))]))
    refine Go.step (fun t k => XS.goto X8.here hx rfl (pc0 := 166) (pc' := 170) rfl (hb hby at_166) (by decide) (by decide) k) ?_
    show Go _ _ _ _ _ _ _ (T8.setTop (mkF m 170 #[.val (.int nn), .val (.int p0), .val (.int p1), .val (.int p2), .val (.int p3), .val (.int (1 : Int32)), .val (.int o0), .val (.int o1), .val (.int o2), .val (.int (p3 &&& (255 : Int32))), .val (.ref om), .val (.int (0 : Int32))] [(.int (1 : Int32))]))
    refine Go.retN X8 Bd.notSynchronized hx (t := .boolean) Bd.returns (by simp) (hb hby at_170) (by decide) (by decide) (1 : Int32) rfl ?_
    rw [K8q]
    exact ⟨rfl, N8⟩
  · show Go _ _ _ _ _ _ _ (T5.setTop (mkF m 49 #[.val (.int nn), .val (.int p0), .val (.int p1), .val (.int p2), .val (.int p3), .val (.int (2 : Int32)), .val (.int o0), .val (.int o1), .val (.int o2), .val (.int (p3 &&& (255 : Int32))), .val (.ref om), .unset] []))
    refine Go.step (fun t k => XS.iload X5.here hx rfl (hb hby at_49) rfl k) ?_
    show Go _ _ _ _ _ _ _ (T5.setTop (mkF m 51 #[.val (.int nn), .val (.int p0), .val (.int p1), .val (.int p2), .val (.int p3), .val (.int (2 : Int32)), .val (.int o0), .val (.int o1), .val (.int o2), .val (.int (p3 &&& (255 : Int32))), .val (.ref om), .unset] [(.int (2 : Int32))]))
    refine Go.step (fun t k => XS.ifNo X5.here hx rfl (hb hby at_51) rfl ((if0 _ _).trans (tlt (by decide : (0 : Int32) < (2 : Int32))).2.2.2) k) ?_
    show Go _ _ _ _ _ _ _ (T5.setTop (mkF m 54 #[.val (.int nn), .val (.int p0), .val (.int p1), .val (.int p2), .val (.int p3), .val (.int (2 : Int32)), .val (.int o0), .val (.int o1), .val (.int o2), .val (.int (p3 &&& (255 : Int32))), .val (.ref om), .unset] []))
    refine Go.step (fun t k => XS.aload X5.here hx rfl (hb hby at_54) rfl rfl k) ?_
    show Go _ _ _ _ _ _ _ (T5.setTop (mkF m 56 #[.val (.int nn), .val (.int p0), .val (.int p1), .val (.int p2), .val (.int p3), .val (.int (2 : Int32)), .val (.int o0), .val (.int o1), .val (.int o2), .val (.int (p3 &&& (255 : Int32))), .val (.ref om), .unset] [(.ref om)]))
    refine Go.step (fun t k => XS.iload X5.here hx rfl (hb hby at_56) rfl k) ?_
    show Go _ _ _ _ _ _ _ (T5.setTop (mkF m 58 #[.val (.int nn), .val (.int p0), .val (.int p1), .val (.int p2), .val (.int p3), .val (.int (2 : Int32)), .val (.int o0), .val (.int o1), .val (.int o2), .val (.int (p3 &&& (255 : Int32))), .val (.ref om), .unset] [(.int o0), (.ref om)]))
    obtain ⟨cq9, kq9, q9a, q9b, q9c⟩ := isOf hZ rfl E_om
    obtain ⟨_, _, ⟨T9, L9, k9, n9⟩, -, X9, ⟨Lc9, hQ9, l9, y9, z9⟩, st9⟩ := X5.virtualBack hx (y := (⟨"com/example/tessera/tessera/marc/MarkupName", "add", "(I)V"⟩ : MethodName)) (z := (⟨"com/example/tessera/tessera/marc/MarkupName", "add", "(I)V"⟩ : MethodName)) hown (mvT hZ (hw _ (List.mem_of_getElem? (i := 26) rfl))) (mvT hZ (hw _ (List.mem_of_getElem? (i := 27) rfl))) (notFace_of_selects (args := #[]) (mvT hZ (hw _ (List.mem_of_getElem? (i := 29) rfl)))) (mvT hZ (hw _ (List.mem_of_getElem? (i := 29) rfl))) (mvT hZ (hw _ (List.mem_of_getElem? (i := 28) rfl))) (by decide) (backOf (W := 0) (rm5 l Z a0 hw [] om o0 by_ (0 : Int32) (0 : Int32) (fun _ => (0 : Int32)) 0 T5.heap n0 Z5 F_bytes_om F_length_om F_localStart_om E_om g_om A_by_ o5_g_by_ o5_ne_om_by_ rfl (by decide)) hZ (hw _ (List.mem_of_getElem? (i := 30) rfl)) (hw _ (List.mem_of_getElem? (i := 7) rfl)) (by decide) (by decide)) q9a q9c (g := (mkF m 58 #[.val (.int nn), .val (.int p0), .val (.int p1), .val (.int p2), .val (.int p3), .val (.int (2 : Int32)), .val (.int o0), .val (.int o1), .val (.int o2), .val (.int (p3 &&& (255 : Int32))), .val (.ref om), .unset] [(.int o0), (.ref om)])) rfl (by rw [hml]; rfl) (Steps.refl _) (argsL := [(.int o0)]) (rest := []) (lenOf pd_0_3 rfl) rfl (by show 2 * 0 + _ ≤ _; exact Nat.le_of_eq rfl) (hb hby at_58) (fun _ _ => ⟨rfl, rfl, (by decide : 2 + 0 ≤ _), (by decide : 67 + 0 ≤ _)⟩)
    dsimp only [Pt.U, Pt.locs, Pt.cells, Pt.slots] at X9 l9 y9 z9 st9 hQ9
    subst l9 y9 z9
    obtain ⟨lz_9, rfl, N9q, K9q, o9_F_bytes_om, o9_F_length_om, o9_F_localStart_om, o9_A_by_⟩ := hQ9
    have N9 := Fr.app N5 N9q
    replace old := Old.keep old K9q (allS g_om (allS o5_g_by_ all0))
    replace E_om := E_om.keep K9q
    have Z9 := Nat.le_trans Z5 K9q.1
    have F_bytes_om := o9_F_bytes_om
    have F_length_om := o9_F_length_om
    have F_localStart_om := o9_F_localStart_om
    have A_by_ := o9_A_by_
    refine Go.step (fun t k => st9.trans k) ?_
    show Go _ _ _ _ _ _ _ (T9.setTop (mkF m 61 #[.val (.int nn), .val (.int p0), .val (.int p1), .val (.int p2), .val (.int p3), .val (.int (2 : Int32)), .val (.int o0), .val (.int o1), .val (.int o2), .val (.int (p3 &&& (255 : Int32))), .val (.ref om), .unset] []))
    refine Go.step (fun t k => XS.iload X9.here hx rfl (hb hby at_61) rfl k) ?_
    show Go _ _ _ _ _ _ _ (T9.setTop (mkF m 63 #[.val (.int nn), .val (.int p0), .val (.int p1), .val (.int p2), .val (.int p3), .val (.int (2 : Int32)), .val (.int o0), .val (.int o1), .val (.int o2), .val (.int (p3 &&& (255 : Int32))), .val (.ref om), .unset] [(.int (2 : Int32))]))
    refine Go.step (fun t k => XS.iconst X9.here hx rfl (hb hby at_63) k) ?_
    show Go _ _ _ _ _ _ _ (T9.setTop (mkF m 64 #[.val (.int nn), .val (.int p0), .val (.int p1), .val (.int p2), .val (.int p3), .val (.int (2 : Int32)), .val (.int o0), .val (.int o1), .val (.int o2), .val (.int (p3 &&& (255 : Int32))), .val (.ref om), .unset] [(.int (1 : Int32)), (.int (2 : Int32))]))
    refine Go.step (fun t k => XS.icmpNo X9.here hx rfl (hb hby at_64) rfl (tlt (by decide : (1 : Int32) < (2 : Int32))).2.2.2 k) ?_
    show Go _ _ _ _ _ _ _ (T9.setTop (mkF m 67 #[.val (.int nn), .val (.int p0), .val (.int p1), .val (.int p2), .val (.int p3), .val (.int (2 : Int32)), .val (.int o0), .val (.int o1), .val (.int o2), .val (.int (p3 &&& (255 : Int32))), .val (.ref om), .unset] []))
    refine Go.step (fun t k => XS.aload X9.here hx rfl (hb hby at_67) rfl rfl k) ?_
    show Go _ _ _ _ _ _ _ (T9.setTop (mkF m 69 #[.val (.int nn), .val (.int p0), .val (.int p1), .val (.int p2), .val (.int p3), .val (.int (2 : Int32)), .val (.int o0), .val (.int o1), .val (.int o2), .val (.int (p3 &&& (255 : Int32))), .val (.ref om), .unset] [(.ref om)]))
    refine Go.step (fun t k => XS.iload X9.here hx rfl (hb hby at_69) rfl k) ?_
    show Go _ _ _ _ _ _ _ (T9.setTop (mkF m 71 #[.val (.int nn), .val (.int p0), .val (.int p1), .val (.int p2), .val (.int p3), .val (.int (2 : Int32)), .val (.int o0), .val (.int o1), .val (.int o2), .val (.int (p3 &&& (255 : Int32))), .val (.ref om), .unset] [(.int o1), (.ref om)]))
    obtain ⟨cq10, kq10, q10a, q10b, q10c⟩ := isOf hZ rfl E_om
    obtain ⟨_, _, ⟨T10, L10, k10, n10⟩, -, X10, ⟨Lc10, hQ10, l10, y10, z10⟩, st10⟩ := X9.virtualBack hx (y := (⟨"com/example/tessera/tessera/marc/MarkupName", "add", "(I)V"⟩ : MethodName)) (z := (⟨"com/example/tessera/tessera/marc/MarkupName", "add", "(I)V"⟩ : MethodName)) hown (mvT hZ (hw _ (List.mem_of_getElem? (i := 26) rfl))) (mvT hZ (hw _ (List.mem_of_getElem? (i := 27) rfl))) (notFace_of_selects (args := #[]) (mvT hZ (hw _ (List.mem_of_getElem? (i := 29) rfl)))) (mvT hZ (hw _ (List.mem_of_getElem? (i := 29) rfl))) (mvT hZ (hw _ (List.mem_of_getElem? (i := 28) rfl))) (by decide) (backOf (W := 0) (rm5 l Z a0 hw [] om o1 by_ (1 : Int32) lz_9 (up (fun _ => (0 : Int32)) 0 (own_b o0)) 1 T9.heap n0 Z9 F_bytes_om F_length_om F_localStart_om E_om g_om A_by_ o5_g_by_ o5_ne_om_by_ rfl (by decide)) hZ (hw _ (List.mem_of_getElem? (i := 30) rfl)) (hw _ (List.mem_of_getElem? (i := 7) rfl)) (by decide) (by decide)) q10a q10c (g := (mkF m 71 #[.val (.int nn), .val (.int p0), .val (.int p1), .val (.int p2), .val (.int p3), .val (.int (2 : Int32)), .val (.int o0), .val (.int o1), .val (.int o2), .val (.int (p3 &&& (255 : Int32))), .val (.ref om), .unset] [(.int o1), (.ref om)])) rfl (by rw [hml]; rfl) (Steps.refl _) (argsL := [(.int o1)]) (rest := []) (lenOf pd_0_3 rfl) rfl (by show 2 * 0 + _ ≤ _; exact Nat.le_of_eq rfl) (hb hby at_71) (fun _ _ => ⟨rfl, rfl, (by decide : 2 + 0 ≤ _), (by decide : 67 + 0 ≤ _)⟩)
    dsimp only [Pt.U, Pt.locs, Pt.cells, Pt.slots] at X10 l10 y10 z10 st10 hQ10
    subst l10 y10 z10
    obtain ⟨lz_10, rfl, N10q, K10q, o10_F_bytes_om, o10_F_length_om, o10_F_localStart_om, o10_A_by_⟩ := hQ10
    have N10 := Fr.app N9 N10q
    replace old := Old.keep old K10q (allS g_om (allS o5_g_by_ all0))
    replace E_om := E_om.keep K10q
    have Z10 := Nat.le_trans Z9 K10q.1
    have F_bytes_om := o10_F_bytes_om
    have F_length_om := o10_F_length_om
    have F_localStart_om := o10_F_localStart_om
    have A_by_ := o10_A_by_
    refine Go.step (fun t k => st10.trans k) ?_
    show Go _ _ _ _ _ _ _ (T10.setTop (mkF m 74 #[.val (.int nn), .val (.int p0), .val (.int p1), .val (.int p2), .val (.int p3), .val (.int (2 : Int32)), .val (.int o0), .val (.int o1), .val (.int o2), .val (.int (p3 &&& (255 : Int32))), .val (.ref om), .unset] []))
    refine Go.step (fun t k => XS.iload X10.here hx rfl (hb hby at_74) rfl k) ?_
    show Go _ _ _ _ _ _ _ (T10.setTop (mkF m 76 #[.val (.int nn), .val (.int p0), .val (.int p1), .val (.int p2), .val (.int p3), .val (.int (2 : Int32)), .val (.int o0), .val (.int o1), .val (.int o2), .val (.int (p3 &&& (255 : Int32))), .val (.ref om), .unset] [(.int (2 : Int32))]))
    refine Go.step (fun t k => XS.iconst X10.here hx rfl (hb hby at_76) k) ?_
    show Go _ _ _ _ _ _ _ (T10.setTop (mkF m 77 #[.val (.int nn), .val (.int p0), .val (.int p1), .val (.int p2), .val (.int p3), .val (.int (2 : Int32)), .val (.int o0), .val (.int o1), .val (.int o2), .val (.int (p3 &&& (255 : Int32))), .val (.ref om), .unset] [(.int (2 : Int32)), (.int (2 : Int32))]))
    refine Go.step (fun t k => XS.icmpYes X10.here hx rfl (pc0 := 77) (pc' := 87) rfl (hb hby at_77) rfl (flt (by decide : ¬ (2 : Int32) < (2 : Int32))).2.2.2 (by decide) (by decide) k) ?_
    show Go _ _ _ _ _ _ _ (T10.setTop (mkF m 87 #[.val (.int nn), .val (.int p0), .val (.int p1), .val (.int p2), .val (.int p3), .val (.int (2 : Int32)), .val (.int o0), .val (.int o1), .val (.int o2), .val (.int (p3 &&& (255 : Int32))), .val (.ref om), .unset] []))
    refine Go.step (fun t k => XS.iload X10.here hx rfl (hb hby at_87) rfl k) ?_
    show Go _ _ _ _ _ _ _ (T10.setTop (mkF m 89 #[.val (.int nn), .val (.int p0), .val (.int p1), .val (.int p2), .val (.int p3), .val (.int (2 : Int32)), .val (.int o0), .val (.int o1), .val (.int o2), .val (.int (p3 &&& (255 : Int32))), .val (.ref om), .unset] [(.int (2 : Int32))]))
    refine Go.step (fun t k => XS.iconst X10.here hx rfl (hb hby at_89) k) ?_
    show Go _ _ _ _ _ _ _ (T10.setTop (mkF m 90 #[.val (.int nn), .val (.int p0), .val (.int p1), .val (.int p2), .val (.int p3), .val (.int (2 : Int32)), .val (.int o0), .val (.int o1), .val (.int o2), .val (.int (p3 &&& (255 : Int32))), .val (.ref om), .unset] [(.int (3 : Int32)), (.int (2 : Int32))]))
    refine Go.step (fun t k => XS.icmpYes X10.here hx rfl (pc0 := 90) (pc' := 100) rfl (hb hby at_90) rfl (flt (by decide : ¬ (3 : Int32) < (2 : Int32))).2.2.2 (by decide) (by decide) k) ?_
    show Go _ _ _ _ _ _ _ (T10.setTop (mkF m 100 #[.val (.int nn), .val (.int p0), .val (.int p1), .val (.int p2), .val (.int p3), .val (.int (2 : Int32)), .val (.int o0), .val (.int o1), .val (.int o2), .val (.int (p3 &&& (255 : Int32))), .val (.ref om), .unset] []))
    refine Go.step (fun t k => XS.iload X10.here hx rfl (hb hby at_100) rfl k) ?_
    show Go _ _ _ _ _ _ _ (T10.setTop (mkF m 102 #[.val (.int nn), .val (.int p0), .val (.int p1), .val (.int p2), .val (.int p3), .val (.int (2 : Int32)), .val (.int o0), .val (.int o1), .val (.int o2), .val (.int (p3 &&& (255 : Int32))), .val (.ref om), .unset] [(.int (2 : Int32))]))
    refine Go.step (fun t k => XS.iconst X10.here hx rfl (hb hby at_102) k) ?_
    show Go _ _ _ _ _ _ _ (T10.setTop (mkF m 103 #[.val (.int nn), .val (.int p0), .val (.int p1), .val (.int p2), .val (.int p3), .val (.int (2 : Int32)), .val (.int o0), .val (.int o1), .val (.int o2), .val (.int (p3 &&& (255 : Int32))), .val (.ref om), .unset] [(.int (3 : Int32)), (.int (2 : Int32))]))
    refine Go.step (fun t k => XS.icmpYes X10.here hx rfl (pc0 := 103) (pc' := 152) rfl (hb hby at_103) rfl (feq (by decide : ¬ (2 : Int32) = (3 : Int32))).2 (by decide) (by decide) k) ?_
    show Go _ _ _ _ _ _ _ (T10.setTop (mkF m 152 #[.val (.int nn), .val (.int p0), .val (.int p1), .val (.int p2), .val (.int p3), .val (.int (2 : Int32)), .val (.int o0), .val (.int o1), .val (.int o2), .val (.int (p3 &&& (255 : Int32))), .val (.ref om), .unset] []))
    refine Go.step (fun t k => XS.iconst X10.here hx rfl (hb hby at_152) k) ?_
    show Go _ _ _ _ _ _ _ (T10.setTop (mkF m 153 #[.val (.int nn), .val (.int p0), .val (.int p1), .val (.int p2), .val (.int p3), .val (.int (2 : Int32)), .val (.int o0), .val (.int o1), .val (.int o2), .val (.int (p3 &&& (255 : Int32))), .val (.ref om), .unset] [(.int (0 : Int32))]))
    refine Go.step (fun t k => XS.istore X10.here hx rfl (hb hby at_153) rfl (l' := #[.val (.int nn), .val (.int p0), .val (.int p1), .val (.int p2), .val (.int p3), .val (.int (2 : Int32)), .val (.int o0), .val (.int o1), .val (.int o2), .val (.int (p3 &&& (255 : Int32))), .val (.ref om), .val (.int (0 : Int32))]) rfl k) ?_
    show Go _ _ _ _ _ _ _ (T10.setTop (mkF m 155 #[.val (.int nn), .val (.int p0), .val (.int p1), .val (.int p2), .val (.int p3), .val (.int (2 : Int32)), .val (.int o0), .val (.int o1), .val (.int o2), .val (.int (p3 &&& (255 : Int32))), .val (.ref om), .val (.int (0 : Int32))] []))
    refine Go.step (fun t k => XS.aload X10.here hx rfl (hb hby at_155) rfl rfl k) ?_
    show Go _ _ _ _ _ _ _ (T10.setTop (mkF m 157 #[.val (.int nn), .val (.int p0), .val (.int p1), .val (.int p2), .val (.int p3), .val (.int (2 : Int32)), .val (.int o0), .val (.int o1), .val (.int o2), .val (.int (p3 &&& (255 : Int32))), .val (.ref om), .val (.int (0 : Int32))] [(.ref om)]))
    obtain ⟨cq11, kq11, q11a, q11b, q11c⟩ := isOf hZ rfl E_om
    obtain ⟨_, _, ⟨T11, L11, k11, n11⟩, -, X11, ⟨Lc11, hQ11, l11, y11, z11⟩, st11⟩ := X10.virtualBack hx (y := (⟨"com/example/tessera/tessera/marc/MarkupName", "isReservedTarget", "()Z"⟩ : MethodName)) (z := (⟨"com/example/tessera/tessera/marc/MarkupName", "isReservedTarget", "()Z"⟩ : MethodName)) hown (mvT hZ (hw _ (List.mem_of_getElem? (i := 17) rfl))) (mvT hZ (hw _ (List.mem_of_getElem? (i := 18) rfl))) (notFace_of_selects (args := #[]) (mvT hZ (hw _ (List.mem_of_getElem? (i := 20) rfl)))) (mvT hZ (hw _ (List.mem_of_getElem? (i := 20) rfl))) (mvT hZ (hw _ (List.mem_of_getElem? (i := 19) rfl))) (by decide) (backOf (W := 0) (rm4_n l Z a0 hw [] om rt (2 : Int32) T10.heap n0 Z10 F_length_om old hsta hrt (by decide)) hZ (hw _ (List.mem_of_getElem? (i := 21) rfl)) (hw _ (List.mem_of_getElem? (i := 7) rfl)) (by decide) (by decide)) q11a q11c (g := (mkF m 157 #[.val (.int nn), .val (.int p0), .val (.int p1), .val (.int p2), .val (.int p3), .val (.int (2 : Int32)), .val (.int o0), .val (.int o1), .val (.int o2), .val (.int (p3 &&& (255 : Int32))), .val (.ref om), .val (.int (0 : Int32))] [(.ref om)])) rfl (by rw [hml]; rfl) (Steps.refl _) (argsL := []) (rest := []) (lenOf pd_0_2 rfl) rfl (by show 2 * 0 + _ ≤ _; exact Nat.le_of_eq rfl) (hb hby at_157) (fun _ _ => ⟨rfl, rfl, (by decide : 2 + 0 ≤ _), (by decide : 67 + 0 ≤ _)⟩)
    dsimp only [Pt.U, Pt.locs, Pt.cells, Pt.slots] at X11 l11 y11 z11 st11 hQ11
    subst l11 y11 z11
    obtain ⟨rfl, N11q, K11q⟩ := hQ11
    have N11 := Fr.app N10 N11q
    refine Go.step (fun t k => st11.trans k) ?_
    show Go _ _ _ _ _ _ _ (T11.setTop (mkF m 160 #[.val (.int nn), .val (.int p0), .val (.int p1), .val (.int p2), .val (.int p3), .val (.int (2 : Int32)), .val (.int o0), .val (.int o1), .val (.int o2), .val (.int (p3 &&& (255 : Int32))), .val (.ref om), .val (.int (0 : Int32))] [(.int (0 : Int32))]))
    refine Go.step (fun t k => XS.iload X11.here hx rfl (hb hby at_160) rfl k) ?_
    show Go _ _ _ _ _ _ _ (T11.setTop (mkF m 162 #[.val (.int nn), .val (.int p0), .val (.int p1), .val (.int p2), .val (.int p3), .val (.int (2 : Int32)), .val (.int o0), .val (.int o1), .val (.int o2), .val (.int (p3 &&& (255 : Int32))), .val (.ref om), .val (.int (0 : Int32))] [(.int (0 : Int32)), (.int (0 : Int32))]))
    refine Go.step (fun t k => XS.icmpNo X11.here hx rfl (hb hby at_162) rfl (teq (rfl : (0 : Int32) = (0 : Int32))).2 k) ?_
    show Go _ _ _ _ _ _ _ (T11.setTop (mkF m 165 #[.val (.int nn), .val (.int p0), .val (.int p1), .val (.int p2), .val (.int p3), .val (.int (2 : Int32)), .val (.int o0), .val (.int o1), .val (.int o2), .val (.int (p3 &&& (255 : Int32))), .val (.ref om), .val (.int (0 : Int32))] []))
    refine Go.step (fun t k => XS.iconst X11.here hx rfl (hb hby at_165) k) ?_
    show Go _ _ _ _ _ _ _ (T11.setTop (mkF m 166 #[.val (.int nn), .val (.int p0), .val (.int p1), .val (.int p2), .val (.int p3), .val (.int (2 : Int32)), .val (.int o0), .val (.int o1), .val (.int o2), .val (.int (p3 &&& (255 : Int32))), .val (.ref om), .val (.int (0 : Int32))] [(.int (1 : Int32))]))
    refine Go.step (fun t k => XS.goto X11.here hx rfl (pc0 := 166) (pc' := 170) rfl (hb hby at_166) (by decide) (by decide) k) ?_
    show Go _ _ _ _ _ _ _ (T11.setTop (mkF m 170 #[.val (.int nn), .val (.int p0), .val (.int p1), .val (.int p2), .val (.int p3), .val (.int (2 : Int32)), .val (.int o0), .val (.int o1), .val (.int o2), .val (.int (p3 &&& (255 : Int32))), .val (.ref om), .val (.int (0 : Int32))] [(.int (1 : Int32))]))
    refine Go.retN X11 Bd.notSynchronized hx (t := .boolean) Bd.returns (by simp) (hb hby at_170) (by decide) (by decide) (1 : Int32) rfl ?_
    rw [K11q]
    exact ⟨rfl, N11⟩
  · show Go _ _ _ _ _ _ _ (T5.setTop (mkF m 49 #[.val (.int nn), .val (.int p0), .val (.int p1), .val (.int p2), .val (.int p3), .val (.int (3 : Int32)), .val (.int o0), .val (.int o1), .val (.int o2), .val (.int (p3 &&& (255 : Int32))), .val (.ref om), .unset] []))
    refine Go.step (fun t k => XS.iload X5.here hx rfl (hb hby at_49) rfl k) ?_
    show Go _ _ _ _ _ _ _ (T5.setTop (mkF m 51 #[.val (.int nn), .val (.int p0), .val (.int p1), .val (.int p2), .val (.int p3), .val (.int (3 : Int32)), .val (.int o0), .val (.int o1), .val (.int o2), .val (.int (p3 &&& (255 : Int32))), .val (.ref om), .unset] [(.int (3 : Int32))]))
    refine Go.step (fun t k => XS.ifNo X5.here hx rfl (hb hby at_51) rfl ((if0 _ _).trans (tlt (by decide : (0 : Int32) < (3 : Int32))).2.2.2) k) ?_
    show Go _ _ _ _ _ _ _ (T5.setTop (mkF m 54 #[.val (.int nn), .val (.int p0), .val (.int p1), .val (.int p2), .val (.int p3), .val (.int (3 : Int32)), .val (.int o0), .val (.int o1), .val (.int o2), .val (.int (p3 &&& (255 : Int32))), .val (.ref om), .unset] []))
    refine Go.step (fun t k => XS.aload X5.here hx rfl (hb hby at_54) rfl rfl k) ?_
    show Go _ _ _ _ _ _ _ (T5.setTop (mkF m 56 #[.val (.int nn), .val (.int p0), .val (.int p1), .val (.int p2), .val (.int p3), .val (.int (3 : Int32)), .val (.int o0), .val (.int o1), .val (.int o2), .val (.int (p3 &&& (255 : Int32))), .val (.ref om), .unset] [(.ref om)]))
    refine Go.step (fun t k => XS.iload X5.here hx rfl (hb hby at_56) rfl k) ?_
    show Go _ _ _ _ _ _ _ (T5.setTop (mkF m 58 #[.val (.int nn), .val (.int p0), .val (.int p1), .val (.int p2), .val (.int p3), .val (.int (3 : Int32)), .val (.int o0), .val (.int o1), .val (.int o2), .val (.int (p3 &&& (255 : Int32))), .val (.ref om), .unset] [(.int o0), (.ref om)]))
    obtain ⟨cq12, kq12, q12a, q12b, q12c⟩ := isOf hZ rfl E_om
    obtain ⟨_, _, ⟨T12, L12, k12, n12⟩, -, X12, ⟨Lc12, hQ12, l12, y12, z12⟩, st12⟩ := X5.virtualBack hx (y := (⟨"com/example/tessera/tessera/marc/MarkupName", "add", "(I)V"⟩ : MethodName)) (z := (⟨"com/example/tessera/tessera/marc/MarkupName", "add", "(I)V"⟩ : MethodName)) hown (mvT hZ (hw _ (List.mem_of_getElem? (i := 26) rfl))) (mvT hZ (hw _ (List.mem_of_getElem? (i := 27) rfl))) (notFace_of_selects (args := #[]) (mvT hZ (hw _ (List.mem_of_getElem? (i := 29) rfl)))) (mvT hZ (hw _ (List.mem_of_getElem? (i := 29) rfl))) (mvT hZ (hw _ (List.mem_of_getElem? (i := 28) rfl))) (by decide) (backOf (W := 0) (rm5 l Z a0 hw [] om o0 by_ (0 : Int32) (0 : Int32) (fun _ => (0 : Int32)) 0 T5.heap n0 Z5 F_bytes_om F_length_om F_localStart_om E_om g_om A_by_ o5_g_by_ o5_ne_om_by_ rfl (by decide)) hZ (hw _ (List.mem_of_getElem? (i := 30) rfl)) (hw _ (List.mem_of_getElem? (i := 7) rfl)) (by decide) (by decide)) q12a q12c (g := (mkF m 58 #[.val (.int nn), .val (.int p0), .val (.int p1), .val (.int p2), .val (.int p3), .val (.int (3 : Int32)), .val (.int o0), .val (.int o1), .val (.int o2), .val (.int (p3 &&& (255 : Int32))), .val (.ref om), .unset] [(.int o0), (.ref om)])) rfl (by rw [hml]; rfl) (Steps.refl _) (argsL := [(.int o0)]) (rest := []) (lenOf pd_0_3 rfl) rfl (by show 2 * 0 + _ ≤ _; exact Nat.le_of_eq rfl) (hb hby at_58) (fun _ _ => ⟨rfl, rfl, (by decide : 2 + 0 ≤ _), (by decide : 67 + 0 ≤ _)⟩)
    dsimp only [Pt.U, Pt.locs, Pt.cells, Pt.slots] at X12 l12 y12 z12 st12 hQ12
    subst l12 y12 z12
    obtain ⟨lz_12, rfl, N12q, K12q, o12_F_bytes_om, o12_F_length_om, o12_F_localStart_om, o12_A_by_⟩ := hQ12
    have N12 := Fr.app N5 N12q
    replace old := Old.keep old K12q (allS g_om (allS o5_g_by_ all0))
    replace E_om := E_om.keep K12q
    have Z12 := Nat.le_trans Z5 K12q.1
    have F_bytes_om := o12_F_bytes_om
    have F_length_om := o12_F_length_om
    have F_localStart_om := o12_F_localStart_om
    have A_by_ := o12_A_by_
    refine Go.step (fun t k => st12.trans k) ?_
    show Go _ _ _ _ _ _ _ (T12.setTop (mkF m 61 #[.val (.int nn), .val (.int p0), .val (.int p1), .val (.int p2), .val (.int p3), .val (.int (3 : Int32)), .val (.int o0), .val (.int o1), .val (.int o2), .val (.int (p3 &&& (255 : Int32))), .val (.ref om), .unset] []))
    refine Go.step (fun t k => XS.iload X12.here hx rfl (hb hby at_61) rfl k) ?_
    show Go _ _ _ _ _ _ _ (T12.setTop (mkF m 63 #[.val (.int nn), .val (.int p0), .val (.int p1), .val (.int p2), .val (.int p3), .val (.int (3 : Int32)), .val (.int o0), .val (.int o1), .val (.int o2), .val (.int (p3 &&& (255 : Int32))), .val (.ref om), .unset] [(.int (3 : Int32))]))
    refine Go.step (fun t k => XS.iconst X12.here hx rfl (hb hby at_63) k) ?_
    show Go _ _ _ _ _ _ _ (T12.setTop (mkF m 64 #[.val (.int nn), .val (.int p0), .val (.int p1), .val (.int p2), .val (.int p3), .val (.int (3 : Int32)), .val (.int o0), .val (.int o1), .val (.int o2), .val (.int (p3 &&& (255 : Int32))), .val (.ref om), .unset] [(.int (1 : Int32)), (.int (3 : Int32))]))
    refine Go.step (fun t k => XS.icmpNo X12.here hx rfl (hb hby at_64) rfl (tlt (by decide : (1 : Int32) < (3 : Int32))).2.2.2 k) ?_
    show Go _ _ _ _ _ _ _ (T12.setTop (mkF m 67 #[.val (.int nn), .val (.int p0), .val (.int p1), .val (.int p2), .val (.int p3), .val (.int (3 : Int32)), .val (.int o0), .val (.int o1), .val (.int o2), .val (.int (p3 &&& (255 : Int32))), .val (.ref om), .unset] []))
    refine Go.step (fun t k => XS.aload X12.here hx rfl (hb hby at_67) rfl rfl k) ?_
    show Go _ _ _ _ _ _ _ (T12.setTop (mkF m 69 #[.val (.int nn), .val (.int p0), .val (.int p1), .val (.int p2), .val (.int p3), .val (.int (3 : Int32)), .val (.int o0), .val (.int o1), .val (.int o2), .val (.int (p3 &&& (255 : Int32))), .val (.ref om), .unset] [(.ref om)]))
    refine Go.step (fun t k => XS.iload X12.here hx rfl (hb hby at_69) rfl k) ?_
    show Go _ _ _ _ _ _ _ (T12.setTop (mkF m 71 #[.val (.int nn), .val (.int p0), .val (.int p1), .val (.int p2), .val (.int p3), .val (.int (3 : Int32)), .val (.int o0), .val (.int o1), .val (.int o2), .val (.int (p3 &&& (255 : Int32))), .val (.ref om), .unset] [(.int o1), (.ref om)]))
    obtain ⟨cq13, kq13, q13a, q13b, q13c⟩ := isOf hZ rfl E_om
    obtain ⟨_, _, ⟨T13, L13, k13, n13⟩, -, X13, ⟨Lc13, hQ13, l13, y13, z13⟩, st13⟩ := X12.virtualBack hx (y := (⟨"com/example/tessera/tessera/marc/MarkupName", "add", "(I)V"⟩ : MethodName)) (z := (⟨"com/example/tessera/tessera/marc/MarkupName", "add", "(I)V"⟩ : MethodName)) hown (mvT hZ (hw _ (List.mem_of_getElem? (i := 26) rfl))) (mvT hZ (hw _ (List.mem_of_getElem? (i := 27) rfl))) (notFace_of_selects (args := #[]) (mvT hZ (hw _ (List.mem_of_getElem? (i := 29) rfl)))) (mvT hZ (hw _ (List.mem_of_getElem? (i := 29) rfl))) (mvT hZ (hw _ (List.mem_of_getElem? (i := 28) rfl))) (by decide) (backOf (W := 0) (rm5 l Z a0 hw [] om o1 by_ (1 : Int32) lz_12 (up (fun _ => (0 : Int32)) 0 (own_b o0)) 1 T12.heap n0 Z12 F_bytes_om F_length_om F_localStart_om E_om g_om A_by_ o5_g_by_ o5_ne_om_by_ rfl (by decide)) hZ (hw _ (List.mem_of_getElem? (i := 30) rfl)) (hw _ (List.mem_of_getElem? (i := 7) rfl)) (by decide) (by decide)) q13a q13c (g := (mkF m 71 #[.val (.int nn), .val (.int p0), .val (.int p1), .val (.int p2), .val (.int p3), .val (.int (3 : Int32)), .val (.int o0), .val (.int o1), .val (.int o2), .val (.int (p3 &&& (255 : Int32))), .val (.ref om), .unset] [(.int o1), (.ref om)])) rfl (by rw [hml]; rfl) (Steps.refl _) (argsL := [(.int o1)]) (rest := []) (lenOf pd_0_3 rfl) rfl (by show 2 * 0 + _ ≤ _; exact Nat.le_of_eq rfl) (hb hby at_71) (fun _ _ => ⟨rfl, rfl, (by decide : 2 + 0 ≤ _), (by decide : 67 + 0 ≤ _)⟩)
    dsimp only [Pt.U, Pt.locs, Pt.cells, Pt.slots] at X13 l13 y13 z13 st13 hQ13
    subst l13 y13 z13
    obtain ⟨lz_13, rfl, N13q, K13q, o13_F_bytes_om, o13_F_length_om, o13_F_localStart_om, o13_A_by_⟩ := hQ13
    have N13 := Fr.app N12 N13q
    replace old := Old.keep old K13q (allS g_om (allS o5_g_by_ all0))
    replace E_om := E_om.keep K13q
    have Z13 := Nat.le_trans Z12 K13q.1
    have F_bytes_om := o13_F_bytes_om
    have F_length_om := o13_F_length_om
    have F_localStart_om := o13_F_localStart_om
    have A_by_ := o13_A_by_
    refine Go.step (fun t k => st13.trans k) ?_
    show Go _ _ _ _ _ _ _ (T13.setTop (mkF m 74 #[.val (.int nn), .val (.int p0), .val (.int p1), .val (.int p2), .val (.int p3), .val (.int (3 : Int32)), .val (.int o0), .val (.int o1), .val (.int o2), .val (.int (p3 &&& (255 : Int32))), .val (.ref om), .unset] []))
    refine Go.step (fun t k => XS.iload X13.here hx rfl (hb hby at_74) rfl k) ?_
    show Go _ _ _ _ _ _ _ (T13.setTop (mkF m 76 #[.val (.int nn), .val (.int p0), .val (.int p1), .val (.int p2), .val (.int p3), .val (.int (3 : Int32)), .val (.int o0), .val (.int o1), .val (.int o2), .val (.int (p3 &&& (255 : Int32))), .val (.ref om), .unset] [(.int (3 : Int32))]))
    refine Go.step (fun t k => XS.iconst X13.here hx rfl (hb hby at_76) k) ?_
    show Go _ _ _ _ _ _ _ (T13.setTop (mkF m 77 #[.val (.int nn), .val (.int p0), .val (.int p1), .val (.int p2), .val (.int p3), .val (.int (3 : Int32)), .val (.int o0), .val (.int o1), .val (.int o2), .val (.int (p3 &&& (255 : Int32))), .val (.ref om), .unset] [(.int (2 : Int32)), (.int (3 : Int32))]))
    refine Go.step (fun t k => XS.icmpNo X13.here hx rfl (hb hby at_77) rfl (tlt (by decide : (2 : Int32) < (3 : Int32))).2.2.2 k) ?_
    show Go _ _ _ _ _ _ _ (T13.setTop (mkF m 80 #[.val (.int nn), .val (.int p0), .val (.int p1), .val (.int p2), .val (.int p3), .val (.int (3 : Int32)), .val (.int o0), .val (.int o1), .val (.int o2), .val (.int (p3 &&& (255 : Int32))), .val (.ref om), .unset] []))
    refine Go.step (fun t k => XS.aload X13.here hx rfl (hb hby at_80) rfl rfl k) ?_
    show Go _ _ _ _ _ _ _ (T13.setTop (mkF m 82 #[.val (.int nn), .val (.int p0), .val (.int p1), .val (.int p2), .val (.int p3), .val (.int (3 : Int32)), .val (.int o0), .val (.int o1), .val (.int o2), .val (.int (p3 &&& (255 : Int32))), .val (.ref om), .unset] [(.ref om)]))
    refine Go.step (fun t k => XS.iload X13.here hx rfl (hb hby at_82) rfl k) ?_
    show Go _ _ _ _ _ _ _ (T13.setTop (mkF m 84 #[.val (.int nn), .val (.int p0), .val (.int p1), .val (.int p2), .val (.int p3), .val (.int (3 : Int32)), .val (.int o0), .val (.int o1), .val (.int o2), .val (.int (p3 &&& (255 : Int32))), .val (.ref om), .unset] [(.int o2), (.ref om)]))
    obtain ⟨cq14, kq14, q14a, q14b, q14c⟩ := isOf hZ rfl E_om
    obtain ⟨_, _, ⟨T14, L14, k14, n14⟩, -, X14, ⟨Lc14, hQ14, l14, y14, z14⟩, st14⟩ := X13.virtualBack hx (y := (⟨"com/example/tessera/tessera/marc/MarkupName", "add", "(I)V"⟩ : MethodName)) (z := (⟨"com/example/tessera/tessera/marc/MarkupName", "add", "(I)V"⟩ : MethodName)) hown (mvT hZ (hw _ (List.mem_of_getElem? (i := 26) rfl))) (mvT hZ (hw _ (List.mem_of_getElem? (i := 27) rfl))) (notFace_of_selects (args := #[]) (mvT hZ (hw _ (List.mem_of_getElem? (i := 29) rfl)))) (mvT hZ (hw _ (List.mem_of_getElem? (i := 29) rfl))) (mvT hZ (hw _ (List.mem_of_getElem? (i := 28) rfl))) (by decide) (backOf (W := 0) (rm5 l Z a0 hw [] om o2 by_ (2 : Int32) lz_13 (up (up (fun _ => (0 : Int32)) 0 (own_b o0)) 1 (own_b o1)) 2 T13.heap n0 Z13 F_bytes_om F_length_om F_localStart_om E_om g_om A_by_ o5_g_by_ o5_ne_om_by_ rfl (by decide)) hZ (hw _ (List.mem_of_getElem? (i := 30) rfl)) (hw _ (List.mem_of_getElem? (i := 7) rfl)) (by decide) (by decide)) q14a q14c (g := (mkF m 84 #[.val (.int nn), .val (.int p0), .val (.int p1), .val (.int p2), .val (.int p3), .val (.int (3 : Int32)), .val (.int o0), .val (.int o1), .val (.int o2), .val (.int (p3 &&& (255 : Int32))), .val (.ref om), .unset] [(.int o2), (.ref om)])) rfl (by rw [hml]; rfl) (Steps.refl _) (argsL := [(.int o2)]) (rest := []) (lenOf pd_0_3 rfl) rfl (by show 2 * 0 + _ ≤ _; exact Nat.le_of_eq rfl) (hb hby at_84) (fun _ _ => ⟨rfl, rfl, (by decide : 2 + 0 ≤ _), (by decide : 67 + 0 ≤ _)⟩)
    dsimp only [Pt.U, Pt.locs, Pt.cells, Pt.slots] at X14 l14 y14 z14 st14 hQ14
    subst l14 y14 z14
    obtain ⟨lz_14, rfl, N14q, K14q, o14_F_bytes_om, o14_F_length_om, o14_F_localStart_om, o14_A_by_⟩ := hQ14
    have N14 := Fr.app N13 N14q
    replace old := Old.keep old K14q (allS g_om (allS o5_g_by_ all0))
    replace E_om := E_om.keep K14q
    have Z14 := Nat.le_trans Z13 K14q.1
    have F_bytes_om := o14_F_bytes_om
    have F_length_om := o14_F_length_om
    have F_localStart_om := o14_F_localStart_om
    have A_by_ := o14_A_by_
    refine Go.step (fun t k => st14.trans k) ?_
    show Go _ _ _ _ _ _ _ (T14.setTop (mkF m 87 #[.val (.int nn), .val (.int p0), .val (.int p1), .val (.int p2), .val (.int p3), .val (.int (3 : Int32)), .val (.int o0), .val (.int o1), .val (.int o2), .val (.int (p3 &&& (255 : Int32))), .val (.ref om), .unset] []))
    refine Go.step (fun t k => XS.iload X14.here hx rfl (hb hby at_87) rfl k) ?_
    show Go _ _ _ _ _ _ _ (T14.setTop (mkF m 89 #[.val (.int nn), .val (.int p0), .val (.int p1), .val (.int p2), .val (.int p3), .val (.int (3 : Int32)), .val (.int o0), .val (.int o1), .val (.int o2), .val (.int (p3 &&& (255 : Int32))), .val (.ref om), .unset] [(.int (3 : Int32))]))
    refine Go.step (fun t k => XS.iconst X14.here hx rfl (hb hby at_89) k) ?_
    show Go _ _ _ _ _ _ _ (T14.setTop (mkF m 90 #[.val (.int nn), .val (.int p0), .val (.int p1), .val (.int p2), .val (.int p3), .val (.int (3 : Int32)), .val (.int o0), .val (.int o1), .val (.int o2), .val (.int (p3 &&& (255 : Int32))), .val (.ref om), .unset] [(.int (3 : Int32)), (.int (3 : Int32))]))
    refine Go.step (fun t k => XS.icmpYes X14.here hx rfl (pc0 := 90) (pc' := 100) rfl (hb hby at_90) rfl (flt (by decide : ¬ (3 : Int32) < (3 : Int32))).2.2.2 (by decide) (by decide) k) ?_
    show Go _ _ _ _ _ _ _ (T14.setTop (mkF m 100 #[.val (.int nn), .val (.int p0), .val (.int p1), .val (.int p2), .val (.int p3), .val (.int (3 : Int32)), .val (.int o0), .val (.int o1), .val (.int o2), .val (.int (p3 &&& (255 : Int32))), .val (.ref om), .unset] []))
    refine Go.step (fun t k => XS.iload X14.here hx rfl (hb hby at_100) rfl k) ?_
    show Go _ _ _ _ _ _ _ (T14.setTop (mkF m 102 #[.val (.int nn), .val (.int p0), .val (.int p1), .val (.int p2), .val (.int p3), .val (.int (3 : Int32)), .val (.int o0), .val (.int o1), .val (.int o2), .val (.int (p3 &&& (255 : Int32))), .val (.ref om), .unset] [(.int (3 : Int32))]))
    refine Go.step (fun t k => XS.iconst X14.here hx rfl (hb hby at_102) k) ?_
    show Go _ _ _ _ _ _ _ (T14.setTop (mkF m 103 #[.val (.int nn), .val (.int p0), .val (.int p1), .val (.int p2), .val (.int p3), .val (.int (3 : Int32)), .val (.int o0), .val (.int o1), .val (.int o2), .val (.int (p3 &&& (255 : Int32))), .val (.ref om), .unset] [(.int (3 : Int32)), (.int (3 : Int32))]))
    refine Go.step (fun t k => XS.icmpNo X14.here hx rfl (hb hby at_103) rfl (teq (by decide : (3 : Int32) = (3 : Int32))).2 k) ?_
    show Go _ _ _ _ _ _ _ (T14.setTop (mkF m 106 #[.val (.int nn), .val (.int p0), .val (.int p1), .val (.int p2), .val (.int p3), .val (.int (3 : Int32)), .val (.int o0), .val (.int o1), .val (.int o2), .val (.int (p3 &&& (255 : Int32))), .val (.ref om), .unset] []))
    refine Go.step (fun t k => XS.iload X14.here hx rfl (hb hby at_106) rfl k) ?_
    show Go _ _ _ _ _ _ _ (T14.setTop (mkF m 108 #[.val (.int nn), .val (.int p0), .val (.int p1), .val (.int p2), .val (.int p3), .val (.int (3 : Int32)), .val (.int o0), .val (.int o1), .val (.int o2), .val (.int (p3 &&& (255 : Int32))), .val (.ref om), .unset] [(.int o0)]))
    refine Go.step (fun t k => XS.bipush X14.here hx rfl (hb hby at_108) k) ?_
    show Go _ _ _ _ _ _ _ (T14.setTop (mkF m 110 #[.val (.int nn), .val (.int p0), .val (.int p1), .val (.int p2), .val (.int p3), .val (.int (3 : Int32)), .val (.int o0), .val (.int o1), .val (.int o2), .val (.int (p3 &&& (255 : Int32))), .val (.ref om), .unset] [(.int (120 : Int32)), (.int o0)]))
    -- joined again at pc 153
    obtain ⟨ex, hex⟩ : ∃ z : Int32, z = (if o0 = (120 : Int32) then (if o1 = (109 : Int32) then (if o2 = (108 : Int32) then (1 : Int32) else (if o2 = (76 : Int32) then (1 : Int32) else (0 : Int32))) else (if o1 = (77 : Int32) then (if o2 = (108 : Int32) then (1 : Int32) else (if o2 = (76 : Int32) then (1 : Int32) else (0 : Int32))) else (0 : Int32))) else (if o0 = (88 : Int32) then (if o1 = (109 : Int32) then (if o2 = (108 : Int32) then (1 : Int32) else (if o2 = (76 : Int32) then (1 : Int32) else (0 : Int32))) else (if o1 = (77 : Int32) then (if o2 = (108 : Int32) then (1 : Int32) else (if o2 = (76 : Int32) then (1 : Int32) else (0 : Int32))) else (0 : Int32))) else (0 : Int32))) := ⟨_, rfl⟩
    have st15 : ∀ t, Steps p.tables e below (T14.setTop (mkF m 153 #[.val (.int nn), .val (.int p0), .val (.int p1), .val (.int p2), .val (.int p3), .val (.int (3 : Int32)), .val (.int o0), .val (.int o1), .val (.int o2), .val (.int (p3 &&& (255 : Int32))), .val (.ref om), .unset] [(.int ex)])) t → Steps p.tables e below (T14.setTop (mkF m 110 #[.val (.int nn), .val (.int p0), .val (.int p1), .val (.int p2), .val (.int p3), .val (.int (3 : Int32)), .val (.int o0), .val (.int o1), .val (.int o2), .val (.int (p3 &&& (255 : Int32))), .val (.ref om), .unset] [(.int (120 : Int32)), (.int o0)])) t := by
      intro t kt
      by_cases hd110_16 : o0 = (120 : Int32)
      · refine XS.icmpYes X14.here hx rfl (pc0 := 110) (pc' := 120) rfl (hb hby at_110) rfl (teq hd110_16).1 (by decide) (by decide) ?_
        show Steps p.tables e below (T14.setTop (mkF m 120 #[.val (.int nn), .val (.int p0), .val (.int p1), .val (.int p2), .val (.int p3), .val (.int (3 : Int32)), .val (.int o0), .val (.int o1), .val (.int o2), .val (.int (p3 &&& (255 : Int32))), .val (.ref om), .unset] [])) _
        refine XS.iload X14.here hx rfl (hb hby at_120) rfl ?_
        show Steps p.tables e below (T14.setTop (mkF m 122 #[.val (.int nn), .val (.int p0), .val (.int p1), .val (.int p2), .val (.int p3), .val (.int (3 : Int32)), .val (.int o0), .val (.int o1), .val (.int o2), .val (.int (p3 &&& (255 : Int32))), .val (.ref om), .unset] [(.int o1)])) _
        refine XS.bipush X14.here hx rfl (hb hby at_122) ?_
        show Steps p.tables e below (T14.setTop (mkF m 124 #[.val (.int nn), .val (.int p0), .val (.int p1), .val (.int p2), .val (.int p3), .val (.int (3 : Int32)), .val (.int o0), .val (.int o1), .val (.int o2), .val (.int (p3 &&& (255 : Int32))), .val (.ref om), .unset] [(.int (109 : Int32)), (.int o1)])) _
        by_cases hd124_17 : o1 = (109 : Int32)
        · refine XS.icmpYes X14.here hx rfl (pc0 := 124) (pc' := 134) rfl (hb hby at_124) rfl (teq hd124_17).1 (by decide) (by decide) ?_
          show Steps p.tables e below (T14.setTop (mkF m 134 #[.val (.int nn), .val (.int p0), .val (.int p1), .val (.int p2), .val (.int p3), .val (.int (3 : Int32)), .val (.int o0), .val (.int o1), .val (.int o2), .val (.int (p3 &&& (255 : Int32))), .val (.ref om), .unset] [])) _
          refine XS.iload X14.here hx rfl (hb hby at_134) rfl ?_
          show Steps p.tables e below (T14.setTop (mkF m 136 #[.val (.int nn), .val (.int p0), .val (.int p1), .val (.int p2), .val (.int p3), .val (.int (3 : Int32)), .val (.int o0), .val (.int o1), .val (.int o2), .val (.int (p3 &&& (255 : Int32))), .val (.ref om), .unset] [(.int o2)])) _
          refine XS.bipush X14.here hx rfl (hb hby at_136) ?_
          show Steps p.tables e below (T14.setTop (mkF m 138 #[.val (.int nn), .val (.int p0), .val (.int p1), .val (.int p2), .val (.int p3), .val (.int (3 : Int32)), .val (.int o0), .val (.int o1), .val (.int o2), .val (.int (p3 &&& (255 : Int32))), .val (.ref om), .unset] [(.int (108 : Int32)), (.int o2)])) _
          by_cases hd138_18 : o2 = (108 : Int32)
          · refine XS.icmpYes X14.here hx rfl (pc0 := 138) (pc' := 148) rfl (hb hby at_138) rfl (teq hd138_18).1 (by decide) (by decide) ?_
            show Steps p.tables e below (T14.setTop (mkF m 148 #[.val (.int nn), .val (.int p0), .val (.int p1), .val (.int p2), .val (.int p3), .val (.int (3 : Int32)), .val (.int o0), .val (.int o1), .val (.int o2), .val (.int (p3 &&& (255 : Int32))), .val (.ref om), .unset] [])) _
            refine XS.iconst X14.here hx rfl (hb hby at_148) ?_
            show Steps p.tables e below (T14.setTop (mkF m 149 #[.val (.int nn), .val (.int p0), .val (.int p1), .val (.int p2), .val (.int p3), .val (.int (3 : Int32)), .val (.int o0), .val (.int o1), .val (.int o2), .val (.int (p3 &&& (255 : Int32))), .val (.ref om), .unset] [(.int (1 : Int32))])) _
            refine XS.goto X14.here hx rfl (pc0 := 149) (pc' := 153) rfl (hb hby at_149) (by decide) (by decide) ?_
            show Steps p.tables e below (T14.setTop (mkF m 153 #[.val (.int nn), .val (.int p0), .val (.int p1), .val (.int p2), .val (.int p3), .val (.int (3 : Int32)), .val (.int o0), .val (.int o1), .val (.int o2), .val (.int (p3 &&& (255 : Int32))), .val (.ref om), .unset] [(.int (1 : Int32))])) _
            have qex : ex = (1 : Int32) := by rw [hex]; simp only [if_pos hd110_16, if_pos hd124_17, if_pos hd138_18]
            rw [qex] at kt
            exact kt
          · refine XS.icmpNo X14.here hx rfl (hb hby at_138) rfl (feq hd138_18).1 ?_
            show Steps p.tables e below (T14.setTop (mkF m 141 #[.val (.int nn), .val (.int p0), .val (.int p1), .val (.int p2), .val (.int p3), .val (.int (3 : Int32)), .val (.int o0), .val (.int o1), .val (.int o2), .val (.int (p3 &&& (255 : Int32))), .val (.ref om), .unset] [])) _
            refine XS.iload X14.here hx rfl (hb hby at_141) rfl ?_
            show Steps p.tables e below (T14.setTop (mkF m 143 #[.val (.int nn), .val (.int p0), .val (.int p1), .val (.int p2), .val (.int p3), .val (.int (3 : Int32)), .val (.int o0), .val (.int o1), .val (.int o2), .val (.int (p3 &&& (255 : Int32))), .val (.ref om), .unset] [(.int o2)])) _
            refine XS.bipush X14.here hx rfl (hb hby at_143) ?_
            show Steps p.tables e below (T14.setTop (mkF m 145 #[.val (.int nn), .val (.int p0), .val (.int p1), .val (.int p2), .val (.int p3), .val (.int (3 : Int32)), .val (.int o0), .val (.int o1), .val (.int o2), .val (.int (p3 &&& (255 : Int32))), .val (.ref om), .unset] [(.int (76 : Int32)), (.int o2)])) _
            by_cases hd145_19 : o2 = (76 : Int32)
            · refine XS.icmpNo X14.here hx rfl (hb hby at_145) rfl (teq hd145_19).2 ?_
              show Steps p.tables e below (T14.setTop (mkF m 148 #[.val (.int nn), .val (.int p0), .val (.int p1), .val (.int p2), .val (.int p3), .val (.int (3 : Int32)), .val (.int o0), .val (.int o1), .val (.int o2), .val (.int (p3 &&& (255 : Int32))), .val (.ref om), .unset] [])) _
              refine XS.iconst X14.here hx rfl (hb hby at_148) ?_
              show Steps p.tables e below (T14.setTop (mkF m 149 #[.val (.int nn), .val (.int p0), .val (.int p1), .val (.int p2), .val (.int p3), .val (.int (3 : Int32)), .val (.int o0), .val (.int o1), .val (.int o2), .val (.int (p3 &&& (255 : Int32))), .val (.ref om), .unset] [(.int (1 : Int32))])) _
              refine XS.goto X14.here hx rfl (pc0 := 149) (pc' := 153) rfl (hb hby at_149) (by decide) (by decide) ?_
              show Steps p.tables e below (T14.setTop (mkF m 153 #[.val (.int nn), .val (.int p0), .val (.int p1), .val (.int p2), .val (.int p3), .val (.int (3 : Int32)), .val (.int o0), .val (.int o1), .val (.int o2), .val (.int (p3 &&& (255 : Int32))), .val (.ref om), .unset] [(.int (1 : Int32))])) _
              have qex : ex = (1 : Int32) := by rw [hex]; simp only [if_pos hd110_16, if_pos hd124_17, if_neg hd138_18, if_pos hd145_19]
              rw [qex] at kt
              exact kt
            · refine XS.icmpYes X14.here hx rfl (pc0 := 145) (pc' := 152) rfl (hb hby at_145) rfl (feq hd145_19).2 (by decide) (by decide) ?_
              show Steps p.tables e below (T14.setTop (mkF m 152 #[.val (.int nn), .val (.int p0), .val (.int p1), .val (.int p2), .val (.int p3), .val (.int (3 : Int32)), .val (.int o0), .val (.int o1), .val (.int o2), .val (.int (p3 &&& (255 : Int32))), .val (.ref om), .unset] [])) _
              refine XS.iconst X14.here hx rfl (hb hby at_152) ?_
              show Steps p.tables e below (T14.setTop (mkF m 153 #[.val (.int nn), .val (.int p0), .val (.int p1), .val (.int p2), .val (.int p3), .val (.int (3 : Int32)), .val (.int o0), .val (.int o1), .val (.int o2), .val (.int (p3 &&& (255 : Int32))), .val (.ref om), .unset] [(.int (0 : Int32))])) _
              have qex : ex = (0 : Int32) := by rw [hex]; simp only [if_pos hd110_16, if_pos hd124_17, if_neg hd138_18, if_neg hd145_19]
              rw [qex] at kt
              exact kt
        · refine XS.icmpNo X14.here hx rfl (hb hby at_124) rfl (feq hd124_17).1 ?_
          show Steps p.tables e below (T14.setTop (mkF m 127 #[.val (.int nn), .val (.int p0), .val (.int p1), .val (.int p2), .val (.int p3), .val (.int (3 : Int32)), .val (.int o0), .val (.int o1), .val (.int o2), .val (.int (p3 &&& (255 : Int32))), .val (.ref om), .unset] [])) _
          refine XS.iload X14.here hx rfl (hb hby at_127) rfl ?_
          show Steps p.tables e below (T14.setTop (mkF m 129 #[.val (.int nn), .val (.int p0), .val (.int p1), .val (.int p2), .val (.int p3), .val (.int (3 : Int32)), .val (.int o0), .val (.int o1), .val (.int o2), .val (.int (p3 &&& (255 : Int32))), .val (.ref om), .unset] [(.int o1)])) _
          refine XS.bipush X14.here hx rfl (hb hby at_129) ?_
          show Steps p.tables e below (T14.setTop (mkF m 131 #[.val (.int nn), .val (.int p0), .val (.int p1), .val (.int p2), .val (.int p3), .val (.int (3 : Int32)), .val (.int o0), .val (.int o1), .val (.int o2), .val (.int (p3 &&& (255 : Int32))), .val (.ref om), .unset] [(.int (77 : Int32)), (.int o1)])) _
          by_cases hd131_20 : o1 = (77 : Int32)
          · refine XS.icmpNo X14.here hx rfl (hb hby at_131) rfl (teq hd131_20).2 ?_
            show Steps p.tables e below (T14.setTop (mkF m 134 #[.val (.int nn), .val (.int p0), .val (.int p1), .val (.int p2), .val (.int p3), .val (.int (3 : Int32)), .val (.int o0), .val (.int o1), .val (.int o2), .val (.int (p3 &&& (255 : Int32))), .val (.ref om), .unset] [])) _
            refine XS.iload X14.here hx rfl (hb hby at_134) rfl ?_
            show Steps p.tables e below (T14.setTop (mkF m 136 #[.val (.int nn), .val (.int p0), .val (.int p1), .val (.int p2), .val (.int p3), .val (.int (3 : Int32)), .val (.int o0), .val (.int o1), .val (.int o2), .val (.int (p3 &&& (255 : Int32))), .val (.ref om), .unset] [(.int o2)])) _
            refine XS.bipush X14.here hx rfl (hb hby at_136) ?_
            show Steps p.tables e below (T14.setTop (mkF m 138 #[.val (.int nn), .val (.int p0), .val (.int p1), .val (.int p2), .val (.int p3), .val (.int (3 : Int32)), .val (.int o0), .val (.int o1), .val (.int o2), .val (.int (p3 &&& (255 : Int32))), .val (.ref om), .unset] [(.int (108 : Int32)), (.int o2)])) _
            by_cases hd138_21 : o2 = (108 : Int32)
            · refine XS.icmpYes X14.here hx rfl (pc0 := 138) (pc' := 148) rfl (hb hby at_138) rfl (teq hd138_21).1 (by decide) (by decide) ?_
              show Steps p.tables e below (T14.setTop (mkF m 148 #[.val (.int nn), .val (.int p0), .val (.int p1), .val (.int p2), .val (.int p3), .val (.int (3 : Int32)), .val (.int o0), .val (.int o1), .val (.int o2), .val (.int (p3 &&& (255 : Int32))), .val (.ref om), .unset] [])) _
              refine XS.iconst X14.here hx rfl (hb hby at_148) ?_
              show Steps p.tables e below (T14.setTop (mkF m 149 #[.val (.int nn), .val (.int p0), .val (.int p1), .val (.int p2), .val (.int p3), .val (.int (3 : Int32)), .val (.int o0), .val (.int o1), .val (.int o2), .val (.int (p3 &&& (255 : Int32))), .val (.ref om), .unset] [(.int (1 : Int32))])) _
              refine XS.goto X14.here hx rfl (pc0 := 149) (pc' := 153) rfl (hb hby at_149) (by decide) (by decide) ?_
              show Steps p.tables e below (T14.setTop (mkF m 153 #[.val (.int nn), .val (.int p0), .val (.int p1), .val (.int p2), .val (.int p3), .val (.int (3 : Int32)), .val (.int o0), .val (.int o1), .val (.int o2), .val (.int (p3 &&& (255 : Int32))), .val (.ref om), .unset] [(.int (1 : Int32))])) _
              have qex : ex = (1 : Int32) := by rw [hex]; simp only [if_pos hd110_16, if_neg hd124_17, if_pos hd131_20, if_pos hd138_21]
              rw [qex] at kt
              exact kt
            · refine XS.icmpNo X14.here hx rfl (hb hby at_138) rfl (feq hd138_21).1 ?_
              show Steps p.tables e below (T14.setTop (mkF m 141 #[.val (.int nn), .val (.int p0), .val (.int p1), .val (.int p2), .val (.int p3), .val (.int (3 : Int32)), .val (.int o0), .val (.int o1), .val (.int o2), .val (.int (p3 &&& (255 : Int32))), .val (.ref om), .unset] [])) _
              refine XS.iload X14.here hx rfl (hb hby at_141) rfl ?_
              show Steps p.tables e below (T14.setTop (mkF m 143 #[.val (.int nn), .val (.int p0), .val (.int p1), .val (.int p2), .val (.int p3), .val (.int (3 : Int32)), .val (.int o0), .val (.int o1), .val (.int o2), .val (.int (p3 &&& (255 : Int32))), .val (.ref om), .unset] [(.int o2)])) _
              refine XS.bipush X14.here hx rfl (hb hby at_143) ?_
              show Steps p.tables e below (T14.setTop (mkF m 145 #[.val (.int nn), .val (.int p0), .val (.int p1), .val (.int p2), .val (.int p3), .val (.int (3 : Int32)), .val (.int o0), .val (.int o1), .val (.int o2), .val (.int (p3 &&& (255 : Int32))), .val (.ref om), .unset] [(.int (76 : Int32)), (.int o2)])) _
              by_cases hd145_22 : o2 = (76 : Int32)
              · refine XS.icmpNo X14.here hx rfl (hb hby at_145) rfl (teq hd145_22).2 ?_
                show Steps p.tables e below (T14.setTop (mkF m 148 #[.val (.int nn), .val (.int p0), .val (.int p1), .val (.int p2), .val (.int p3), .val (.int (3 : Int32)), .val (.int o0), .val (.int o1), .val (.int o2), .val (.int (p3 &&& (255 : Int32))), .val (.ref om), .unset] [])) _
                refine XS.iconst X14.here hx rfl (hb hby at_148) ?_
                show Steps p.tables e below (T14.setTop (mkF m 149 #[.val (.int nn), .val (.int p0), .val (.int p1), .val (.int p2), .val (.int p3), .val (.int (3 : Int32)), .val (.int o0), .val (.int o1), .val (.int o2), .val (.int (p3 &&& (255 : Int32))), .val (.ref om), .unset] [(.int (1 : Int32))])) _
                refine XS.goto X14.here hx rfl (pc0 := 149) (pc' := 153) rfl (hb hby at_149) (by decide) (by decide) ?_
                show Steps p.tables e below (T14.setTop (mkF m 153 #[.val (.int nn), .val (.int p0), .val (.int p1), .val (.int p2), .val (.int p3), .val (.int (3 : Int32)), .val (.int o0), .val (.int o1), .val (.int o2), .val (.int (p3 &&& (255 : Int32))), .val (.ref om), .unset] [(.int (1 : Int32))])) _
                have qex : ex = (1 : Int32) := by rw [hex]; simp only [if_pos hd110_16, if_neg hd124_17, if_pos hd131_20, if_neg hd138_21, if_pos hd145_22]
                rw [qex] at kt
                exact kt
              · refine XS.icmpYes X14.here hx rfl (pc0 := 145) (pc' := 152) rfl (hb hby at_145) rfl (feq hd145_22).2 (by decide) (by decide) ?_
                show Steps p.tables e below (T14.setTop (mkF m 152 #[.val (.int nn), .val (.int p0), .val (.int p1), .val (.int p2), .val (.int p3), .val (.int (3 : Int32)), .val (.int o0), .val (.int o1), .val (.int o2), .val (.int (p3 &&& (255 : Int32))), .val (.ref om), .unset] [])) _
                refine XS.iconst X14.here hx rfl (hb hby at_152) ?_
                show Steps p.tables e below (T14.setTop (mkF m 153 #[.val (.int nn), .val (.int p0), .val (.int p1), .val (.int p2), .val (.int p3), .val (.int (3 : Int32)), .val (.int o0), .val (.int o1), .val (.int o2), .val (.int (p3 &&& (255 : Int32))), .val (.ref om), .unset] [(.int (0 : Int32))])) _
                have qex : ex = (0 : Int32) := by rw [hex]; simp only [if_pos hd110_16, if_neg hd124_17, if_pos hd131_20, if_neg hd138_21, if_neg hd145_22]
                rw [qex] at kt
                exact kt
          · refine XS.icmpYes X14.here hx rfl (pc0 := 131) (pc' := 152) rfl (hb hby at_131) rfl (feq hd131_20).2 (by decide) (by decide) ?_
            show Steps p.tables e below (T14.setTop (mkF m 152 #[.val (.int nn), .val (.int p0), .val (.int p1), .val (.int p2), .val (.int p3), .val (.int (3 : Int32)), .val (.int o0), .val (.int o1), .val (.int o2), .val (.int (p3 &&& (255 : Int32))), .val (.ref om), .unset] [])) _
            refine XS.iconst X14.here hx rfl (hb hby at_152) ?_
            show Steps p.tables e below (T14.setTop (mkF m 153 #[.val (.int nn), .val (.int p0), .val (.int p1), .val (.int p2), .val (.int p3), .val (.int (3 : Int32)), .val (.int o0), .val (.int o1), .val (.int o2), .val (.int (p3 &&& (255 : Int32))), .val (.ref om), .unset] [(.int (0 : Int32))])) _
            have qex : ex = (0 : Int32) := by rw [hex]; simp only [if_pos hd110_16, if_neg hd124_17, if_neg hd131_20]
            rw [qex] at kt
            exact kt
      · refine XS.icmpNo X14.here hx rfl (hb hby at_110) rfl (feq hd110_16).1 ?_
        show Steps p.tables e below (T14.setTop (mkF m 113 #[.val (.int nn), .val (.int p0), .val (.int p1), .val (.int p2), .val (.int p3), .val (.int (3 : Int32)), .val (.int o0), .val (.int o1), .val (.int o2), .val (.int (p3 &&& (255 : Int32))), .val (.ref om), .unset] [])) _
        refine XS.iload X14.here hx rfl (hb hby at_113) rfl ?_
        show Steps p.tables e below (T14.setTop (mkF m 115 #[.val (.int nn), .val (.int p0), .val (.int p1), .val (.int p2), .val (.int p3), .val (.int (3 : Int32)), .val (.int o0), .val (.int o1), .val (.int o2), .val (.int (p3 &&& (255 : Int32))), .val (.ref om), .unset] [(.int o0)])) _
        refine XS.bipush X14.here hx rfl (hb hby at_115) ?_
        show Steps p.tables e below (T14.setTop (mkF m 117 #[.val (.int nn), .val (.int p0), .val (.int p1), .val (.int p2), .val (.int p3), .val (.int (3 : Int32)), .val (.int o0), .val (.int o1), .val (.int o2), .val (.int (p3 &&& (255 : Int32))), .val (.ref om), .unset] [(.int (88 : Int32)), (.int o0)])) _
        by_cases hd117_23 : o0 = (88 : Int32)
        · refine XS.icmpNo X14.here hx rfl (hb hby at_117) rfl (teq hd117_23).2 ?_
          show Steps p.tables e below (T14.setTop (mkF m 120 #[.val (.int nn), .val (.int p0), .val (.int p1), .val (.int p2), .val (.int p3), .val (.int (3 : Int32)), .val (.int o0), .val (.int o1), .val (.int o2), .val (.int (p3 &&& (255 : Int32))), .val (.ref om), .unset] [])) _
          refine XS.iload X14.here hx rfl (hb hby at_120) rfl ?_
          show Steps p.tables e below (T14.setTop (mkF m 122 #[.val (.int nn), .val (.int p0), .val (.int p1), .val (.int p2), .val (.int p3), .val (.int (3 : Int32)), .val (.int o0), .val (.int o1), .val (.int o2), .val (.int (p3 &&& (255 : Int32))), .val (.ref om), .unset] [(.int o1)])) _
          refine XS.bipush X14.here hx rfl (hb hby at_122) ?_
          show Steps p.tables e below (T14.setTop (mkF m 124 #[.val (.int nn), .val (.int p0), .val (.int p1), .val (.int p2), .val (.int p3), .val (.int (3 : Int32)), .val (.int o0), .val (.int o1), .val (.int o2), .val (.int (p3 &&& (255 : Int32))), .val (.ref om), .unset] [(.int (109 : Int32)), (.int o1)])) _
          by_cases hd124_24 : o1 = (109 : Int32)
          · refine XS.icmpYes X14.here hx rfl (pc0 := 124) (pc' := 134) rfl (hb hby at_124) rfl (teq hd124_24).1 (by decide) (by decide) ?_
            show Steps p.tables e below (T14.setTop (mkF m 134 #[.val (.int nn), .val (.int p0), .val (.int p1), .val (.int p2), .val (.int p3), .val (.int (3 : Int32)), .val (.int o0), .val (.int o1), .val (.int o2), .val (.int (p3 &&& (255 : Int32))), .val (.ref om), .unset] [])) _
            refine XS.iload X14.here hx rfl (hb hby at_134) rfl ?_
            show Steps p.tables e below (T14.setTop (mkF m 136 #[.val (.int nn), .val (.int p0), .val (.int p1), .val (.int p2), .val (.int p3), .val (.int (3 : Int32)), .val (.int o0), .val (.int o1), .val (.int o2), .val (.int (p3 &&& (255 : Int32))), .val (.ref om), .unset] [(.int o2)])) _
            refine XS.bipush X14.here hx rfl (hb hby at_136) ?_
            show Steps p.tables e below (T14.setTop (mkF m 138 #[.val (.int nn), .val (.int p0), .val (.int p1), .val (.int p2), .val (.int p3), .val (.int (3 : Int32)), .val (.int o0), .val (.int o1), .val (.int o2), .val (.int (p3 &&& (255 : Int32))), .val (.ref om), .unset] [(.int (108 : Int32)), (.int o2)])) _
            by_cases hd138_25 : o2 = (108 : Int32)
            · refine XS.icmpYes X14.here hx rfl (pc0 := 138) (pc' := 148) rfl (hb hby at_138) rfl (teq hd138_25).1 (by decide) (by decide) ?_
              show Steps p.tables e below (T14.setTop (mkF m 148 #[.val (.int nn), .val (.int p0), .val (.int p1), .val (.int p2), .val (.int p3), .val (.int (3 : Int32)), .val (.int o0), .val (.int o1), .val (.int o2), .val (.int (p3 &&& (255 : Int32))), .val (.ref om), .unset] [])) _
              refine XS.iconst X14.here hx rfl (hb hby at_148) ?_
              show Steps p.tables e below (T14.setTop (mkF m 149 #[.val (.int nn), .val (.int p0), .val (.int p1), .val (.int p2), .val (.int p3), .val (.int (3 : Int32)), .val (.int o0), .val (.int o1), .val (.int o2), .val (.int (p3 &&& (255 : Int32))), .val (.ref om), .unset] [(.int (1 : Int32))])) _
              refine XS.goto X14.here hx rfl (pc0 := 149) (pc' := 153) rfl (hb hby at_149) (by decide) (by decide) ?_
              show Steps p.tables e below (T14.setTop (mkF m 153 #[.val (.int nn), .val (.int p0), .val (.int p1), .val (.int p2), .val (.int p3), .val (.int (3 : Int32)), .val (.int o0), .val (.int o1), .val (.int o2), .val (.int (p3 &&& (255 : Int32))), .val (.ref om), .unset] [(.int (1 : Int32))])) _
              have qex : ex = (1 : Int32) := by rw [hex]; simp only [if_neg hd110_16, if_pos hd117_23, if_pos hd124_24, if_pos hd138_25]
              rw [qex] at kt
              exact kt
            · refine XS.icmpNo X14.here hx rfl (hb hby at_138) rfl (feq hd138_25).1 ?_
              show Steps p.tables e below (T14.setTop (mkF m 141 #[.val (.int nn), .val (.int p0), .val (.int p1), .val (.int p2), .val (.int p3), .val (.int (3 : Int32)), .val (.int o0), .val (.int o1), .val (.int o2), .val (.int (p3 &&& (255 : Int32))), .val (.ref om), .unset] [])) _
              refine XS.iload X14.here hx rfl (hb hby at_141) rfl ?_
              show Steps p.tables e below (T14.setTop (mkF m 143 #[.val (.int nn), .val (.int p0), .val (.int p1), .val (.int p2), .val (.int p3), .val (.int (3 : Int32)), .val (.int o0), .val (.int o1), .val (.int o2), .val (.int (p3 &&& (255 : Int32))), .val (.ref om), .unset] [(.int o2)])) _
              refine XS.bipush X14.here hx rfl (hb hby at_143) ?_
              show Steps p.tables e below (T14.setTop (mkF m 145 #[.val (.int nn), .val (.int p0), .val (.int p1), .val (.int p2), .val (.int p3), .val (.int (3 : Int32)), .val (.int o0), .val (.int o1), .val (.int o2), .val (.int (p3 &&& (255 : Int32))), .val (.ref om), .unset] [(.int (76 : Int32)), (.int o2)])) _
              by_cases hd145_26 : o2 = (76 : Int32)
              · refine XS.icmpNo X14.here hx rfl (hb hby at_145) rfl (teq hd145_26).2 ?_
                show Steps p.tables e below (T14.setTop (mkF m 148 #[.val (.int nn), .val (.int p0), .val (.int p1), .val (.int p2), .val (.int p3), .val (.int (3 : Int32)), .val (.int o0), .val (.int o1), .val (.int o2), .val (.int (p3 &&& (255 : Int32))), .val (.ref om), .unset] [])) _
                refine XS.iconst X14.here hx rfl (hb hby at_148) ?_
                show Steps p.tables e below (T14.setTop (mkF m 149 #[.val (.int nn), .val (.int p0), .val (.int p1), .val (.int p2), .val (.int p3), .val (.int (3 : Int32)), .val (.int o0), .val (.int o1), .val (.int o2), .val (.int (p3 &&& (255 : Int32))), .val (.ref om), .unset] [(.int (1 : Int32))])) _
                refine XS.goto X14.here hx rfl (pc0 := 149) (pc' := 153) rfl (hb hby at_149) (by decide) (by decide) ?_
                show Steps p.tables e below (T14.setTop (mkF m 153 #[.val (.int nn), .val (.int p0), .val (.int p1), .val (.int p2), .val (.int p3), .val (.int (3 : Int32)), .val (.int o0), .val (.int o1), .val (.int o2), .val (.int (p3 &&& (255 : Int32))), .val (.ref om), .unset] [(.int (1 : Int32))])) _
                have qex : ex = (1 : Int32) := by rw [hex]; simp only [if_neg hd110_16, if_pos hd117_23, if_pos hd124_24, if_neg hd138_25, if_pos hd145_26]
                rw [qex] at kt
                exact kt
              · refine XS.icmpYes X14.here hx rfl (pc0 := 145) (pc' := 152) rfl (hb hby at_145) rfl (feq hd145_26).2 (by decide) (by decide) ?_
                show Steps p.tables e below (T14.setTop (mkF m 152 #[.val (.int nn), .val (.int p0), .val (.int p1), .val (.int p2), .val (.int p3), .val (.int (3 : Int32)), .val (.int o0), .val (.int o1), .val (.int o2), .val (.int (p3 &&& (255 : Int32))), .val (.ref om), .unset] [])) _
                refine XS.iconst X14.here hx rfl (hb hby at_152) ?_
                show Steps p.tables e below (T14.setTop (mkF m 153 #[.val (.int nn), .val (.int p0), .val (.int p1), .val (.int p2), .val (.int p3), .val (.int (3 : Int32)), .val (.int o0), .val (.int o1), .val (.int o2), .val (.int (p3 &&& (255 : Int32))), .val (.ref om), .unset] [(.int (0 : Int32))])) _
                have qex : ex = (0 : Int32) := by rw [hex]; simp only [if_neg hd110_16, if_pos hd117_23, if_pos hd124_24, if_neg hd138_25, if_neg hd145_26]
                rw [qex] at kt
                exact kt
          · refine XS.icmpNo X14.here hx rfl (hb hby at_124) rfl (feq hd124_24).1 ?_
            show Steps p.tables e below (T14.setTop (mkF m 127 #[.val (.int nn), .val (.int p0), .val (.int p1), .val (.int p2), .val (.int p3), .val (.int (3 : Int32)), .val (.int o0), .val (.int o1), .val (.int o2), .val (.int (p3 &&& (255 : Int32))), .val (.ref om), .unset] [])) _
            refine XS.iload X14.here hx rfl (hb hby at_127) rfl ?_
            show Steps p.tables e below (T14.setTop (mkF m 129 #[.val (.int nn), .val (.int p0), .val (.int p1), .val (.int p2), .val (.int p3), .val (.int (3 : Int32)), .val (.int o0), .val (.int o1), .val (.int o2), .val (.int (p3 &&& (255 : Int32))), .val (.ref om), .unset] [(.int o1)])) _
            refine XS.bipush X14.here hx rfl (hb hby at_129) ?_
            show Steps p.tables e below (T14.setTop (mkF m 131 #[.val (.int nn), .val (.int p0), .val (.int p1), .val (.int p2), .val (.int p3), .val (.int (3 : Int32)), .val (.int o0), .val (.int o1), .val (.int o2), .val (.int (p3 &&& (255 : Int32))), .val (.ref om), .unset] [(.int (77 : Int32)), (.int o1)])) _
            by_cases hd131_27 : o1 = (77 : Int32)
            · refine XS.icmpNo X14.here hx rfl (hb hby at_131) rfl (teq hd131_27).2 ?_
              show Steps p.tables e below (T14.setTop (mkF m 134 #[.val (.int nn), .val (.int p0), .val (.int p1), .val (.int p2), .val (.int p3), .val (.int (3 : Int32)), .val (.int o0), .val (.int o1), .val (.int o2), .val (.int (p3 &&& (255 : Int32))), .val (.ref om), .unset] [])) _
              refine XS.iload X14.here hx rfl (hb hby at_134) rfl ?_
              show Steps p.tables e below (T14.setTop (mkF m 136 #[.val (.int nn), .val (.int p0), .val (.int p1), .val (.int p2), .val (.int p3), .val (.int (3 : Int32)), .val (.int o0), .val (.int o1), .val (.int o2), .val (.int (p3 &&& (255 : Int32))), .val (.ref om), .unset] [(.int o2)])) _
              refine XS.bipush X14.here hx rfl (hb hby at_136) ?_
              show Steps p.tables e below (T14.setTop (mkF m 138 #[.val (.int nn), .val (.int p0), .val (.int p1), .val (.int p2), .val (.int p3), .val (.int (3 : Int32)), .val (.int o0), .val (.int o1), .val (.int o2), .val (.int (p3 &&& (255 : Int32))), .val (.ref om), .unset] [(.int (108 : Int32)), (.int o2)])) _
              by_cases hd138_28 : o2 = (108 : Int32)
              · refine XS.icmpYes X14.here hx rfl (pc0 := 138) (pc' := 148) rfl (hb hby at_138) rfl (teq hd138_28).1 (by decide) (by decide) ?_
                show Steps p.tables e below (T14.setTop (mkF m 148 #[.val (.int nn), .val (.int p0), .val (.int p1), .val (.int p2), .val (.int p3), .val (.int (3 : Int32)), .val (.int o0), .val (.int o1), .val (.int o2), .val (.int (p3 &&& (255 : Int32))), .val (.ref om), .unset] [])) _
                refine XS.iconst X14.here hx rfl (hb hby at_148) ?_
                show Steps p.tables e below (T14.setTop (mkF m 149 #[.val (.int nn), .val (.int p0), .val (.int p1), .val (.int p2), .val (.int p3), .val (.int (3 : Int32)), .val (.int o0), .val (.int o1), .val (.int o2), .val (.int (p3 &&& (255 : Int32))), .val (.ref om), .unset] [(.int (1 : Int32))])) _
                refine XS.goto X14.here hx rfl (pc0 := 149) (pc' := 153) rfl (hb hby at_149) (by decide) (by decide) ?_
                show Steps p.tables e below (T14.setTop (mkF m 153 #[.val (.int nn), .val (.int p0), .val (.int p1), .val (.int p2), .val (.int p3), .val (.int (3 : Int32)), .val (.int o0), .val (.int o1), .val (.int o2), .val (.int (p3 &&& (255 : Int32))), .val (.ref om), .unset] [(.int (1 : Int32))])) _
                have qex : ex = (1 : Int32) := by rw [hex]; simp only [if_neg hd110_16, if_pos hd117_23, if_neg hd124_24, if_pos hd131_27, if_pos hd138_28]
                rw [qex] at kt
                exact kt
              · refine XS.icmpNo X14.here hx rfl (hb hby at_138) rfl (feq hd138_28).1 ?_
                show Steps p.tables e below (T14.setTop (mkF m 141 #[.val (.int nn), .val (.int p0), .val (.int p1), .val (.int p2), .val (.int p3), .val (.int (3 : Int32)), .val (.int o0), .val (.int o1), .val (.int o2), .val (.int (p3 &&& (255 : Int32))), .val (.ref om), .unset] [])) _
                refine XS.iload X14.here hx rfl (hb hby at_141) rfl ?_
                show Steps p.tables e below (T14.setTop (mkF m 143 #[.val (.int nn), .val (.int p0), .val (.int p1), .val (.int p2), .val (.int p3), .val (.int (3 : Int32)), .val (.int o0), .val (.int o1), .val (.int o2), .val (.int (p3 &&& (255 : Int32))), .val (.ref om), .unset] [(.int o2)])) _
                refine XS.bipush X14.here hx rfl (hb hby at_143) ?_
                show Steps p.tables e below (T14.setTop (mkF m 145 #[.val (.int nn), .val (.int p0), .val (.int p1), .val (.int p2), .val (.int p3), .val (.int (3 : Int32)), .val (.int o0), .val (.int o1), .val (.int o2), .val (.int (p3 &&& (255 : Int32))), .val (.ref om), .unset] [(.int (76 : Int32)), (.int o2)])) _
                by_cases hd145_29 : o2 = (76 : Int32)
                · refine XS.icmpNo X14.here hx rfl (hb hby at_145) rfl (teq hd145_29).2 ?_
                  show Steps p.tables e below (T14.setTop (mkF m 148 #[.val (.int nn), .val (.int p0), .val (.int p1), .val (.int p2), .val (.int p3), .val (.int (3 : Int32)), .val (.int o0), .val (.int o1), .val (.int o2), .val (.int (p3 &&& (255 : Int32))), .val (.ref om), .unset] [])) _
                  refine XS.iconst X14.here hx rfl (hb hby at_148) ?_
                  show Steps p.tables e below (T14.setTop (mkF m 149 #[.val (.int nn), .val (.int p0), .val (.int p1), .val (.int p2), .val (.int p3), .val (.int (3 : Int32)), .val (.int o0), .val (.int o1), .val (.int o2), .val (.int (p3 &&& (255 : Int32))), .val (.ref om), .unset] [(.int (1 : Int32))])) _
                  refine XS.goto X14.here hx rfl (pc0 := 149) (pc' := 153) rfl (hb hby at_149) (by decide) (by decide) ?_
                  show Steps p.tables e below (T14.setTop (mkF m 153 #[.val (.int nn), .val (.int p0), .val (.int p1), .val (.int p2), .val (.int p3), .val (.int (3 : Int32)), .val (.int o0), .val (.int o1), .val (.int o2), .val (.int (p3 &&& (255 : Int32))), .val (.ref om), .unset] [(.int (1 : Int32))])) _
                  have qex : ex = (1 : Int32) := by rw [hex]; simp only [if_neg hd110_16, if_pos hd117_23, if_neg hd124_24, if_pos hd131_27, if_neg hd138_28, if_pos hd145_29]
                  rw [qex] at kt
                  exact kt
                · refine XS.icmpYes X14.here hx rfl (pc0 := 145) (pc' := 152) rfl (hb hby at_145) rfl (feq hd145_29).2 (by decide) (by decide) ?_
                  show Steps p.tables e below (T14.setTop (mkF m 152 #[.val (.int nn), .val (.int p0), .val (.int p1), .val (.int p2), .val (.int p3), .val (.int (3 : Int32)), .val (.int o0), .val (.int o1), .val (.int o2), .val (.int (p3 &&& (255 : Int32))), .val (.ref om), .unset] [])) _
                  refine XS.iconst X14.here hx rfl (hb hby at_152) ?_
                  show Steps p.tables e below (T14.setTop (mkF m 153 #[.val (.int nn), .val (.int p0), .val (.int p1), .val (.int p2), .val (.int p3), .val (.int (3 : Int32)), .val (.int o0), .val (.int o1), .val (.int o2), .val (.int (p3 &&& (255 : Int32))), .val (.ref om), .unset] [(.int (0 : Int32))])) _
                  have qex : ex = (0 : Int32) := by rw [hex]; simp only [if_neg hd110_16, if_pos hd117_23, if_neg hd124_24, if_pos hd131_27, if_neg hd138_28, if_neg hd145_29]
                  rw [qex] at kt
                  exact kt
            · refine XS.icmpYes X14.here hx rfl (pc0 := 131) (pc' := 152) rfl (hb hby at_131) rfl (feq hd131_27).2 (by decide) (by decide) ?_
              show Steps p.tables e below (T14.setTop (mkF m 152 #[.val (.int nn), .val (.int p0), .val (.int p1), .val (.int p2), .val (.int p3), .val (.int (3 : Int32)), .val (.int o0), .val (.int o1), .val (.int o2), .val (.int (p3 &&& (255 : Int32))), .val (.ref om), .unset] [])) _
              refine XS.iconst X14.here hx rfl (hb hby at_152) ?_
              show Steps p.tables e below (T14.setTop (mkF m 153 #[.val (.int nn), .val (.int p0), .val (.int p1), .val (.int p2), .val (.int p3), .val (.int (3 : Int32)), .val (.int o0), .val (.int o1), .val (.int o2), .val (.int (p3 &&& (255 : Int32))), .val (.ref om), .unset] [(.int (0 : Int32))])) _
              have qex : ex = (0 : Int32) := by rw [hex]; simp only [if_neg hd110_16, if_pos hd117_23, if_neg hd124_24, if_neg hd131_27]
              rw [qex] at kt
              exact kt
        · refine XS.icmpYes X14.here hx rfl (pc0 := 117) (pc' := 152) rfl (hb hby at_117) rfl (feq hd117_23).2 (by decide) (by decide) ?_
          show Steps p.tables e below (T14.setTop (mkF m 152 #[.val (.int nn), .val (.int p0), .val (.int p1), .val (.int p2), .val (.int p3), .val (.int (3 : Int32)), .val (.int o0), .val (.int o1), .val (.int o2), .val (.int (p3 &&& (255 : Int32))), .val (.ref om), .unset] [])) _
          refine XS.iconst X14.here hx rfl (hb hby at_152) ?_
          show Steps p.tables e below (T14.setTop (mkF m 153 #[.val (.int nn), .val (.int p0), .val (.int p1), .val (.int p2), .val (.int p3), .val (.int (3 : Int32)), .val (.int o0), .val (.int o1), .val (.int o2), .val (.int (p3 &&& (255 : Int32))), .val (.ref om), .unset] [(.int (0 : Int32))])) _
          have qex : ex = (0 : Int32) := by rw [hex]; simp only [if_neg hd110_16, if_neg hd117_23]
          rw [qex] at kt
          exact kt
    refine Go.step st15 ?_
    show Go _ _ _ _ _ _ _ (T14.setTop (mkF m 153 #[.val (.int nn), .val (.int p0), .val (.int p1), .val (.int p2), .val (.int p3), .val (.int (3 : Int32)), .val (.int o0), .val (.int o1), .val (.int o2), .val (.int (p3 &&& (255 : Int32))), .val (.ref om), .unset] [(.int ex)]))
    refine Go.step (fun t k => XS.istore X14.here hx rfl (hb hby at_153) rfl (l' := #[.val (.int nn), .val (.int p0), .val (.int p1), .val (.int p2), .val (.int p3), .val (.int (3 : Int32)), .val (.int o0), .val (.int o1), .val (.int o2), .val (.int (p3 &&& (255 : Int32))), .val (.ref om), .val (.int ex)]) rfl k) ?_
    show Go _ _ _ _ _ _ _ (T14.setTop (mkF m 155 #[.val (.int nn), .val (.int p0), .val (.int p1), .val (.int p2), .val (.int p3), .val (.int (3 : Int32)), .val (.int o0), .val (.int o1), .val (.int o2), .val (.int (p3 &&& (255 : Int32))), .val (.ref om), .val (.int ex)] []))
    refine Go.step (fun t k => XS.aload X14.here hx rfl (hb hby at_155) rfl rfl k) ?_
    show Go _ _ _ _ _ _ _ (T14.setTop (mkF m 157 #[.val (.int nn), .val (.int p0), .val (.int p1), .val (.int p2), .val (.int p3), .val (.int (3 : Int32)), .val (.int o0), .val (.int o1), .val (.int o2), .val (.int (p3 &&& (255 : Int32))), .val (.ref om), .val (.int ex)] [(.ref om)]))
    obtain ⟨cq30, kq30, q30a, q30b, q30c⟩ := isOf hZ rfl E_om
    obtain ⟨_, _, ⟨T30, L30, k30, n30⟩, -, X30, ⟨Lc30, hQ30, l30, y30, z30⟩, st30⟩ := X14.virtualBack hx (y := (⟨"com/example/tessera/tessera/marc/MarkupName", "isReservedTarget", "()Z"⟩ : MethodName)) (z := (⟨"com/example/tessera/tessera/marc/MarkupName", "isReservedTarget", "()Z"⟩ : MethodName)) hown (mvT hZ (hw _ (List.mem_of_getElem? (i := 17) rfl))) (mvT hZ (hw _ (List.mem_of_getElem? (i := 18) rfl))) (notFace_of_selects (args := #[]) (mvT hZ (hw _ (List.mem_of_getElem? (i := 20) rfl)))) (mvT hZ (hw _ (List.mem_of_getElem? (i := 20) rfl))) (mvT hZ (hw _ (List.mem_of_getElem? (i := 19) rfl))) (by decide) (backOf (W := 0) (rm4_3 l Z a0 hw [] om rt by_ (up (up (up (fun _ => (0 : Int32)) 0 (own_b o0)) 1 (own_b o1)) 2 (own_b o2)) T14.heap n0 Z14 F_length_om F_bytes_om A_by_ old hsta hrt) hZ (hw _ (List.mem_of_getElem? (i := 21) rfl)) (hw _ (List.mem_of_getElem? (i := 7) rfl)) (by decide) (by decide)) q30a q30c (g := (mkF m 157 #[.val (.int nn), .val (.int p0), .val (.int p1), .val (.int p2), .val (.int p3), .val (.int (3 : Int32)), .val (.int o0), .val (.int o1), .val (.int o2), .val (.int (p3 &&& (255 : Int32))), .val (.ref om), .val (.int ex)] [(.ref om)])) rfl (by rw [hml]; rfl) (Steps.refl _) (argsL := []) (rest := []) (lenOf pd_0_2 rfl) rfl (by show 2 * 0 + _ ≤ _; exact Nat.le_of_eq rfl) (hb hby at_157) (fun _ _ => ⟨rfl, rfl, (by decide : 2 + 0 ≤ _), (by decide : 67 + 0 ≤ _)⟩)
    dsimp only [Pt.U, Pt.locs, Pt.cells, Pt.slots] at X30 l30 y30 z30 st30 hQ30
    subst l30 y30 z30
    obtain ⟨z_30, rfl, N30q, K30q, o30_hz⟩ := hQ30
    have N30 := Fr.app N14 N30q
    refine Go.step (fun t k => st30.trans k) ?_
    show Go _ _ _ _ _ _ _ (T30.setTop (mkF m 160 #[.val (.int nn), .val (.int p0), .val (.int p1), .val (.int p2), .val (.int p3), .val (.int (3 : Int32)), .val (.int o0), .val (.int o1), .val (.int o2), .val (.int (p3 &&& (255 : Int32))), .val (.ref om), .val (.int ex)] [(.int z_30)]))
    refine Go.step (fun t k => XS.iload X30.here hx rfl (hb hby at_160) rfl k) ?_
    show Go _ _ _ _ _ _ _ (T30.setTop (mkF m 162 #[.val (.int nn), .val (.int p0), .val (.int p1), .val (.int p2), .val (.int p3), .val (.int (3 : Int32)), .val (.int o0), .val (.int o1), .val (.int o2), .val (.int (p3 &&& (255 : Int32))), .val (.ref om), .val (.int ex)] [(.int ex), (.int z_30)]))
    refine Go.step (fun t k => XS.icmpNo X30.here hx rfl (hb hby at_162) rfl (teq (own_fin o30_hz o1_hz o2_hz o3_hz rfl rfl rfl hex : z_30 = ex)).2 k) ?_
    show Go _ _ _ _ _ _ _ (T30.setTop (mkF m 165 #[.val (.int nn), .val (.int p0), .val (.int p1), .val (.int p2), .val (.int p3), .val (.int (3 : Int32)), .val (.int o0), .val (.int o1), .val (.int o2), .val (.int (p3 &&& (255 : Int32))), .val (.ref om), .val (.int ex)] []))
    refine Go.step (fun t k => XS.iconst X30.here hx rfl (hb hby at_165) k) ?_
    show Go _ _ _ _ _ _ _ (T30.setTop (mkF m 166 #[.val (.int nn), .val (.int p0), .val (.int p1), .val (.int p2), .val (.int p3), .val (.int (3 : Int32)), .val (.int o0), .val (.int o1), .val (.int o2), .val (.int (p3 &&& (255 : Int32))), .val (.ref om), .val (.int ex)] [(.int (1 : Int32))]))
    refine Go.step (fun t k => XS.goto X30.here hx rfl (pc0 := 166) (pc' := 170) rfl (hb hby at_166) (by decide) (by decide) k) ?_
    show Go _ _ _ _ _ _ _ (T30.setTop (mkF m 170 #[.val (.int nn), .val (.int p0), .val (.int p1), .val (.int p2), .val (.int p3), .val (.int (3 : Int32)), .val (.int o0), .val (.int o1), .val (.int o2), .val (.int (p3 &&& (255 : Int32))), .val (.ref om), .val (.int ex)] [(.int (1 : Int32))]))
    refine Go.retN X30 Bd.notSynchronized hx (t := .boolean) Bd.returns (by simp) (hb hby at_170) (by decide) (by decide) (1 : Int32) rfl ?_
    rw [K30q]
    exact ⟨rfl, N30⟩
  · show Go _ _ _ _ _ _ _ (T5.setTop (mkF m 49 #[.val (.int nn), .val (.int p0), .val (.int p1), .val (.int p2), .val (.int p3), .val (.int (4 : Int32)), .val (.int o0), .val (.int o1), .val (.int o2), .val (.int (p3 &&& (255 : Int32))), .val (.ref om), .unset] []))
    refine Go.step (fun t k => XS.iload X5.here hx rfl (hb hby at_49) rfl k) ?_
    show Go _ _ _ _ _ _ _ (T5.setTop (mkF m 51 #[.val (.int nn), .val (.int p0), .val (.int p1), .val (.int p2), .val (.int p3), .val (.int (4 : Int32)), .val (.int o0), .val (.int o1), .val (.int o2), .val (.int (p3 &&& (255 : Int32))), .val (.ref om), .unset] [(.int (4 : Int32))]))
    refine Go.step (fun t k => XS.ifNo X5.here hx rfl (hb hby at_51) rfl ((if0 _ _).trans (tlt (by decide : (0 : Int32) < (4 : Int32))).2.2.2) k) ?_
    show Go _ _ _ _ _ _ _ (T5.setTop (mkF m 54 #[.val (.int nn), .val (.int p0), .val (.int p1), .val (.int p2), .val (.int p3), .val (.int (4 : Int32)), .val (.int o0), .val (.int o1), .val (.int o2), .val (.int (p3 &&& (255 : Int32))), .val (.ref om), .unset] []))
    refine Go.step (fun t k => XS.aload X5.here hx rfl (hb hby at_54) rfl rfl k) ?_
    show Go _ _ _ _ _ _ _ (T5.setTop (mkF m 56 #[.val (.int nn), .val (.int p0), .val (.int p1), .val (.int p2), .val (.int p3), .val (.int (4 : Int32)), .val (.int o0), .val (.int o1), .val (.int o2), .val (.int (p3 &&& (255 : Int32))), .val (.ref om), .unset] [(.ref om)]))
    refine Go.step (fun t k => XS.iload X5.here hx rfl (hb hby at_56) rfl k) ?_
    show Go _ _ _ _ _ _ _ (T5.setTop (mkF m 58 #[.val (.int nn), .val (.int p0), .val (.int p1), .val (.int p2), .val (.int p3), .val (.int (4 : Int32)), .val (.int o0), .val (.int o1), .val (.int o2), .val (.int (p3 &&& (255 : Int32))), .val (.ref om), .unset] [(.int o0), (.ref om)]))
    obtain ⟨cq31, kq31, q31a, q31b, q31c⟩ := isOf hZ rfl E_om
    obtain ⟨_, _, ⟨T31, L31, k31, n31⟩, -, X31, ⟨Lc31, hQ31, l31, y31, z31⟩, st31⟩ := X5.virtualBack hx (y := (⟨"com/example/tessera/tessera/marc/MarkupName", "add", "(I)V"⟩ : MethodName)) (z := (⟨"com/example/tessera/tessera/marc/MarkupName", "add", "(I)V"⟩ : MethodName)) hown (mvT hZ (hw _ (List.mem_of_getElem? (i := 26) rfl))) (mvT hZ (hw _ (List.mem_of_getElem? (i := 27) rfl))) (notFace_of_selects (args := #[]) (mvT hZ (hw _ (List.mem_of_getElem? (i := 29) rfl)))) (mvT hZ (hw _ (List.mem_of_getElem? (i := 29) rfl))) (mvT hZ (hw _ (List.mem_of_getElem? (i := 28) rfl))) (by decide) (backOf (W := 0) (rm5 l Z a0 hw [] om o0 by_ (0 : Int32) (0 : Int32) (fun _ => (0 : Int32)) 0 T5.heap n0 Z5 F_bytes_om F_length_om F_localStart_om E_om g_om A_by_ o5_g_by_ o5_ne_om_by_ rfl (by decide)) hZ (hw _ (List.mem_of_getElem? (i := 30) rfl)) (hw _ (List.mem_of_getElem? (i := 7) rfl)) (by decide) (by decide)) q31a q31c (g := (mkF m 58 #[.val (.int nn), .val (.int p0), .val (.int p1), .val (.int p2), .val (.int p3), .val (.int (4 : Int32)), .val (.int o0), .val (.int o1), .val (.int o2), .val (.int (p3 &&& (255 : Int32))), .val (.ref om), .unset] [(.int o0), (.ref om)])) rfl (by rw [hml]; rfl) (Steps.refl _) (argsL := [(.int o0)]) (rest := []) (lenOf pd_0_3 rfl) rfl (by show 2 * 0 + _ ≤ _; exact Nat.le_of_eq rfl) (hb hby at_58) (fun _ _ => ⟨rfl, rfl, (by decide : 2 + 0 ≤ _), (by decide : 67 + 0 ≤ _)⟩)
    dsimp only [Pt.U, Pt.locs, Pt.cells, Pt.slots] at X31 l31 y31 z31 st31 hQ31
    subst l31 y31 z31
    obtain ⟨lz_31, rfl, N31q, K31q, o31_F_bytes_om, o31_F_length_om, o31_F_localStart_om, o31_A_by_⟩ := hQ31
    have N31 := Fr.app N5 N31q
    replace old := Old.keep old K31q (allS g_om (allS o5_g_by_ all0))
    replace E_om := E_om.keep K31q
    have Z31 := Nat.le_trans Z5 K31q.1
    have F_bytes_om := o31_F_bytes_om
    have F_length_om := o31_F_length_om
    have F_localStart_om := o31_F_localStart_om
    have A_by_ := o31_A_by_
    refine Go.step (fun t k => st31.trans k) ?_
    show Go _ _ _ _ _ _ _ (T31.setTop (mkF m 61 #[.val (.int nn), .val (.int p0), .val (.int p1), .val (.int p2), .val (.int p3), .val (.int (4 : Int32)), .val (.int o0), .val (.int o1), .val (.int o2), .val (.int (p3 &&& (255 : Int32))), .val (.ref om), .unset] []))
    refine Go.step (fun t k => XS.iload X31.here hx rfl (hb hby at_61) rfl k) ?_
    show Go _ _ _ _ _ _ _ (T31.setTop (mkF m 63 #[.val (.int nn), .val (.int p0), .val (.int p1), .val (.int p2), .val (.int p3), .val (.int (4 : Int32)), .val (.int o0), .val (.int o1), .val (.int o2), .val (.int (p3 &&& (255 : Int32))), .val (.ref om), .unset] [(.int (4 : Int32))]))
    refine Go.step (fun t k => XS.iconst X31.here hx rfl (hb hby at_63) k) ?_
    show Go _ _ _ _ _ _ _ (T31.setTop (mkF m 64 #[.val (.int nn), .val (.int p0), .val (.int p1), .val (.int p2), .val (.int p3), .val (.int (4 : Int32)), .val (.int o0), .val (.int o1), .val (.int o2), .val (.int (p3 &&& (255 : Int32))), .val (.ref om), .unset] [(.int (1 : Int32)), (.int (4 : Int32))]))
    refine Go.step (fun t k => XS.icmpNo X31.here hx rfl (hb hby at_64) rfl (tlt (by decide : (1 : Int32) < (4 : Int32))).2.2.2 k) ?_
    show Go _ _ _ _ _ _ _ (T31.setTop (mkF m 67 #[.val (.int nn), .val (.int p0), .val (.int p1), .val (.int p2), .val (.int p3), .val (.int (4 : Int32)), .val (.int o0), .val (.int o1), .val (.int o2), .val (.int (p3 &&& (255 : Int32))), .val (.ref om), .unset] []))
    refine Go.step (fun t k => XS.aload X31.here hx rfl (hb hby at_67) rfl rfl k) ?_
    show Go _ _ _ _ _ _ _ (T31.setTop (mkF m 69 #[.val (.int nn), .val (.int p0), .val (.int p1), .val (.int p2), .val (.int p3), .val (.int (4 : Int32)), .val (.int o0), .val (.int o1), .val (.int o2), .val (.int (p3 &&& (255 : Int32))), .val (.ref om), .unset] [(.ref om)]))
    refine Go.step (fun t k => XS.iload X31.here hx rfl (hb hby at_69) rfl k) ?_
    show Go _ _ _ _ _ _ _ (T31.setTop (mkF m 71 #[.val (.int nn), .val (.int p0), .val (.int p1), .val (.int p2), .val (.int p3), .val (.int (4 : Int32)), .val (.int o0), .val (.int o1), .val (.int o2), .val (.int (p3 &&& (255 : Int32))), .val (.ref om), .unset] [(.int o1), (.ref om)]))
    obtain ⟨cq32, kq32, q32a, q32b, q32c⟩ := isOf hZ rfl E_om
    obtain ⟨_, _, ⟨T32, L32, k32, n32⟩, -, X32, ⟨Lc32, hQ32, l32, y32, z32⟩, st32⟩ := X31.virtualBack hx (y := (⟨"com/example/tessera/tessera/marc/MarkupName", "add", "(I)V"⟩ : MethodName)) (z := (⟨"com/example/tessera/tessera/marc/MarkupName", "add", "(I)V"⟩ : MethodName)) hown (mvT hZ (hw _ (List.mem_of_getElem? (i := 26) rfl))) (mvT hZ (hw _ (List.mem_of_getElem? (i := 27) rfl))) (notFace_of_selects (args := #[]) (mvT hZ (hw _ (List.mem_of_getElem? (i := 29) rfl)))) (mvT hZ (hw _ (List.mem_of_getElem? (i := 29) rfl))) (mvT hZ (hw _ (List.mem_of_getElem? (i := 28) rfl))) (by decide) (backOf (W := 0) (rm5 l Z a0 hw [] om o1 by_ (1 : Int32) lz_31 (up (fun _ => (0 : Int32)) 0 (own_b o0)) 1 T31.heap n0 Z31 F_bytes_om F_length_om F_localStart_om E_om g_om A_by_ o5_g_by_ o5_ne_om_by_ rfl (by decide)) hZ (hw _ (List.mem_of_getElem? (i := 30) rfl)) (hw _ (List.mem_of_getElem? (i := 7) rfl)) (by decide) (by decide)) q32a q32c (g := (mkF m 71 #[.val (.int nn), .val (.int p0), .val (.int p1), .val (.int p2), .val (.int p3), .val (.int (4 : Int32)), .val (.int o0), .val (.int o1), .val (.int o2), .val (.int (p3 &&& (255 : Int32))), .val (.ref om), .unset] [(.int o1), (.ref om)])) rfl (by rw [hml]; rfl) (Steps.refl _) (argsL := [(.int o1)]) (rest := []) (lenOf pd_0_3 rfl) rfl (by show 2 * 0 + _ ≤ _; exact Nat.le_of_eq rfl) (hb hby at_71) (fun _ _ => ⟨rfl, rfl, (by decide : 2 + 0 ≤ _), (by decide : 67 + 0 ≤ _)⟩)
    dsimp only [Pt.U, Pt.locs, Pt.cells, Pt.slots] at X32 l32 y32 z32 st32 hQ32
    subst l32 y32 z32
    obtain ⟨lz_32, rfl, N32q, K32q, o32_F_bytes_om, o32_F_length_om, o32_F_localStart_om, o32_A_by_⟩ := hQ32
    have N32 := Fr.app N31 N32q
    replace old := Old.keep old K32q (allS g_om (allS o5_g_by_ all0))
    replace E_om := E_om.keep K32q
    have Z32 := Nat.le_trans Z31 K32q.1
    have F_bytes_om := o32_F_bytes_om
    have F_length_om := o32_F_length_om
    have F_localStart_om := o32_F_localStart_om
    have A_by_ := o32_A_by_
    refine Go.step (fun t k => st32.trans k) ?_
    show Go _ _ _ _ _ _ _ (T32.setTop (mkF m 74 #[.val (.int nn), .val (.int p0), .val (.int p1), .val (.int p2), .val (.int p3), .val (.int (4 : Int32)), .val (.int o0), .val (.int o1), .val (.int o2), .val (.int (p3 &&& (255 : Int32))), .val (.ref om), .unset] []))
    refine Go.step (fun t k => XS.iload X32.here hx rfl (hb hby at_74) rfl k) ?_
    show Go _ _ _ _ _ _ _ (T32.setTop (mkF m 76 #[.val (.int nn), .val (.int p0), .val (.int p1), .val (.int p2), .val (.int p3), .val (.int (4 : Int32)), .val (.int o0), .val (.int o1), .val (.int o2), .val (.int (p3 &&& (255 : Int32))), .val (.ref om), .unset] [(.int (4 : Int32))]))
    refine Go.step (fun t k => XS.iconst X32.here hx rfl (hb hby at_76) k) ?_
    show Go _ _ _ _ _ _ _ (T32.setTop (mkF m 77 #[.val (.int nn), .val (.int p0), .val (.int p1), .val (.int p2), .val (.int p3), .val (.int (4 : Int32)), .val (.int o0), .val (.int o1), .val (.int o2), .val (.int (p3 &&& (255 : Int32))), .val (.ref om), .unset] [(.int (2 : Int32)), (.int (4 : Int32))]))
    refine Go.step (fun t k => XS.icmpNo X32.here hx rfl (hb hby at_77) rfl (tlt (by decide : (2 : Int32) < (4 : Int32))).2.2.2 k) ?_
    show Go _ _ _ _ _ _ _ (T32.setTop (mkF m 80 #[.val (.int nn), .val (.int p0), .val (.int p1), .val (.int p2), .val (.int p3), .val (.int (4 : Int32)), .val (.int o0), .val (.int o1), .val (.int o2), .val (.int (p3 &&& (255 : Int32))), .val (.ref om), .unset] []))
    refine Go.step (fun t k => XS.aload X32.here hx rfl (hb hby at_80) rfl rfl k) ?_
    show Go _ _ _ _ _ _ _ (T32.setTop (mkF m 82 #[.val (.int nn), .val (.int p0), .val (.int p1), .val (.int p2), .val (.int p3), .val (.int (4 : Int32)), .val (.int o0), .val (.int o1), .val (.int o2), .val (.int (p3 &&& (255 : Int32))), .val (.ref om), .unset] [(.ref om)]))
    refine Go.step (fun t k => XS.iload X32.here hx rfl (hb hby at_82) rfl k) ?_
    show Go _ _ _ _ _ _ _ (T32.setTop (mkF m 84 #[.val (.int nn), .val (.int p0), .val (.int p1), .val (.int p2), .val (.int p3), .val (.int (4 : Int32)), .val (.int o0), .val (.int o1), .val (.int o2), .val (.int (p3 &&& (255 : Int32))), .val (.ref om), .unset] [(.int o2), (.ref om)]))
    obtain ⟨cq33, kq33, q33a, q33b, q33c⟩ := isOf hZ rfl E_om
    obtain ⟨_, _, ⟨T33, L33, k33, n33⟩, -, X33, ⟨Lc33, hQ33, l33, y33, z33⟩, st33⟩ := X32.virtualBack hx (y := (⟨"com/example/tessera/tessera/marc/MarkupName", "add", "(I)V"⟩ : MethodName)) (z := (⟨"com/example/tessera/tessera/marc/MarkupName", "add", "(I)V"⟩ : MethodName)) hown (mvT hZ (hw _ (List.mem_of_getElem? (i := 26) rfl))) (mvT hZ (hw _ (List.mem_of_getElem? (i := 27) rfl))) (notFace_of_selects (args := #[]) (mvT hZ (hw _ (List.mem_of_getElem? (i := 29) rfl)))) (mvT hZ (hw _ (List.mem_of_getElem? (i := 29) rfl))) (mvT hZ (hw _ (List.mem_of_getElem? (i := 28) rfl))) (by decide) (backOf (W := 0) (rm5 l Z a0 hw [] om o2 by_ (2 : Int32) lz_32 (up (up (fun _ => (0 : Int32)) 0 (own_b o0)) 1 (own_b o1)) 2 T32.heap n0 Z32 F_bytes_om F_length_om F_localStart_om E_om g_om A_by_ o5_g_by_ o5_ne_om_by_ rfl (by decide)) hZ (hw _ (List.mem_of_getElem? (i := 30) rfl)) (hw _ (List.mem_of_getElem? (i := 7) rfl)) (by decide) (by decide)) q33a q33c (g := (mkF m 84 #[.val (.int nn), .val (.int p0), .val (.int p1), .val (.int p2), .val (.int p3), .val (.int (4 : Int32)), .val (.int o0), .val (.int o1), .val (.int o2), .val (.int (p3 &&& (255 : Int32))), .val (.ref om), .unset] [(.int o2), (.ref om)])) rfl (by rw [hml]; rfl) (Steps.refl _) (argsL := [(.int o2)]) (rest := []) (lenOf pd_0_3 rfl) rfl (by show 2 * 0 + _ ≤ _; exact Nat.le_of_eq rfl) (hb hby at_84) (fun _ _ => ⟨rfl, rfl, (by decide : 2 + 0 ≤ _), (by decide : 67 + 0 ≤ _)⟩)
    dsimp only [Pt.U, Pt.locs, Pt.cells, Pt.slots] at X33 l33 y33 z33 st33 hQ33
    subst l33 y33 z33
    obtain ⟨lz_33, rfl, N33q, K33q, o33_F_bytes_om, o33_F_length_om, o33_F_localStart_om, o33_A_by_⟩ := hQ33
    have N33 := Fr.app N32 N33q
    replace old := Old.keep old K33q (allS g_om (allS o5_g_by_ all0))
    replace E_om := E_om.keep K33q
    have Z33 := Nat.le_trans Z32 K33q.1
    have F_bytes_om := o33_F_bytes_om
    have F_length_om := o33_F_length_om
    have F_localStart_om := o33_F_localStart_om
    have A_by_ := o33_A_by_
    refine Go.step (fun t k => st33.trans k) ?_
    show Go _ _ _ _ _ _ _ (T33.setTop (mkF m 87 #[.val (.int nn), .val (.int p0), .val (.int p1), .val (.int p2), .val (.int p3), .val (.int (4 : Int32)), .val (.int o0), .val (.int o1), .val (.int o2), .val (.int (p3 &&& (255 : Int32))), .val (.ref om), .unset] []))
    refine Go.step (fun t k => XS.iload X33.here hx rfl (hb hby at_87) rfl k) ?_
    show Go _ _ _ _ _ _ _ (T33.setTop (mkF m 89 #[.val (.int nn), .val (.int p0), .val (.int p1), .val (.int p2), .val (.int p3), .val (.int (4 : Int32)), .val (.int o0), .val (.int o1), .val (.int o2), .val (.int (p3 &&& (255 : Int32))), .val (.ref om), .unset] [(.int (4 : Int32))]))
    refine Go.step (fun t k => XS.iconst X33.here hx rfl (hb hby at_89) k) ?_
    show Go _ _ _ _ _ _ _ (T33.setTop (mkF m 90 #[.val (.int nn), .val (.int p0), .val (.int p1), .val (.int p2), .val (.int p3), .val (.int (4 : Int32)), .val (.int o0), .val (.int o1), .val (.int o2), .val (.int (p3 &&& (255 : Int32))), .val (.ref om), .unset] [(.int (3 : Int32)), (.int (4 : Int32))]))
    refine Go.step (fun t k => XS.icmpNo X33.here hx rfl (hb hby at_90) rfl (tlt (by decide : (3 : Int32) < (4 : Int32))).2.2.2 k) ?_
    show Go _ _ _ _ _ _ _ (T33.setTop (mkF m 93 #[.val (.int nn), .val (.int p0), .val (.int p1), .val (.int p2), .val (.int p3), .val (.int (4 : Int32)), .val (.int o0), .val (.int o1), .val (.int o2), .val (.int (p3 &&& (255 : Int32))), .val (.ref om), .unset] []))
    refine Go.step (fun t k => XS.aload X33.here hx rfl (hb hby at_93) rfl rfl k) ?_
    show Go _ _ _ _ _ _ _ (T33.setTop (mkF m 95 #[.val (.int nn), .val (.int p0), .val (.int p1), .val (.int p2), .val (.int p3), .val (.int (4 : Int32)), .val (.int o0), .val (.int o1), .val (.int o2), .val (.int (p3 &&& (255 : Int32))), .val (.ref om), .unset] [(.ref om)]))
    refine Go.step (fun t k => XS.iload X33.here hx rfl (hb hby at_95) rfl k) ?_
    show Go _ _ _ _ _ _ _ (T33.setTop (mkF m 97 #[.val (.int nn), .val (.int p0), .val (.int p1), .val (.int p2), .val (.int p3), .val (.int (4 : Int32)), .val (.int o0), .val (.int o1), .val (.int o2), .val (.int (p3 &&& (255 : Int32))), .val (.ref om), .unset] [(.int (p3 &&& (255 : Int32))), (.ref om)]))
    obtain ⟨cq34, kq34, q34a, q34b, q34c⟩ := isOf hZ rfl E_om
    obtain ⟨_, _, ⟨T34, L34, k34, n34⟩, -, X34, ⟨Lc34, hQ34, l34, y34, z34⟩, st34⟩ := X33.virtualBack hx (y := (⟨"com/example/tessera/tessera/marc/MarkupName", "add", "(I)V"⟩ : MethodName)) (z := (⟨"com/example/tessera/tessera/marc/MarkupName", "add", "(I)V"⟩ : MethodName)) hown (mvT hZ (hw _ (List.mem_of_getElem? (i := 26) rfl))) (mvT hZ (hw _ (List.mem_of_getElem? (i := 27) rfl))) (notFace_of_selects (args := #[]) (mvT hZ (hw _ (List.mem_of_getElem? (i := 29) rfl)))) (mvT hZ (hw _ (List.mem_of_getElem? (i := 29) rfl))) (mvT hZ (hw _ (List.mem_of_getElem? (i := 28) rfl))) (by decide) (backOf (W := 0) (rm5 l Z a0 hw [] om (p3 &&& (255 : Int32)) by_ (3 : Int32) lz_33 (up (up (up (fun _ => (0 : Int32)) 0 (own_b o0)) 1 (own_b o1)) 2 (own_b o2)) 3 T33.heap n0 Z33 F_bytes_om F_length_om F_localStart_om E_om g_om A_by_ o5_g_by_ o5_ne_om_by_ rfl (by decide)) hZ (hw _ (List.mem_of_getElem? (i := 30) rfl)) (hw _ (List.mem_of_getElem? (i := 7) rfl)) (by decide) (by decide)) q34a q34c (g := (mkF m 97 #[.val (.int nn), .val (.int p0), .val (.int p1), .val (.int p2), .val (.int p3), .val (.int (4 : Int32)), .val (.int o0), .val (.int o1), .val (.int o2), .val (.int (p3 &&& (255 : Int32))), .val (.ref om), .unset] [(.int (p3 &&& (255 : Int32))), (.ref om)])) rfl (by rw [hml]; rfl) (Steps.refl _) (argsL := [(.int (p3 &&& (255 : Int32)))]) (rest := []) (lenOf pd_0_3 rfl) rfl (by show 2 * 0 + _ ≤ _; exact Nat.le_of_eq rfl) (hb hby at_97) (fun _ _ => ⟨rfl, rfl, (by decide : 2 + 0 ≤ _), (by decide : 67 + 0 ≤ _)⟩)
    dsimp only [Pt.U, Pt.locs, Pt.cells, Pt.slots] at X34 l34 y34 z34 st34 hQ34
    subst l34 y34 z34
    obtain ⟨lz_34, rfl, N34q, K34q, o34_F_bytes_om, o34_F_length_om, o34_F_localStart_om, o34_A_by_⟩ := hQ34
    have N34 := Fr.app N33 N34q
    replace old := Old.keep old K34q (allS g_om (allS o5_g_by_ all0))
    replace E_om := E_om.keep K34q
    have Z34 := Nat.le_trans Z33 K34q.1
    have F_bytes_om := o34_F_bytes_om
    have F_length_om := o34_F_length_om
    have F_localStart_om := o34_F_localStart_om
    have A_by_ := o34_A_by_
    refine Go.step (fun t k => st34.trans k) ?_
    show Go _ _ _ _ _ _ _ (T34.setTop (mkF m 100 #[.val (.int nn), .val (.int p0), .val (.int p1), .val (.int p2), .val (.int p3), .val (.int (4 : Int32)), .val (.int o0), .val (.int o1), .val (.int o2), .val (.int (p3 &&& (255 : Int32))), .val (.ref om), .unset] []))
    refine Go.step (fun t k => XS.iload X34.here hx rfl (hb hby at_100) rfl k) ?_
    show Go _ _ _ _ _ _ _ (T34.setTop (mkF m 102 #[.val (.int nn), .val (.int p0), .val (.int p1), .val (.int p2), .val (.int p3), .val (.int (4 : Int32)), .val (.int o0), .val (.int o1), .val (.int o2), .val (.int (p3 &&& (255 : Int32))), .val (.ref om), .unset] [(.int (4 : Int32))]))
    refine Go.step (fun t k => XS.iconst X34.here hx rfl (hb hby at_102) k) ?_
    show Go _ _ _ _ _ _ _ (T34.setTop (mkF m 103 #[.val (.int nn), .val (.int p0), .val (.int p1), .val (.int p2), .val (.int p3), .val (.int (4 : Int32)), .val (.int o0), .val (.int o1), .val (.int o2), .val (.int (p3 &&& (255 : Int32))), .val (.ref om), .unset] [(.int (3 : Int32)), (.int (4 : Int32))]))
    refine Go.step (fun t k => XS.icmpYes X34.here hx rfl (pc0 := 103) (pc' := 152) rfl (hb hby at_103) rfl (feq (by decide : ¬ (4 : Int32) = (3 : Int32))).2 (by decide) (by decide) k) ?_
    show Go _ _ _ _ _ _ _ (T34.setTop (mkF m 152 #[.val (.int nn), .val (.int p0), .val (.int p1), .val (.int p2), .val (.int p3), .val (.int (4 : Int32)), .val (.int o0), .val (.int o1), .val (.int o2), .val (.int (p3 &&& (255 : Int32))), .val (.ref om), .unset] []))
    refine Go.step (fun t k => XS.iconst X34.here hx rfl (hb hby at_152) k) ?_
    show Go _ _ _ _ _ _ _ (T34.setTop (mkF m 153 #[.val (.int nn), .val (.int p0), .val (.int p1), .val (.int p2), .val (.int p3), .val (.int (4 : Int32)), .val (.int o0), .val (.int o1), .val (.int o2), .val (.int (p3 &&& (255 : Int32))), .val (.ref om), .unset] [(.int (0 : Int32))]))
    refine Go.step (fun t k => XS.istore X34.here hx rfl (hb hby at_153) rfl (l' := #[.val (.int nn), .val (.int p0), .val (.int p1), .val (.int p2), .val (.int p3), .val (.int (4 : Int32)), .val (.int o0), .val (.int o1), .val (.int o2), .val (.int (p3 &&& (255 : Int32))), .val (.ref om), .val (.int (0 : Int32))]) rfl k) ?_
    show Go _ _ _ _ _ _ _ (T34.setTop (mkF m 155 #[.val (.int nn), .val (.int p0), .val (.int p1), .val (.int p2), .val (.int p3), .val (.int (4 : Int32)), .val (.int o0), .val (.int o1), .val (.int o2), .val (.int (p3 &&& (255 : Int32))), .val (.ref om), .val (.int (0 : Int32))] []))
    refine Go.step (fun t k => XS.aload X34.here hx rfl (hb hby at_155) rfl rfl k) ?_
    show Go _ _ _ _ _ _ _ (T34.setTop (mkF m 157 #[.val (.int nn), .val (.int p0), .val (.int p1), .val (.int p2), .val (.int p3), .val (.int (4 : Int32)), .val (.int o0), .val (.int o1), .val (.int o2), .val (.int (p3 &&& (255 : Int32))), .val (.ref om), .val (.int (0 : Int32))] [(.ref om)]))
    obtain ⟨cq35, kq35, q35a, q35b, q35c⟩ := isOf hZ rfl E_om
    obtain ⟨_, _, ⟨T35, L35, k35, n35⟩, -, X35, ⟨Lc35, hQ35, l35, y35, z35⟩, st35⟩ := X34.virtualBack hx (y := (⟨"com/example/tessera/tessera/marc/MarkupName", "isReservedTarget", "()Z"⟩ : MethodName)) (z := (⟨"com/example/tessera/tessera/marc/MarkupName", "isReservedTarget", "()Z"⟩ : MethodName)) hown (mvT hZ (hw _ (List.mem_of_getElem? (i := 17) rfl))) (mvT hZ (hw _ (List.mem_of_getElem? (i := 18) rfl))) (notFace_of_selects (args := #[]) (mvT hZ (hw _ (List.mem_of_getElem? (i := 20) rfl)))) (mvT hZ (hw _ (List.mem_of_getElem? (i := 20) rfl))) (mvT hZ (hw _ (List.mem_of_getElem? (i := 19) rfl))) (by decide) (backOf (W := 0) (rm4_n l Z a0 hw [] om rt (4 : Int32) T34.heap n0 Z34 F_length_om old hsta hrt (by decide)) hZ (hw _ (List.mem_of_getElem? (i := 21) rfl)) (hw _ (List.mem_of_getElem? (i := 7) rfl)) (by decide) (by decide)) q35a q35c (g := (mkF m 157 #[.val (.int nn), .val (.int p0), .val (.int p1), .val (.int p2), .val (.int p3), .val (.int (4 : Int32)), .val (.int o0), .val (.int o1), .val (.int o2), .val (.int (p3 &&& (255 : Int32))), .val (.ref om), .val (.int (0 : Int32))] [(.ref om)])) rfl (by rw [hml]; rfl) (Steps.refl _) (argsL := []) (rest := []) (lenOf pd_0_2 rfl) rfl (by show 2 * 0 + _ ≤ _; exact Nat.le_of_eq rfl) (hb hby at_157) (fun _ _ => ⟨rfl, rfl, (by decide : 2 + 0 ≤ _), (by decide : 67 + 0 ≤ _)⟩)
    dsimp only [Pt.U, Pt.locs, Pt.cells, Pt.slots] at X35 l35 y35 z35 st35 hQ35
    subst l35 y35 z35
    obtain ⟨rfl, N35q, K35q⟩ := hQ35
    have N35 := Fr.app N34 N35q
    refine Go.step (fun t k => st35.trans k) ?_
    show Go _ _ _ _ _ _ _ (T35.setTop (mkF m 160 #[.val (.int nn), .val (.int p0), .val (.int p1), .val (.int p2), .val (.int p3), .val (.int (4 : Int32)), .val (.int o0), .val (.int o1), .val (.int o2), .val (.int (p3 &&& (255 : Int32))), .val (.ref om), .val (.int (0 : Int32))] [(.int (0 : Int32))]))
    refine Go.step (fun t k => XS.iload X35.here hx rfl (hb hby at_160) rfl k) ?_
    show Go _ _ _ _ _ _ _ (T35.setTop (mkF m 162 #[.val (.int nn), .val (.int p0), .val (.int p1), .val (.int p2), .val (.int p3), .val (.int (4 : Int32)), .val (.int o0), .val (.int o1), .val (.int o2), .val (.int (p3 &&& (255 : Int32))), .val (.ref om), .val (.int (0 : Int32))] [(.int (0 : Int32)), (.int (0 : Int32))]))
    refine Go.step (fun t k => XS.icmpNo X35.here hx rfl (hb hby at_162) rfl (teq (rfl : (0 : Int32) = (0 : Int32))).2 k) ?_
    show Go _ _ _ _ _ _ _ (T35.setTop (mkF m 165 #[.val (.int nn), .val (.int p0), .val (.int p1), .val (.int p2), .val (.int p3), .val (.int (4 : Int32)), .val (.int o0), .val (.int o1), .val (.int o2), .val (.int (p3 &&& (255 : Int32))), .val (.ref om), .val (.int (0 : Int32))] []))
    refine Go.step (fun t k => XS.iconst X35.here hx rfl (hb hby at_165) k) ?_
    show Go _ _ _ _ _ _ _ (T35.setTop (mkF m 166 #[.val (.int nn), .val (.int p0), .val (.int p1), .val (.int p2), .val (.int p3), .val (.int (4 : Int32)), .val (.int o0), .val (.int o1), .val (.int o2), .val (.int (p3 &&& (255 : Int32))), .val (.ref om), .val (.int (0 : Int32))] [(.int (1 : Int32))]))
    refine Go.step (fun t k => XS.goto X35.here hx rfl (pc0 := 166) (pc' := 170) rfl (hb hby at_166) (by decide) (by decide) k) ?_
    show Go _ _ _ _ _ _ _ (T35.setTop (mkF m 170 #[.val (.int nn), .val (.int p0), .val (.int p1), .val (.int p2), .val (.int p3), .val (.int (4 : Int32)), .val (.int o0), .val (.int o1), .val (.int o2), .val (.int (p3 &&& (255 : Int32))), .val (.ref om), .val (.int (0 : Int32))] [(.int (1 : Int32))]))
    refine Go.retN X35 Bd.notSynchronized hx (t := .boolean) Bd.returns (by simp) (hb hby at_170) (by decide) (by decide) (1 : Int32) rfl ?_
    rw [K35q]
    exact ⟨rfl, N35⟩
set_option maxRecDepth 65536 in
set_option maxHeartbeats 40000000 in
theorem comes_1 {Post : Tables → Env → Array Value → State → Outcome → State → Prop} (hpost : ∀ tb e args s v u, (limb_1_1.after args s (.returned v) u = true ∧ limb_1_2.after args s (.returned v) u = true ∧ True) → FrameEnd s (.returned v) u (Jvm.fieldLocs frame_1_writes args s ++ Jvm.arrayLocs frame_1_arrays args s ++ Jvm.staticLocs frame_1_statics s) 16 256 → Post tb e args s (.returned v) u) :
    ArmFor flags0 classFile x code maxLocals ret World_1 tables_1 room_1 Calls_1 rest_1 Pre_1 Post := by
  intro l hfl _ _ p e ha hc hk s m args below hf hA hF happ hP
  obtain ⟨hcalls, hrest, hpre⟩ := hP
  obtain ⟨-, -, -, hnamed, -, -, -, hat⟩ := (Spec.applies_iff hf).mp happ
  obtain ⟨hg, hn⟩ := and_e (Cond.before_iff.mp (show (Jvm.Cond.and given_1 narrow_1).before args s = true from hpre))
  obtain ⟨gv1, gv2⟩ := and_e hg
  obtain ⟨gv3, gv4⟩ := and_e gv2
  obtain ⟨gv5, gv6⟩ := and_e gv4
  obtain ⟨gv7, gv8⟩ := and_e gv6
  obtain ⟨gv9, gv10⟩ := and_e gv8
  obtain ⟨w0, w1, w2, w3, w4, rfl⟩ : ∃ w0 w1 w2 w3 w4 : Value, args = #[w0, w1, w2, w3, w4] := by
    have hs : args.size = 5 := by simpa [Cond.value, given_1] using gv1
    obtain ⟨L⟩ := args
    match L, hs with
    | [w0, w1, w2, w3, w4], _ => exact ⟨w0, w1, w2, w3, w4, rfl⟩
  have hw := fun d (hd : d ∈ tables_1) => atoms_spec (ws := Jvm.Cond.code x code maxLocals ret :: tables_1) hat d (List.mem_cons_of_mem _ hd)
  have hfit : Fit s := fun {y c} hc i hi => by
    obtain ⟨ha, rfl⟩ := Array.getElem?_eq_some_iff.mp hc
    have q := List.all_eq_true.mp ((Array.all_eq_true_iff_forall_mem.mp hF) _ (Array.getElem_mem ha)) i (List.mem_range.mpr hi)
    simpa [Array.getElem?_eq_getElem hi] using q
  obtain ⟨i0, ei0⟩ := is_v gv3
  obtain rfl : w0 = (.int i0) := Option.some.inj ei0
  obtain ⟨i1, ei1⟩ := is_v gv5
  obtain rfl : w1 = (.int i1) := Option.some.inj ei1
  obtain ⟨i2, ei2⟩ := is_v gv7
  obtain rfl : w2 = (.int i2) := Option.some.inj ei2
  obtain ⟨i3, ei3⟩ := is_v gv9
  obtain rfl : w3 = (.int i3) := Option.some.inj ei3
  obtain ⟨i4, ei4⟩ := is_v gv10
  obtain rfl : w4 = (.int i4) := Option.some.inj ei4
  obtain ⟨k1, k2⟩ := and_e hn
  obtain ⟨k3, k4⟩ := and_e k2
  obtain ⟨k5, k6⟩ := and_e k4
  obtain ⟨k7, k8⟩ := and_e k6
  obtain ⟨rt, ev⟩ := arr_v k1
  obtain ⟨cl, hAr⟩ := Arr.start ev k1
  have hsta : Sta s s.heap "com/example/tessera/tessera/marc/MarkupName" "RESERVED_TARGET" "[B" (.ref rt) := Sta.start ev (Or.inr ⟨(hw _ (List.mem_of_getElem? (i := 7) rfl)), (hw _ (List.mem_of_getElem? (i := 25) rfl))⟩)
  have hrt : AryI s s.heap rt .byte 3 (up (up (up (fun _ => (0 : Int32)) 0 (120 : Int32)) 1 (109 : Int32)) 2 (108 : Int32)) := own_start hAr ev k3 k5 k7 k8
  obtain ⟨n, o, h1, h2, h3, _, L, rfl, ⟨rfl, N⟩, hq⟩ := rm0 l s _ hw tables_1 i0 i1 i2 i3 i4 rt s.heap s.heap.size (Nat.le_refl _) (Old.start s) hsta hrt p e ha hc hk s m _ below hf ((Spec.applies_iff_loose hf).mp happ).1 ⟨rfl, State.Warmed39.refl s, rfl⟩ trivial
  refine ⟨n, _, h1, h2, h3, hpost _ _ _ _ _ _ ⟨Cond.after_iff.mpr rfl, Cond.after_iff.mpr (eq_i res_at (Term.int_eval (1)) rfl), trivial⟩ ⟨hq.1, hq.2.1, (hq.2.2.sift fun y hy => Or.inr (N y hy)).mono (by decide) (by decide)⟩⟩
theorem main_1_1 : Claimed_1_1 := comes_1 fun _ _ _ _ _ _ h hF => ⟨h.1, hF⟩
theorem main_1_2 : Claimed_1_2 := comes_1 fun _ _ _ _ _ _ h hF => ⟨h.2.1, hF⟩
end Jvm.Pilot.@@N@@
namespace Jvm.Pilot.@@N@@
open Jvm Jvm.ClassFile Sem Op Lib Jvm.Free Jvm.Stand Jvm.Pilot.@@N@@.Jvm.D
/-! MADE BY PROGRAM (witnessworld.py) out of the Statement's table words and the real class files: 9 classes; the members and pool entries that the words name. The judged class is class 1, her method 1. -/
namespace start1
open Jvm.ClassFile
def u (s : String) : CpInfo := .utf8 (stringToUtf16 s)
/-- a pool by its gaps: so many unusable entries, then the entry; so many at the end -/
def gap : Nat → List CpInfo → List CpInfo
  | 0, r => r
  | n + 1, r => .unusable :: gap n r
def poolList (es : List (Nat × CpInfo)) (last : Nat) : List CpInfo := es.foldr (fun e r => gap e.1 (e.2 :: r)) (gap last [])
def pool (es : List (Nat × CpInfo)) (last : Nat) : Array CpInfo := ⟨poolList es last⟩
def fileOf (pool : Array CpInfo) (this : Nat) (attrs : Array Attribute := #[]) (ms : Array MethodInfo := #[]) (fl : Nat := 33) (sup : Nat := 0) (ifs : Array Nat := #[]) (fds : Array FieldInfo := #[]) : ClassFile where
  minorVersion := 0
  majorVersion := 65
  constantPool := pool
  accessFlags := fl
  thisClass := this
  superClass := sup
  interfaces := ifs
  fields := fds
  methods := ms
  attributes := attrs
def plain (name : String) (sup : Option ClassId) : Class where
  name := name
  kind := .ordinary
  loader := none
  accessFlags := 33
  super := sup
  interfaces := #[]
  cf := none
  fields := #[]
  methods := #[]
  instanceTypes := #[]
  staticTypes := #[]
  resolved := #[]
  callSites := []
  init := .initialized
  statics := none
  mirror := none

def pool0 : Array CpInfo := pool [(5, u "<init>"), (0, u "()V"), (1, .class_ 10), (1, u "java/lang/Object")] 113

def k0c0 : Code := { maxStack := 0, maxLocals := 1, code := object_method_1_code, exceptionTable := #[], attributes := #[] }
def k0m0 : Method := { name := "<init>", desc := "()V", sig := { parameters := [], returnType := none }, accessFlags := 1, code := some k0c0 }
/-- java/lang/Object -/
def k0 : Class := { plain "java/lang/Object" none with
  accessFlags := 33
  interfaces := #[]
  cf := some (fileOf pool0 8 #[] #[{ accessFlags := 1, nameIndex := 5, descriptorIndex := 6, attributes := #[] }] 33 0 #[] #[])
  fields := #[]
  methods := #[k0m0]
  instanceTypes := #[]
  staticTypes := #[]
  resolved := Array.replicate 124 none
  statics := none }

def pool1 : Array CpInfo := pool [(2, .class_ 4), (0, .nameAndType 5 6), (0, u "java/lang/Object"), (0, u "<init>"), (0, u "()V"), (0, .integer 2147483647), (0, .methodref 9 10), (0, .class_ 11), (0, .nameAndType 12 13), (0, u "com/example/tessera/tessera/marc/MarkupNameIsReservedTargetPinLaw"), (0, u "pick"), (0, u "(II)I"), (0, .class_ 15), (0, u "com/example/tessera/tessera/marc/MarkupName"), (0, .methodref 14 3), (0, .methodref 14 18), (0, .nameAndType 19 20), (0, u "add"), (0, u "(I)V"), (0, .methodref 14 22), (0, .nameAndType 23 24), (0, u "isReservedTarget"), (0, u "()Z"), (2, u "law"), (0, u "(IIIII)Z")] 3

def k1m0 : Method := { name := "<init>", desc := "()V", sig := { parameters := [], returnType := none }, accessFlags := 1, code := none }
def k1c1 : Code := { maxStack := 2, maxLocals := 12, code := code, exceptionTable := #[], attributes := #[] }
def k1m1 : Method := { name := "law", desc := "(IIIII)Z", sig := { parameters := [.int, .int, .int, .int, .int], returnType := some .boolean }, accessFlags := 9, code := some k1c1 }
def k1c2 : Code := { maxStack := 2, maxLocals := 3, code := method_3_code, exceptionTable := #[], attributes := #[] }
def k1m2 : Method := { name := "pick", desc := "(II)I", sig := { parameters := [.int, .int], returnType := some .int }, accessFlags := 10, code := some k1c2 }
/-- com/example/tessera/tessera/marc/MarkupNameIsReservedTargetPinLaw -/
def k1 : Class := { plain "com/example/tessera/tessera/marc/MarkupNameIsReservedTargetPinLaw" (some 0) with
  accessFlags := 49
  interfaces := #[]
  cf := some (fileOf pool1 9 #[] #[{ accessFlags := 1, nameIndex := 5, descriptorIndex := 6, attributes := #[] }, { accessFlags := 9, nameIndex := 27, descriptorIndex := 28, attributes := #[] }, { accessFlags := 10, nameIndex := 12, descriptorIndex := 13, attributes := #[] }] 49 2 #[] #[])
  fields := #[]
  methods := #[k1m0, k1m1, k1m2]
  instanceTypes := #[]
  staticTypes := #[]
  resolved := Array.replicate 32 none
  statics := none }

def pool2 : Array CpInfo := pool [(1, .methodref 2 3), (0, .class_ 4), (0, .nameAndType 5 6), (0, u "java/lang/Object"), (0, u "<init>"), (0, u "()V"), (0, .class_ 8), (0, u "com/example/tessera/tessera/marc/MarkupName"), (0, .fieldref 7 10), (0, .nameAndType 11 12), (0, u "bytes"), (0, u "[B"), (0, .fieldref 7 14), (0, .nameAndType 15 16), (0, u "length"), (0, u "I"), (0, .fieldref 7 18), (0, .nameAndType 19 16), (0, u "localStart"), (16, u "NO_PREFIX"), (2, u "DEFAULT_NAMESPACE_DECLARATION"), (2, u "PREFIX_DECLARATION"), (4, .fieldref 7 48), (0, .nameAndType 49 12), (0, u "RESERVED_TARGET"), (18, u "ROOM"), (5, u "add"), (0, u "(I)V"), (7, u "()Z"), (0, u "isReservedTarget")] 3

def k2c0 : Code := { maxStack := 2, maxLocals := 1, code := prog_27_method_1_code, exceptionTable := #[], attributes := #[] }
def k2m0 : Method := { name := "<init>", desc := "()V", sig := { parameters := [], returnType := none }, accessFlags := 0, code := some k2c0 }
def k2c1 : Code := { maxStack := 5, maxLocals := 2, code := prog_27_method_3_code, exceptionTable := #[], attributes := #[] }
def k2m1 : Method := { name := "add", desc := "(I)V", sig := { parameters := [.int], returnType := none }, accessFlags := 0, code := some k2c1 }
def k2c2 : Code := { maxStack := 3, maxLocals := 2, code := prog_27_method_9_code, exceptionTable := #[], attributes := #[] }
def k2m2 : Method := { name := "isReservedTarget", desc := "()Z", sig := { parameters := [], returnType := some .boolean }, accessFlags := 0, code := some k2c2 }
/-- com/example/tessera/tessera/marc/MarkupName -/
def k2 : Class := { plain "com/example/tessera/tessera/marc/MarkupName" (some 0) with
  accessFlags := 48
  interfaces := #[]
  cf := some (fileOf pool2 7 #[] #[{ accessFlags := 0, nameIndex := 5, descriptorIndex := 6, attributes := #[] }, { accessFlags := 0, nameIndex := 74, descriptorIndex := 75, attributes := #[] }, { accessFlags := 0, nameIndex := 84, descriptorIndex := 83, attributes := #[] }] 48 2 #[] #[{ accessFlags := 26, nameIndex := 68, descriptorIndex := 16, attributes := #[] }, { accessFlags := 26, nameIndex := 39, descriptorIndex := 12, attributes := #[] }, { accessFlags := 26, nameIndex := 42, descriptorIndex := 12, attributes := #[] }, { accessFlags := 26, nameIndex := 36, descriptorIndex := 12, attributes := #[] }, { accessFlags := 26, nameIndex := 49, descriptorIndex := 12, attributes := #[] }, { accessFlags := 2, nameIndex := 11, descriptorIndex := 12, attributes := #[] }, { accessFlags := 2, nameIndex := 15, descriptorIndex := 16, attributes := #[] }, { accessFlags := 2, nameIndex := 19, descriptorIndex := 16, attributes := #[] }])
  fields := #[{ name := "ROOM", type := .int, accessFlags := 26, slot := 0, constantValue := 0 }, { name := "DEFAULT_NAMESPACE_DECLARATION", type := (.array .byte), accessFlags := 26, slot := 1, constantValue := 0 }, { name := "PREFIX_DECLARATION", type := (.array .byte), accessFlags := 26, slot := 2, constantValue := 0 }, { name := "NO_PREFIX", type := (.array .byte), accessFlags := 26, slot := 3, constantValue := 0 }, { name := "RESERVED_TARGET", type := (.array .byte), accessFlags := 26, slot := 4, constantValue := 0 }, { name := "bytes", type := (.array .byte), accessFlags := 2, slot := 0, constantValue := 0 }, { name := "length", type := .int, accessFlags := 2, slot := 1, constantValue := 0 }, { name := "localStart", type := .int, accessFlags := 2, slot := 2, constantValue := 0 }]
  methods := #[k2m0, k2m1, k2m2]
  instanceTypes := #[(.array .byte), .int, .int]
  staticTypes := #[.int, (.array .byte), (.array .byte), (.array .byte), (.array .byte)]
  resolved := Array.replicate 88 none
  statics := some 0 }

def pool3 : Array CpInfo := pool [(1, u "java/lang/Cloneable"), (0, .class_ 1), (0, u "java/lang/Object"), (0, .class_ 3)] 3

/-- java/lang/Cloneable -/
def k3 : Class := { plain "java/lang/Cloneable" (some 0) with
  accessFlags := 1537
  interfaces := #[]
  cf := some (fileOf pool3 2 #[] #[] 1537 4 #[] #[])
  fields := #[]
  methods := #[]
  instanceTypes := #[]
  staticTypes := #[]
  resolved := Array.replicate 8 none
  statics := none }

def pool4 : Array CpInfo := pool [(1, u "java/io/Serializable"), (0, .class_ 1), (0, u "java/lang/Object"), (0, .class_ 3)] 3

/-- java/io/Serializable -/
def k4 : Class := { plain "java/io/Serializable" (some 0) with
  accessFlags := 1537
  interfaces := #[]
  cf := some (fileOf pool4 2 #[] #[] 1537 4 #[] #[])
  fields := #[]
  methods := #[]
  instanceTypes := #[]
  staticTypes := #[]
  resolved := Array.replicate 8 none
  statics := none }

/-- the primitive byte -/
def k5 : Class := { plain "byte" none with kind := .primitive 'B', accessFlags := 0x411 }
/-- [B -/
def k6 : Class := { plain "[B" (some 0) with kind := .array 5 .byte, interfaces := #[3, 4], accessFlags := 1041 }

/-- the primitive int -/
def k7 : Class := { plain "int" none with kind := .primitive 'I', accessFlags := 0x411 }
/-- [I -/
def k8 : Class := { plain "[I" (some 0) with kind := .array 7 .int, interfaces := #[3, 4], accessFlags := 1041 }

def heap : Heap := #[{ cls := 2, slots := #[.int 0, .null, .null, .null, .ref 1], vm := .statics 2 },
  { cls := 6, slots := #[.int 120, .int 109, .int 108], vm := .none }]
def classes : Array Class := #[k0, k1, k2, k3, k4, k5, k6, k7, k8]
def interned : List (Array UInt16 × Addr) := []
def slotsUsed : Nat := 8
def theMethod : MethodId := ⟨1, 1⟩
def args0 : Array Value := #[.int 5, .int 5, .int 5, .int 5, .int 5]
def aboutOver (below : List Frame) : State where
  vm := { classes := classes, interned := interned.toArray }
  heap := heap
  slotsUsed := slotsUsed
  threads := #[{ frames := .invoking theMethod args0 :: below }]
def below0 : List Frame := [.native { method := ⟨0, 0⟩, args := #[] }]
def about1 : State := aboutOver below0
def p0 : Program := .bare "" "" ""
def e0 : Env := launch0.env 0 0 0
theorem w_frames : about1.frames = Frame.invoking theMethod args0 :: below0 := rfl
set_option maxRecDepth 65536 in
theorem w_args : argsFit about1.vm theMethod args0 = true := by decide +kernel
set_option maxRecDepth 65536 in
theorem w_heap : heapFits about1 = true := by decide +kernel
set_option maxRecDepth 65536 in
theorem w_runnable : about1.curStatus? = some .runnable := by decide +kernel
set_option maxRecDepth 65536 in
theorem w_alone : about1.alone = true := by decide +kernel
set_option maxRecDepth 65536 in
theorem w_named : about1.methodNamed? x = some theMethod := by decide +kernel
set_option maxRecDepth 65536 in
theorem w_hears : about1.hears theMethod below0 = true := by decide +kernel
set_option maxRecDepth 65536 in
theorem w_ripe : about1.ripe theMethod args0 below0 = true := by decide +kernel
theorem w_running : about1.status = .running := rfl
set_option maxRecDepth 65536 in
theorem w_room : about1.hasRoom e0.platform room_1 = true :=
  launch0.hasRoom_least _ room_1 (by decide +kernel) (by decide +kernel) (by decide +kernel) (by decide +kernel) (by decide +kernel) (by decide +kernel)
theorem allAtoms_all (ts : List Jvm.Cond) (a : Array Jvm.Value) (st : Jvm.State) : (allAtoms ts).before a st = ts.all (fun c => c.before a st) := by
  induction ts with
  | nil => rfl
  | cons c t ih =>
    show (Jvm.Cond.and c (allAtoms t)).before a st = _
    rw [Jvm.Cond.before_and, ih, List.all_cons]
def words1 : List Jvm.Cond := Jvm.Cond.code x code maxLocals ret :: tables_1
/-- a 'code' word, met by the world's own term for the bytes: nothing is compared byte by byte -/
theorem code_word {y : MethodName} {bytes : ByteArray} {mx : Nat} {rt : Option FieldType} {a : Array Value} {s : State} {m : MethodId} {meth : Method} {c : Code} (h1 : s.methodNamed? y = some m) (h2 : s.vm.method? m = some meth) (h3 : meth.code = some c) (h4 : c.code = bytes)
    (h5 : (c.maxLocals == mx && c.exceptionTable.isEmpty && decide (c.maxStack ≤ mostOperands) && decide (meth.sig.returnType = rt) && !meth.locks && decide (parseMethodDescriptor y.desc = some meth.sig)) = true) : (Jvm.Cond.code y bytes mx rt).before a s = true := by
  simp only [Bool.and_eq_true, beq_iff_eq, Bool.not_eq_true', decide_eq_true_eq] at h5
  obtain ⟨⟨⟨⟨⟨g1, g2⟩, g3⟩, g4⟩, g5⟩, g6⟩ := h5
  simp [Cond.before, Cond.holds, Cond.value, h1, h2, h3, h4, g1, g2, g3, g4, g5, g6]
def isCode : Jvm.Cond → Bool
  | .code _ _ _ _ => true
  | _ => false
theorem all_split {L : List Jvm.Cond} {P : Jvm.Cond → Bool} (h1 : L.all (fun c => isCode c || P c) = true) (h2 : ∀ c ∈ L.filter isCode, P c = true) : L.all P = true := by
  refine List.all_eq_true.mpr fun c hc => ?_
  have h := List.all_eq_true.mp h1 c hc
  rcases Bool.eq_false_or_eq_true (isCode c) with hi | hi
  · exact h2 c (List.mem_filter.mpr ⟨hc, hi⟩)
  · simpa [hi] using h
set_option maxRecDepth 65536 in
theorem w_c0 : (Jvm.Cond.code x code maxLocals ret).before args0 about1 = true := code_word (m := ⟨1, 1⟩) (meth := k1m1) (c := k1c1) (by decide +kernel) rfl rfl rfl (by decide +kernel)
set_option maxRecDepth 65536 in
theorem w_c1 : (Jvm.Cond.code ({ cls := "com/example/tessera/tessera/marc/MarkupNameIsReservedTargetPinLaw", name := "pick", desc := "(II)I" } : Jvm.MethodName) method_3_code (3 : Nat) (Option.some Jvm.ClassFile.FieldType.int)).before args0 about1 = true := code_word (m := ⟨1, 2⟩) (meth := k1m2) (c := k1c2) (by decide +kernel) rfl rfl rfl (by decide +kernel)
set_option maxRecDepth 65536 in
theorem w_c2 : (Jvm.Cond.code ({ cls := "com/example/tessera/tessera/marc/MarkupName", name := "<init>", desc := "()V" } : Jvm.MethodName) prog_27_method_1_code (1 : Nat) (Option.none : Option Jvm.ClassFile.FieldType)).before args0 about1 = true := code_word (m := ⟨2, 0⟩) (meth := k2m0) (c := k2c0) (by decide +kernel) rfl rfl rfl (by decide +kernel)
set_option maxRecDepth 65536 in
theorem w_c3 : (Jvm.Cond.code ({ cls := "java/lang/Object", name := "<init>", desc := "()V" } : Jvm.MethodName) object_method_1_code (1 : Nat) (Option.none : Option Jvm.ClassFile.FieldType)).before args0 about1 = true := code_word (m := ⟨0, 0⟩) (meth := k0m0) (c := k0c0) (by decide +kernel) rfl rfl rfl (by decide +kernel)
set_option maxRecDepth 65536 in
theorem w_c4 : (Jvm.Cond.code ({ cls := "com/example/tessera/tessera/marc/MarkupName", name := "isReservedTarget", desc := "()Z" } : Jvm.MethodName) prog_27_method_9_code (2 : Nat) (Option.some Jvm.ClassFile.FieldType.boolean)).before args0 about1 = true := code_word (m := ⟨2, 2⟩) (meth := k2m2) (c := k2c2) (by decide +kernel) rfl rfl rfl (by decide +kernel)
set_option maxRecDepth 65536 in
theorem w_c5 : (Jvm.Cond.code ({ cls := "com/example/tessera/tessera/marc/MarkupName", name := "add", desc := "(I)V" } : Jvm.MethodName) prog_27_method_3_code (2 : Nat) (Option.none : Option Jvm.ClassFile.FieldType)).before args0 about1 = true := code_word (m := ⟨2, 1⟩) (meth := k2m1) (c := k2c1) (by decide +kernel) rfl rfl rfl (by decide +kernel)
def codes1 : List Jvm.Cond := [Jvm.Cond.code x code maxLocals ret, Jvm.Cond.code ({ cls := "com/example/tessera/tessera/marc/MarkupNameIsReservedTargetPinLaw", name := "pick", desc := "(II)I" } : Jvm.MethodName) method_3_code (3 : Nat) (Option.some Jvm.ClassFile.FieldType.int), Jvm.Cond.code ({ cls := "com/example/tessera/tessera/marc/MarkupName", name := "<init>", desc := "()V" } : Jvm.MethodName) prog_27_method_1_code (1 : Nat) (Option.none : Option Jvm.ClassFile.FieldType), Jvm.Cond.code ({ cls := "java/lang/Object", name := "<init>", desc := "()V" } : Jvm.MethodName) object_method_1_code (1 : Nat) (Option.none : Option Jvm.ClassFile.FieldType), Jvm.Cond.code ({ cls := "com/example/tessera/tessera/marc/MarkupName", name := "isReservedTarget", desc := "()Z" } : Jvm.MethodName) prog_27_method_9_code (2 : Nat) (Option.some Jvm.ClassFile.FieldType.boolean), Jvm.Cond.code ({ cls := "com/example/tessera/tessera/marc/MarkupName", name := "add", desc := "(I)V" } : Jvm.MethodName) prog_27_method_3_code (2 : Nat) (Option.none : Option Jvm.ClassFile.FieldType)]
set_option maxRecDepth 65536 in
theorem codes_eq : words1.filter isCode = codes1 := rfl
theorem w_codes : ∀ c ∈ words1.filter isCode, c.before args0 about1 = true := by
  rw [codes_eq]
  intro c hc
  simp only [codes1, List.mem_cons, List.not_mem_nil, or_false] at hc
  rcases hc with rfl | rfl | rfl | rfl | rfl | rfl
  · exact w_c0
  · exact w_c1
  · exact w_c2
  · exact w_c3
  · exact w_c4
  · exact w_c5
set_option maxRecDepth 65536 in
theorem w_t1 : (words1.take 24).all (fun c => isCode c || c.before args0 about1) = true := by decide +kernel
set_option maxRecDepth 65536 in
theorem w_t2 : (words1.drop 24).all (fun c => isCode c || c.before args0 about1) = true := by decide +kernel
theorem w_tables : (allAtoms (Jvm.Cond.code x code maxLocals ret :: tables_1)).before args0 about1 = true := by
  rw [allAtoms_all]
  show words1.all (fun c => c.before args0 about1) = true
  refine all_split ?_ w_codes
  rw [← List.take_append_drop 24 words1, List.all_append, w_t1, w_t2]
  rfl
set_option maxRecDepth 65536 in
theorem w_case : (Jvm.Cond.and given_1 narrow_1).before args0 about1 = true := by decide +kernel
theorem w_applies : (headSpec (Jvm.Cond.code x code maxLocals ret :: tables_1) room_1).applies x e0.platform about1 = true :=
  (Spec.applies_iff w_frames).mpr ⟨w_running, w_runnable, w_alone, w_named, w_hears, w_ripe, w_room, w_tables⟩
theorem atStart : AtStart classFile x code maxLocals ret World_1 tables_1 room_1 Calls_1 rest_1 Pre_1 launch0 p0 e0 about1 theMethod args0 below0 :=
  ⟨lists_1, trivial, launch0.admits_env _ _ _, launch0.least_env, fairChoices_fair.cas, fairChoices_fair.clock, w_frames, w_args, w_heap, w_applies, trivial, trivial, w_case⟩
end start1
theorem witness_1 : WitnessClaimed_1 := ⟨start1.p0, start1.e0, start1.about1, start1.theMethod, start1.args0, start1.below0, start1.atStart⟩
end Jvm.Pilot.@@N@@
