import JvmDerived
import JvmDerived.Pilot.@@N@@Statement
import JvmDerived.Pilot.@@N@@Code
set_option linter.unusedVariables false
set_option linter.unusedSimpArgs false
namespace Jvm.Pilot.@@N@@
open Jvm Jvm.ClassFile Sem Op Lib Jvm.Free Jvm.Stand Jvm.LawKit Jvm.RoadKit Bundle Jvm.Pilot.@@N@@.Jvm.D
section Own
variable {p : Program} {l : Launch} {e : Env} {R : Room} {s : State} {m : MethodId} {args : Array Value} {below : List Frame} {meth : Method} {c : Code} {T : State} {locs : List Loc} {cells slots : Nat} {Z : State} {h h' : Heap} {a b : Addr}
/-- from the state σ the run comes to a return that meets Qk -/
def Go (p : Program) (e : Env) (below : List Frame) (s : State) (Qk : Option Value → Heap → List Loc → Prop) (C S : Nat) (σ : State) : Prop :=
  ∃ s₂ o, Steps p.tables e below σ s₂ ∧ s₂.status = .running ∧ Ended s₂ below o ∧ ∃ v L, o = .returned v ∧ Qk v s₂.heap L ∧ FrameEnd s o s₂ L C S
variable {Qk : Option Value → Heap → List Loc → Prop} {C S : Nat}
theorem Go.step {σ σ' : State} (hs : ∀ t, Steps p.tables e below σ' t → Steps p.tables e below σ t) (k : Go p e below s Qk C S σ') : Go p e below s Qk C S σ := by
  obtain ⟨s₂, o, h1, r⟩ := k
  exact ⟨s₂, o, hs _ h1, r⟩
theorem Go.retV (X : Stand p l e R s m args below meth c T locs cells slots) (hlk : meth.locks = false) (hx : p.tables.exec = Jvm.exec) {pc : Nat} {Ls : Array Slot} (hret : meth.sig.returnType = none) (hd : decode c.code pc = .ok (.return_, 1)) (hc : cells ≤ C) (hs : slots ≤ S) (hQ : Qk none T.heap locs) :
    Go p e below s Qk C S (T.setTop (mkF m pc Ls [])) := by
  obtain ⟨fs, hr, hrun, hended, hW, hsame⟩ := X.leave (v := none) (fun _ => rfl) hlk
  exact ⟨_, _, X.returnOut hx hret hd hr, hrun, hended, _, _, rfl, hQ, ⟨_, rfl⟩, hW, hsame.mono hc hs⟩
theorem Go.retW (X : Stand p l e R s m args below meth c T locs cells slots) (hlk : meth.locks = false) (hx : p.tables.exec = Jvm.exec) {pc : Nat} {Ls : Array Slot} {w : Value} {t : FieldType} {i : Instr} {rest : List Value} (hret : meth.sig.returnType = some t) (hn : narrow t w = w)
    (hi : (i = .ireturn ∧ (t = .int ∨ t = .boolean ∨ t = .byte ∨ t = .char ∨ t = .short) ∧ ∃ z, w = .int z) ∨ (i = .lreturn ∧ t = .long ∧ ∃ z, w = .long z) ∨ (i = .dreturn ∧ t = .double ∧ ∃ z, w = .double z) ∨ (i = .freturn ∧ t = .float ∧ ∃ z, w = .float z) ∨ (i = .areturn ∧ t.isReference = true ∧ w.isRef = true))
    (hd : decode c.code pc = .ok (i, 1)) (hc : cells ≤ C) (hs : slots ≤ S) (hQ : Qk (some w) T.heap locs) :
    Go p e below s Qk C S (T.setTop (mkF m pc Ls (w :: rest))) := by
  obtain ⟨fs, hr, hrun, hended, hW, hsame⟩ := X.leave (v := some w) (fun q => by rw [hret] at q; cases q) hlk
  exact ⟨_, _, retOut X hx hret hn hi hd hr, hrun, hended, _, _, rfl, hQ, ⟨_, rfl⟩, hW, hsame.mono hc hs⟩
theorem Go.retI (X : Stand p l e R s m args below meth c T locs cells slots) (hlk : meth.locks = false) (hx : p.tables.exec = Jvm.exec) {pc : Nat} {Ls : Array Slot} {z : Int32} {rest : List Value} (hret : meth.sig.returnType = some .int) (hd : decode c.code pc = .ok (.ireturn, 1)) (hc : cells ≤ C) (hs : slots ≤ S) (hQ : Qk (some (.int z)) T.heap locs) :
    Go p e below s Qk C S (T.setTop (mkF m pc Ls (.int z :: rest))) :=
  Go.retW X hlk hx hret rfl (Or.inl ⟨rfl, Or.inl rfl, z, rfl⟩) hd hc hs hQ
theorem Go.retJ (X : Stand p l e R s m args below meth c T locs cells slots) (hlk : meth.locks = false) (hx : p.tables.exec = Jvm.exec) {pc : Nat} {Ls : Array Slot} {z : Int64} {rest : List Value} (hret : meth.sig.returnType = some .long) (hd : decode c.code pc = .ok (.lreturn, 1)) (hc : cells ≤ C) (hs : slots ≤ S) (hQ : Qk (some (.long z)) T.heap locs) :
    Go p e below s Qk C S (T.setTop (mkF m pc Ls (.long z :: rest))) :=
  Go.retW X hlk hx hret rfl (Or.inr (Or.inl ⟨rfl, rfl, z, rfl⟩)) hd hc hs hQ
theorem Go.retA (X : Stand p l e R s m args below meth c T locs cells slots) (hlk : meth.locks = false) (hx : p.tables.exec = Jvm.exec) {pc : Nat} {Ls : Array Slot} {w : Value} {t : FieldType} {rest : List Value} (hret : meth.sig.returnType = some t) (hn : narrow t w = w) (ht : t.isReference = true) (hw : w.isRef = true) (hd : decode c.code pc = .ok (.areturn, 1)) (hc : cells ≤ C) (hs : slots ≤ S) (hQ : Qk (some w) T.heap locs) :
    Go p e below s Qk C S (T.setTop (mkF m pc Ls (w :: rest))) :=
  Go.retW X hlk hx hret hn (Or.inr (Or.inr (Or.inr (Or.inr ⟨rfl, ht, hw⟩)))) hd hc hs hQ
theorem Go.retN (X : Stand p l e R s m args below meth c T locs cells slots) (hlk : meth.locks = false) (hx : p.tables.exec = Jvm.exec) {pc : Nat} {Ls : Array Slot} {z : Int32} {t : FieldType} {rest : List Value} (hret : meth.sig.returnType = some t) (ht : t = .boolean ∨ t = .byte ∨ t = .char ∨ t = .short) (hd : decode c.code pc = .ok (.ireturn, 1)) (hc : cells ≤ C) (hs : slots ≤ S) (z' : Int32) (hz : nar t z = z') (hQ : Qk (some (.int z')) T.heap locs) :
    Go p e below s Qk C S (T.setTop (mkF m pc Ls (.int z :: rest))) := by
  subst hz
  obtain ⟨fs, hr, hrun, hended, hW, hsame⟩ := X.leave (v := some (.int (nar t z))) (fun q => by rw [hret] at q; cases q) hlk
  exact ⟨_, _, Jvm.RoadKit.retN X hx hret ht hd hr, hrun, hended, _, _, rfl, hQ, ⟨_, rfl⟩, hW, hsame.mono hc hs⟩
theorem own_narb {P : Prop} [Decidable P] : nar .boolean (if P then (1 : Int32) else (0 : Int32)) = (if P then (1 : Int32) else (0 : Int32)) := by split <;> rfl
theorem own_narb01 {z : Int32} (h : z = 0 ∨ z = 1) : nar .boolean z = z := by rcases h with rfl | rfl <;> rfl
/-- a function turned at one place -/
def up {α : Type} (f : Nat → α) (k : Nat) (v : α) : Nat → α := fun i => if i = k then v else f i
theorem up_same {α : Type} (f : Nat → α) (k : Nat) (v : α) : up f k v k = v := if_pos rfl
theorem up_ne {α : Type} (f : Nat → α) {k i : Nat} (v : α) (q : i ≠ k) : up f k v i = f i := if_neg q
/-- an array of n places; place i holds g i -/
def Ary (Z : State) (h : Heap) (a : Addr) (ty : FieldType) (n : Nat) (g : Nat → Value) : Prop := ∃ c : Cell, Arr Z h a c ty ∧ c.slots.size = n ∧ n < 2 ^ 31 ∧ ∀ i, i < n → c.slots[i]? = some (g i)
variable {ty : FieldType} {n : Nat} {g : Nat → Value}
theorem Ary.lt (F : Ary Z h a ty n g) : a < h.size := by obtain ⟨c, A, -⟩ := F; exact A.lt
theorem Ary.ext (F : Ary Z h a ty n g) (E : Ext h h') : Ary Z h' a ty n g := by obtain ⟨c, A, r⟩ := F; exact ⟨c, A.ext E, r⟩
theorem Ary.other {sl : Nat} {v : Value} (F : Ary Z h b ty n g) (W : Wr h h' a sl v) (q : b ≠ a) : Ary Z h' b ty n g := by obtain ⟨c, A, r⟩ := F; exact ⟨c, A.other W q, r⟩
theorem Ary.keep {ws : List Addr} (F : Ary Z h a ty n g) (K : Keep h h' ws) (q : a ∉ ws) : Ary Z h' a ty n g := by obtain ⟨c, A, r⟩ := F; exact ⟨c, ⟨K.2.1 a c A.1 q, A.2⟩, r⟩
theorem Ary.set {k : Nat} {v : Value} (F : Ary Z h a ty n g) (W : Wr h h' a k v) : Ary Z h' a ty n (up g k v) := by
  obtain ⟨c, A, S, B, H⟩ := F
  refine ⟨_, A.same W, by rw [sz_set]; exact S, B, fun i hi => ?_⟩
  by_cases q : k = i
  · subst q; rw [up_same]; simp [Cell.setSlot, S, hi]
  · rw [up_ne _ _ (Ne.symm q), ← H i hi]; simp only [Cell.setSlot]; rw [Array.getElem?_setIfInBounds_ne q]
theorem Ary.new {k : ClassId} {z : Int32} (A : Arr Z h a (newA k ty z) ty) (q : z.toInt = n) : Ary Z h a ty n (fun _ => defaultValue ty) := by
  have e1 : z.toNatClampNeg = n := by simp only [Int32.toNatClampNeg]; omega
  refine ⟨_, A, by rw [sz_new]; exact e1, ?_, fun i hi => ?_⟩
  · have := Int32.toInt_lt z; omega
  · simp [newA, e1, hi]
theorem Ary.congr {g' : Nat → Value} (F : Ary Z h a ty n g) (q : ∀ i, i < n → g i = g' i) : Ary Z h a ty n g' := by
  obtain ⟨c, A, S, B, H⟩ := F
  exact ⟨c, A, S, B, fun i hi => by rw [← q i hi]; exact H i hi⟩
abbrev AryI (Z : State) (h : Heap) (a : Addr) (ty : FieldType) (n : Nat) (g : Nat → Int32) : Prop := Ary Z h a ty n (fun i => .int (g i))
abbrev AryJ (Z : State) (h : Heap) (a : Addr) (n : Nat) (g : Nat → Int64) : Prop := Ary Z h a .long n (fun i => .long (g i))
theorem own_upI (f : Nat → Int32) (k : Nat) (v : Int32) : up (fun i => Value.int (f i)) k (.int v) = fun i => Value.int (up f k v i) := by funext i; simp only [up]; split <;> rfl
theorem own_upJ (f : Nat → Int64) (k : Nat) (v : Int64) : up (fun i => Value.long (f i)) k (.long v) = fun i => Value.long (up f k v i) := by funext i; simp only [up]; split <;> rfl
theorem Ary.setI {f : Nat → Int32} {k : Nat} {v : Int32} (F : AryI Z h a ty n f) (W : Wr h h' a k (.int v)) : AryI Z h' a ty n (up f k v) := by have r := Ary.set F W; rw [own_upI] at r; exact r
theorem Ary.setJ {f : Nat → Int64} {k : Nat} {v : Int64} (F : AryJ Z h a n f) (W : Wr h h' a k (.long v)) : AryJ Z h' a n (up f k v) := by have r := Ary.set F W; rw [own_upJ] at r; exact r
theorem own_idx {c : Cell} {j : Int32} {k : Nat} (S : c.slots.size = n) (q : j.toInt = k) (hk : k < n) : ¬ (j < 0 ∨ c.slots.size ≤ j.toNatClampNeg) ∧ j.toNatClampNeg = k := by
  have e1 : j.toNatClampNeg = k := by simp only [Int32.toNatClampNeg]; omega
  have e0 : (0 : Int32).toInt = 0 := rfl
  refine ⟨?_, e1⟩
  rw [e1, S, Int32.lt_iff_toInt_lt]; omega
theorem own_ld (X : Stand p l e R s m args below meth c T locs cells slots) (hx : p.tables.exec = Jvm.exec) (hZ : Z.Warmed39 s.vm) (eT : T.heap = h) (F : Ary Z h a ty n g) {j : Int32} (k : Nat) (q : j.toInt = k) (hk : k < n) {v : Value} (hv : g k = v) {i : Instr}
    (hi : (i = .iaload ∧ ty = .int) ∨ (i = .laload ∧ ty = .long) ∨ (i = .caload ∧ ty = .char) ∨ (i = .baload ∧ ty = .byte)) {f : JFrame} (hg : f.method = m) {rest : List Value} (hs : f.stack = .int j :: .ref a :: rest) (hd : decode c.code f.pc = .ok (i, 1)) :
    ∀ target, Steps p.tables e below (T.setTop { f with pc := f.pc + 1, stack := v :: rest }) target → Steps p.tables e below (T.setTop f) target := by
  subst hv
  obtain ⟨cl, A, S, -, H⟩ := F
  obtain ⟨hin, e1⟩ := own_idx S q hk
  have hat : cl.slots[j.toNatClampNeg]? = some (g k) := by rw [e1]; exact H k hk
  intro t kt
  rcases hi with ⟨rfl, rfl⟩ | ⟨rfl, rfl⟩ | ⟨rfl, rfl⟩ | ⟨rfl, rfl⟩
  · exact X.iaload hx (by rw [eT]; exact A.1) (State.isArrayOf_alike hZ.alike A.2.1) A.2.2 hin hat hg hs hd t kt
  · exact X.laload hx (by rw [eT]; exact A.1) (State.isArrayOf_alike hZ.alike A.2.1) A.2.2 hin hat hg hs hd t kt
  · exact X.caload hx (by rw [eT]; exact A.1) (State.isArrayOf_alike hZ.alike A.2.1) A.2.2 hin hat hg hs hd t kt
  · exact X.baloadBytes hx (by rw [eT]; exact A.1) (State.isArrayOf_alike hZ.alike A.2.1) A.2.2 hin hat hg hs hd t kt
theorem own_len (X : Stand p l e R s m args below meth c T locs cells slots) (hx : p.tables.exec = Jvm.exec) (hZ : Z.Warmed39 s.vm) (eT : T.heap = h) (F : Ary Z h a ty n g) {z : Int32} (hz : n.toInt32 = z) {f : JFrame} (hg : f.method = m) {rest : List Value} (hs : f.stack = .ref a :: rest) (hd : decode c.code f.pc = .ok (.arraylength, 1)) :
    ∀ target, Steps p.tables e below (T.setTop { f with pc := f.pc + 1, stack := .int z :: rest }) target → Steps p.tables e below (T.setTop f) target := by
  subst hz
  obtain ⟨cl, A, S, -⟩ := F
  intro t kt
  refine X.arraylength hx (by rw [eT]; exact A.1) (State.isArrayOf_alike hZ.alike A.2.1) hg hs hd t ?_
  rw [S]; exact kt
theorem own_stI (X : Stand p l e R s m args below meth c T locs cells slots) (hx : p.tables.exec = Jvm.exec) (hZ : Z.Warmed39 s.vm) (eT : T.heap = h) (F : Ary Z h a .int n g) {j x : Int32} (k : Nat) (q : j.toInt = k) (hk : k < n) {f : JFrame} (hg : f.method = m) {rest : List Value} (hs : f.stack = .int x :: .int j :: .ref a :: rest) (hd : decode c.code f.pc = .ok (.iastore, 1)) :
    ∃ T' h', Stand p l e R s m args below meth c T' (locs ++ [⟨a, k⟩]) cells slots ∧ T'.heap = h' ∧ Wr h h' a k (.int x) ∧ ∀ target, Steps p.tables e below (T'.setTop { f with pc := f.pc + 1, stack := rest }) target → Steps p.tables e below (T.setTop f) target := by
  obtain ⟨cl, A, S, -, -⟩ := F
  obtain ⟨hin, e1⟩ := own_idx S q hk
  have r := stI X hx hZ eT A hin hg hs hd
  rw [e1] at r; exact r
theorem own_stJ (X : Stand p l e R s m args below meth c T locs cells slots) (hx : p.tables.exec = Jvm.exec) (hZ : Z.Warmed39 s.vm) (eT : T.heap = h) (F : Ary Z h a .long n g) {j : Int32} {x : Int64} (k : Nat) (q : j.toInt = k) (hk : k < n) {f : JFrame} (hg : f.method = m) {rest : List Value} (hs : f.stack = .long x :: .int j :: .ref a :: rest) (hd : decode c.code f.pc = .ok (.lastore, 1)) :
    ∃ T' h', Stand p l e R s m args below meth c T' (locs ++ [⟨a, k⟩]) cells slots ∧ T'.heap = h' ∧ Wr h h' a k (.long x) ∧ ∀ target, Steps p.tables e below (T'.setTop { f with pc := f.pc + 1, stack := rest }) target → Steps p.tables e below (T.setTop f) target := by
  obtain ⟨cl, A, S, -, -⟩ := F
  obtain ⟨hin, e1⟩ := own_idx S q hk
  have r := stJ X hx hZ eT A hin hg hs hd
  rw [e1] at r; exact r
theorem own_stB (X : Stand p l e R s m args below meth c T locs cells slots) (hx : p.tables.exec = Jvm.exec) (hZ : Z.Warmed39 s.vm) (eT : T.heap = h) (F : Ary Z h a .byte n g) {j x : Int32} (k : Nat) (q : j.toInt = k) (hk : k < n) {f : JFrame} (hg : f.method = m) {rest : List Value} (hs : f.stack = .int x :: .int j :: .ref a :: rest) (hd : decode c.code f.pc = .ok (.bastore, 1)) :
    ∃ T' h', Stand p l e R s m args below meth c T' (locs ++ [⟨a, k⟩]) cells slots ∧ T'.heap = h' ∧ Wr h h' a k (.int (nar .byte x)) ∧ ∀ target, Steps p.tables e below (T'.setTop { f with pc := f.pc + 1, stack := rest }) target → Steps p.tables e below (T.setTop f) target := by
  obtain ⟨cl, A, S, -, -⟩ := F
  obtain ⟨hin, e1⟩ := own_idx S q hk
  have r := stB X hx hZ eT A hin hg hs hd
  rw [e1] at r; exact r
theorem own_stC (X : Stand p l e R s m args below meth c T locs cells slots) (hx : p.tables.exec = Jvm.exec) (hZ : Z.Warmed39 s.vm) (eT : T.heap = h) (F : Ary Z h a .char n g) {j x : Int32} (k : Nat) (q : j.toInt = k) (hk : k < n) {f : JFrame} (hg : f.method = m) {rest : List Value} (hs : f.stack = .int x :: .int j :: .ref a :: rest) (hd : decode c.code f.pc = .ok (.castore, 1)) :
    ∃ T' h', Stand p l e R s m args below meth c T' (locs ++ [⟨a, k⟩]) cells slots ∧ T'.heap = h' ∧ Wr h h' a k (.int (nar .char x)) ∧ ∀ target, Steps p.tables e below (T'.setTop { f with pc := f.pc + 1, stack := rest }) target → Steps p.tables e below (T.setTop f) target := by
  obtain ⟨cl, A, S, -, -⟩ := F
  obtain ⟨hin, e1⟩ := own_idx S q hk
  have r := stC X hx hZ eT A hin hg hs hd
  rw [e1] at r; exact r
theorem own_neA {a0 : Array Value} {k : Nat} {K : String} (F : Exa Z h a K) (wi : (Cond.instantiable K k).before a0 Z = true) (G : Ary Z h b ty n g) : a ≠ b := by
  obtain ⟨cl, A, -⟩ := G
  exact ne_arr F wi A
theorem own_selP {y : MethodName} {k : Nat} {a0 as' : Array Value} (hZ : Z.Warmed39 s.vm) (wi : (Cond.instantiable y.cls k).before a0 Z = true) (wn : (Cond.instanceMethod y).before a0 Z = true) (wp : (Cond.privateMethod y).before a0 Z = true) (hy : y.cls ≠ "java/lang/invoke/MethodHandle" ∧ y.cls ≠ "java/lang/invoke/VarHandle") : (Cond.selects y.cls y y).before as' s = true := by
  have wi' : (Cond.instantiable y.cls k).before as' s = true := mvT hZ wi
  obtain ⟨c, kc, h1, h2, -, h4, -⟩ := Cond.instantiable_spec wi'
  refine selects_self_of_private h1 h2 ?_ (Cond.privateMethod_at (mvP hZ wp (args := #[]))) (mvT hZ wn) hy
  cases hi : kc.isInterface with
  | false => rfl
  | true => rw [hi] at h4; simp at h4
/-- long comparisons -/
theorem own_lwlt {x y : Int64} (h : x < y) : lcmpW x y < 0 := (lw_lt x y).mpr h
theorem own_nlwlt {x y : Int64} (h : ¬ x < y) : ¬ lcmpW x y < 0 := fun q => h ((lw_lt x y).mp q)
theorem own_lwgt {x y : Int64} (h : y < x) : 0 < lcmpW x y := (lw_gt x y).mpr h
theorem own_nlwgt {x y : Int64} (h : ¬ y < x) : ¬ 0 < lcmpW x y := fun q => h ((lw_gt x y).mp q)
theorem own_lweq {x y : Int64} (h : x = y) : lcmpW x y = 0 := (lw_eq x y).mpr h
theorem own_nlweq {x y : Int64} (h : ¬ x = y) : ¬ lcmpW x y = 0 := fun q => h ((lw_eq x y).mp q)
end Own
theorem own_lt {x y : Int32} (h : x < y) : x.toInt < y.toInt := Int32.lt_iff_toInt_lt.mp h
theorem own_nlt {x y : Int32} (h : ¬ x < y) : ¬ x.toInt < y.toInt := fun q => h (Int32.lt_iff_toInt_lt.mpr q)
theorem own_eq {x y : Int32} (h : x = y) : x.toInt = y.toInt := by rw [h]
theorem own_neq {x y : Int32} (h : ¬ x = y) : ¬ x.toInt = y.toInt := fun q => h (Int32.toInt_inj.mp q)
theorem own_ltL {x y : Int64} (h : x < y) : x.toInt < y.toInt := Int64.lt_iff_toInt_lt.mp h
theorem own_nltL {x y : Int64} (h : ¬ x < y) : ¬ x.toInt < y.toInt := fun q => h (Int64.lt_iff_toInt_lt.mpr q)
theorem own_eqL {x y : Int64} (h : x = y) : x.toInt = y.toInt := by rw [h]
theorem own_neqL {x y : Int64} (h : ¬ x = y) : ¬ x.toInt = y.toInt := fun q => h (Int64.toInt_inj.mp q)
theorem own_rng32 (x : Int32) : -2147483648 ≤ x.toInt ∧ x.toInt ≤ 2147483647 := by
  have h1 := Int32.le_toInt x
  have h2 := Int32.toInt_lt x
  omega
theorem own_rng64 (x : Int64) : -9223372036854775808 ≤ x.toInt ∧ x.toInt ≤ 9223372036854775807 := by
  have h1 := Int64.le_toInt x
  have h2 := Int64.toInt_lt x
  omega

theorem own_all {px py pz va vb vc : Int32} (q1 : (px &&& (536870911 : Int32)) = va) (q2 : (va + (py &&& (536870911 : Int32))) = vb) (q3 : ((vb + (1 : Int32)) + (pz &&& (536870911 : Int32))) = vc) : ((vb - vb) + (1 : Int32)) = (1 : Int32) ∧ ¬ ((vb - va) + (1 : Int32)) < (1 : Int32) ∧ ¬ ((vc - (vb + (1 : Int32))) + (1 : Int32)) < (1 : Int32) ∧ (((vb - va) + (1 : Int32)) + ((vc - (vb + (1 : Int32))) + (1 : Int32))) = ((vc - va) + (1 : Int32)) := by
  have ar1 := own_rng32 ((px &&& (536870911 : Int32)))
  have ar2 := own_rng32 (px)
  have ar3 := c_mask (px) (536870911 : Int32) 29 (by decide) (by decide)
  have ar4 := own_rng32 ((va + (py &&& (536870911 : Int32))))
  have ar5 := own_rng32 (va)
  have ar6 := own_rng32 ((py &&& (536870911 : Int32)))
  have ar7 := own_rng32 (py)
  have ar8 := c_mask (py) (536870911 : Int32) 29 (by decide) (by decide)
  have ar9 := c_iadd (va) ((py &&& (536870911 : Int32)))
  have ar10 := own_rng32 (((vb + (1 : Int32)) + (pz &&& (536870911 : Int32))))
  have ar11 := own_rng32 ((vb + (1 : Int32)))
  have ar12 := own_rng32 (vb)
  have ar13 : ((1 : Int32)).toInt = 1 := rfl
  have ar14 := c_iadd (vb) ((1 : Int32))
  have ar15 := own_rng32 ((pz &&& (536870911 : Int32)))
  have ar16 := own_rng32 (pz)
  have ar17 := c_mask (pz) (536870911 : Int32) 29 (by decide) (by decide)
  have ar18 := c_iadd ((vb + (1 : Int32))) ((pz &&& (536870911 : Int32)))
  have ar19 := own_rng32 (((vb - vb) + (1 : Int32)))
  have ar20 := own_rng32 ((vb - vb))
  have ar21 := c_isub (vb) (vb)
  have ar22 := c_iadd ((vb - vb)) ((1 : Int32))
  have ar23 := own_rng32 (((vb - va) + (1 : Int32)))
  have ar24 := own_rng32 ((vb - va))
  have ar25 := c_isub (vb) (va)
  have ar26 := c_iadd ((vb - va)) ((1 : Int32))
  have ar27 := own_rng32 (((vc - (vb + (1 : Int32))) + (1 : Int32)))
  have ar28 := own_rng32 ((vc - (vb + (1 : Int32))))
  have ar29 := own_rng32 (vc)
  have ar30 := c_isub (vc) ((vb + (1 : Int32)))
  have ar31 := c_iadd ((vc - (vb + (1 : Int32)))) ((1 : Int32))
  have ar32 := own_rng32 (((vc - va) + (1 : Int32)))
  have ar33 := own_rng32 ((vc - va))
  have ar34 := c_isub (vc) (va)
  have ar35 := c_iadd ((vc - va)) ((1 : Int32))
  have ar36 := own_rng32 ((((vb - va) + (1 : Int32)) + ((vc - (vb + (1 : Int32))) + (1 : Int32))))
  have ar37 := c_iadd (((vb - va) + (1 : Int32))) (((vc - (vb + (1 : Int32))) + (1 : Int32)))
  have t1 := congrArg Int32.toInt q1
  have t2 := congrArg Int32.toInt q2
  have t3 := congrArg Int32.toInt q3
  rw [Int32.lt_iff_toInt_lt, Int32.lt_iff_toInt_lt, ← Int32.toInt_inj, ← Int32.toInt_inj]
  have e1 : (1 : Int32).toInt = 1 := rfl
  rw [e1]
  refine ⟨?_, ?_, ?_, ?_⟩ <;> omega
theorem d2_0 : decode jdk_30_method_1_code 0 = .ok (.aload_n 0, 1) := by decide +kernel
theorem d2_1 : decode jdk_30_method_1_code 1 = .ok (.invokespecial 1, 3) := by decide +kernel
theorem d2_4 : decode jdk_30_method_1_code 4 = .ok (.return_, 1) := by decide +kernel
theorem pn_2 : plainName "java/lang/Record" = true := by first | (simp [plainName, overriddenIn]; done) | decide +kernel
theorem ef_2 (m : MethodId) (x0 : Addr) : entryFrame m #[(.ref x0)] 1 = mkF m 0 #[.val (.ref x0)] [] := by first | (simp [entryFrame, mkF, argsToLocals, Value.category]; done) | rfl
def Q2 (Z : State) (aa : Addr) (h0 : Heap) (n0 : Nat) (v : Option Value) (h : Heap) (L : List Loc) : Prop := v = none ∧ Fr n0 L ∧ h = h0
set_option maxRecDepth 65536 in
set_option maxHeartbeats 40000000 in
theorem rm2 (l : Launch) (Z : State) (a0 : Array Value) (hw : ∀ d ∈ tables_1, d.before a0 Z = true) (ws : List Jvm.Cond) (aa : Addr) (h0 : Heap) (n0 : Nat) (Z0 : n0 ≤ h0.size) :
    MetFree l (⟨"java/lang/Record", "<init>", "()V"⟩ : MethodName) (head1 (Jvm.Cond.code (⟨"java/lang/Record", "<init>", "()V"⟩ : MethodName) jdk_30_method_1_code 1 none :: ws) ({ frames := 1, cells := 0, slots := 0, locals := 12 } : Room)) (fun a U => a = #[(.ref aa)] ∧ Z.Warmed39 U.vm ∧ U.heap = h0) (fun _ _ _ _ _ => True) (fun _ U o U' => ∃ v L, o = .returned v ∧ Q2 Z aa h0 n0 v U'.heap L ∧ FrameEnd U o U' L ({ frames := 1, cells := 0, slots := 0, locals := 12 } : Room).cells ({ frames := 1, cells := 0, slots := 0, locals := 12 } : Room).slots) := by
  refine MetFree.of_bodySF (plainFor_of_name pn_2) hisR ?_
  intro p e s m args below meth c s₁ Bd hml0 hP hK
  obtain ⟨rfl, hZ, hh⟩ := hP
  have hx := Bd.exec
  have hby := Bd.bytes
  have hml : c.maxLocals = 1 := hml0
  have hown : s.vm.findClass "java/lang/Record" = some m.cls := findClass_of_methodNamed Bd.named
  have hnm := (name_of_methodNamed Bd.named Bd.method).1
  have X0 : Stand p l e ({ frames := 1, cells := 0, slots := 0, locals := 12 } : Room) s m #[(.ref aa)] below meth c s₁ [] 0 0 := Stand.of_body Bd
  have e0 : s₁.heap = h0 := by rw [← hh, Bd.state]; rfl
  have N0 := Fr.nil n0
  show Go p e below s (Q2 Z aa h0 n0) ({ frames := 1, cells := 0, slots := 0, locals := 12 } : Room).cells ({ frames := 1, cells := 0, slots := 0, locals := 12 } : Room).slots (s₁.setTop (entryFrame m #[(.ref aa)] 1))
  rw [ef_2]
  show Go _ _ _ _ _ _ _ (s₁.setTop (mkF m 0 #[.val (.ref aa)] []))
  refine Go.step (fun t k => XS.aloadN X0.here hx rfl (hb hby d2_0) rfl rfl k) ?_
  show Go _ _ _ _ _ _ _ (s₁.setTop (mkF m 1 #[.val (.ref aa)] [(.ref aa)]))
  obtain ⟨T1, X1, e1, st1⟩ := initO X0 hx hZ hown (hw _ (List.mem_of_getElem? (i := 12) rfl)) (hw _ (List.mem_of_getElem? (i := 13) rfl)) (hw _ (List.mem_of_getElem? (i := 14) rfl)) e0 (g := (mkF m 1 #[.val (.ref aa)] [(.ref aa)])) rfl (by rw [hml]; rfl) rfl (hb hby d2_1) (by decide) (W := 0) (by show 2 * 0 + _ ≤ _; exact Nat.le_of_eq rfl) (by decide)
  refine Go.step st1 ?_
  show Go _ _ _ _ _ _ _ (T1.setTop (mkF m 4 #[.val (.ref aa)] []))
  refine Go.retV X1 Bd.notSynchronized hx Bd.returns (hb hby d2_4) (by decide) (by decide) ?_
  rw [e1]
  exact ⟨rfl, N0, rfl⟩
theorem d1_0 : decode prog_8_method_1_code 0 = .ok (.aload_n 0, 1) := by decide +kernel
theorem d1_1 : decode prog_8_method_1_code 1 = .ok (.invokespecial 1, 3) := by decide +kernel
theorem d1_4 : decode prog_8_method_1_code 4 = .ok (.aload_n 0, 1) := by decide +kernel
theorem d1_5 : decode prog_8_method_1_code 5 = .ok (.iload_n 1, 1) := by decide +kernel
theorem d1_6 : decode prog_8_method_1_code 6 = .ok (.putfield 7, 3) := by decide +kernel
theorem d1_9 : decode prog_8_method_1_code 9 = .ok (.aload_n 0, 1) := by decide +kernel
theorem d1_10 : decode prog_8_method_1_code 10 = .ok (.iload_n 2, 1) := by decide +kernel
theorem d1_11 : decode prog_8_method_1_code 11 = .ok (.putfield 13, 3) := by decide +kernel
theorem d1_14 : decode prog_8_method_1_code 14 = .ok (.return_, 1) := by decide +kernel
theorem pn_1 : plainName "com/example/tessera/tessera/crosswalk/Positions" = true := by first | (simp [plainName, overriddenIn]; done) | decide +kernel
theorem pd_1_0 : parseMethodDescriptor "()V" = some ⟨[], none⟩ := by decide +kernel
theorem ef_1 (m : MethodId) (x0 : Addr) (x1 : Int32) (x2 : Int32) : entryFrame m #[(.ref x0), (.int x1), (.int x2)] 3 = mkF m 0 #[.val (.ref x0), .val (.int x1), .val (.int x2)] [] := by first | (simp [entryFrame, mkF, argsToLocals, Value.category]; done) | rfl
def Q1 (Z : State) (aa : Addr) (fi : Int32) (la : Int32) (h0 : Heap) (n0 : Nat) (v : Option Value) (h : Heap) (L : List Loc) : Prop := v = none ∧ Fr n0 L ∧ Keep h0 h [aa] ∧ Fld Z h aa "com/example/tessera/tessera/crosswalk/Positions" "first" "I" (.int fi) ∧ Fld Z h aa "com/example/tessera/tessera/crosswalk/Positions" "last" "I" (.int la)
set_option maxRecDepth 65536 in
set_option maxHeartbeats 40000000 in
theorem rm1 (l : Launch) (Z : State) (a0 : Array Value) (hw : ∀ d ∈ tables_1, d.before a0 Z = true) (ws : List Jvm.Cond) (aa : Addr) (fi : Int32) (la : Int32) (h0 : Heap) (n0 : Nat) (Z0 : n0 ≤ h0.size) (F_first_aa : Fld Z h0 aa "com/example/tessera/tessera/crosswalk/Positions" "first" "I" (.int (0 : Int32))) (F_last_aa : Fld Z h0 aa "com/example/tessera/tessera/crosswalk/Positions" "last" "I" (.int (0 : Int32))) (E_aa : Exa Z h0 aa "com/example/tessera/tessera/crosswalk/Positions") (g_aa : n0 ≤ aa) :
    MetFree l (⟨"com/example/tessera/tessera/crosswalk/Positions", "<init>", "(II)V"⟩ : MethodName) (head1 (Jvm.Cond.code (⟨"com/example/tessera/tessera/crosswalk/Positions", "<init>", "(II)V"⟩ : MethodName) prog_8_method_1_code 3 none :: ws) ({ frames := 2, cells := 0, slots := 0, locals := 24 } : Room)) (fun a U => a = #[(.ref aa), (.int fi), (.int la)] ∧ Z.Warmed39 U.vm ∧ U.heap = h0) (fun _ _ _ _ _ => True) (fun _ U o U' => ∃ v L, o = .returned v ∧ Q1 Z aa fi la h0 n0 v U'.heap L ∧ FrameEnd U o U' L ({ frames := 2, cells := 0, slots := 0, locals := 24 } : Room).cells ({ frames := 2, cells := 0, slots := 0, locals := 24 } : Room).slots) := by
  refine MetFree.of_bodySF (plainFor_of_name pn_1) hisR ?_
  intro p e s m args below meth c s₁ Bd hml0 hP hK
  obtain ⟨rfl, hZ, hh⟩ := hP
  have hx := Bd.exec
  have hby := Bd.bytes
  have hml : c.maxLocals = 3 := hml0
  have hown : s.vm.findClass "com/example/tessera/tessera/crosswalk/Positions" = some m.cls := findClass_of_methodNamed Bd.named
  have hnm := (name_of_methodNamed Bd.named Bd.method).1
  have X0 : Stand p l e ({ frames := 2, cells := 0, slots := 0, locals := 24 } : Room) s m #[(.ref aa), (.int fi), (.int la)] below meth c s₁ [] 0 0 := Stand.of_body Bd
  have e0 : s₁.heap = h0 := by rw [← hh, Bd.state]; rfl
  have N0 := Fr.nil n0
  have K0 := Keep.refl h0 ([aa] : List Addr)
  show Go p e below s (Q1 Z aa fi la h0 n0) ({ frames := 2, cells := 0, slots := 0, locals := 24 } : Room).cells ({ frames := 2, cells := 0, slots := 0, locals := 24 } : Room).slots (s₁.setTop (entryFrame m #[(.ref aa), (.int fi), (.int la)] 3))
  rw [ef_1]
  show Go _ _ _ _ _ _ _ (s₁.setTop (mkF m 0 #[.val (.ref aa), .val (.int fi), .val (.int la)] []))
  refine Go.step (fun t k => XS.aloadN X0.here hx rfl (hb hby d1_0) rfl rfl k) ?_
  show Go _ _ _ _ _ _ _ (s₁.setTop (mkF m 1 #[.val (.ref aa), .val (.int fi), .val (.int la)] [(.ref aa)]))
  obtain ⟨_, _, ⟨T1, L1, k1, n1⟩, -, X1, ⟨Lc1, hQ1, l1, y1, z1⟩, st1⟩ := X0.specialBack hx (y := (⟨"java/lang/Record", "<init>", "()V"⟩ : MethodName)) rfl hown (mvT hZ (hw _ (List.mem_of_getElem? (i := 7) rfl))) (mvT hZ (hw _ (List.mem_of_getElem? (i := 8) rfl))) (mvT hZ (hw _ (List.mem_of_getElem? (i := 11) rfl))) (by decide) (backOf (W := 0) (rm2 l Z a0 hw [] aa h0 n0 Z0) hZ (hw _ (List.mem_of_getElem? (i := 11) rfl)) (hw _ (List.mem_of_getElem? (i := 10) rfl)) (by decide) (by decide)) (g := (mkF m 1 #[.val (.ref aa), .val (.int fi), .val (.int la)] [(.ref aa)])) rfl (by rw [hml]; rfl) (Steps.refl _) (a := aa) (argsL := []) (rest := []) (lenOf pd_1_0 rfl) rfl (by show 2 * 0 + _ ≤ _; exact Nat.le_of_eq rfl) (hb hby d1_1) (fun _ _ => ⟨rfl, e0, (by decide : 0 + 0 ≤ _), (by decide : 0 + 0 ≤ _)⟩)
  dsimp only [Pt.U, Pt.locs, Pt.cells, Pt.slots] at X1 l1 y1 z1 st1 hQ1
  subst l1 y1 z1
  obtain ⟨rfl, N1q, K1q⟩ := hQ1
  have N1 := Fr.app N0 N1q
  refine Go.step (fun t k => st1.trans k) ?_
  show Go _ _ _ _ _ _ _ (T1.setTop (mkF m 4 #[.val (.ref aa), .val (.int fi), .val (.int la)] []))
  refine Go.step (fun t k => XS.aloadN X1.here hx rfl (hb hby d1_4) rfl rfl k) ?_
  show Go _ _ _ _ _ _ _ (T1.setTop (mkF m 5 #[.val (.ref aa), .val (.int fi), .val (.int la)] [(.ref aa)]))
  refine Go.step (fun t k => XS.iloadN X1.here hx rfl (hb hby d1_5) rfl k) ?_
  show Go _ _ _ _ _ _ _ (T1.setTop (mkF m 6 #[.val (.ref aa), .val (.int fi), .val (.int la)] [(.int fi), (.ref aa)]))
  obtain ⟨T2, h2, X2, e2, W2, st2⟩ := putF X1 hx hZ hown (host := "") (Or.inl (hw _ (List.mem_of_getElem? (i := 15) rfl))) Via.refl K1q F_first_aa E_aa (Or.inr ⟨(hw _ (List.mem_of_getElem? (i := 16) rfl)), rfl, hnm⟩) (hw _ (List.mem_of_getElem? (i := 2) rfl)) (ty := .int) (by decide) rfl rfl (g := (mkF m 6 #[.val (.ref aa), .val (.int fi), .val (.int la)] [(.int fi), (.ref aa)])) rfl rfl (hb hby d1_6)
  replace F_last_aa := F_last_aa.other W2 (Or.inr (slot_ne (Or.inr (hw _ (List.mem_of_getElem? (i := 18) rfl))) (Or.inr (hw _ (List.mem_of_getElem? (i := 16) rfl))) (by decide) (t := .int) (t' := .int) (by decide) (by decide)))
  replace E_aa := E_aa.wr W2
  have Z2 := Nat.le_trans Z0 (Keep.of_wr W2).1
  have N2 := Fr.snoc X2 N1 g_aa
  have K2 := K0.wr W2 (Or.inl (List.mem_of_getElem? (i := 0) rfl))
  replace F_first_aa := F_first_aa.same W2
  refine Go.step st2 ?_
  show Go _ _ _ _ _ _ _ (T2.setTop (mkF m 9 #[.val (.ref aa), .val (.int fi), .val (.int la)] []))
  refine Go.step (fun t k => XS.aloadN X2.here hx rfl (hb hby d1_9) rfl rfl k) ?_
  show Go _ _ _ _ _ _ _ (T2.setTop (mkF m 10 #[.val (.ref aa), .val (.int fi), .val (.int la)] [(.ref aa)]))
  refine Go.step (fun t k => XS.iloadN X2.here hx rfl (hb hby d1_10) rfl k) ?_
  show Go _ _ _ _ _ _ _ (T2.setTop (mkF m 11 #[.val (.ref aa), .val (.int fi), .val (.int la)] [(.int la), (.ref aa)]))
  obtain ⟨T3, h3, X3, e3, W3, st3⟩ := putF X2 hx hZ hown (host := "") (Or.inl (hw _ (List.mem_of_getElem? (i := 17) rfl))) Via.refl e2 F_last_aa E_aa (Or.inr ⟨(hw _ (List.mem_of_getElem? (i := 18) rfl)), rfl, hnm⟩) (hw _ (List.mem_of_getElem? (i := 2) rfl)) (ty := .int) (by decide) rfl rfl (g := (mkF m 11 #[.val (.ref aa), .val (.int fi), .val (.int la)] [(.int la), (.ref aa)])) rfl rfl (hb hby d1_11)
  replace F_first_aa := F_first_aa.other W3 (Or.inr (slot_ne (Or.inr (hw _ (List.mem_of_getElem? (i := 16) rfl))) (Or.inr (hw _ (List.mem_of_getElem? (i := 18) rfl))) (by decide) (t := .int) (t' := .int) (by decide) (by decide)))
  replace E_aa := E_aa.wr W3
  have Z3 := Nat.le_trans Z2 (Keep.of_wr W3).1
  have N3 := Fr.snoc X3 N2 g_aa
  have K3 := K2.wr W3 (Or.inl (List.mem_of_getElem? (i := 0) rfl))
  replace F_last_aa := F_last_aa.same W3
  refine Go.step st3 ?_
  show Go _ _ _ _ _ _ _ (T3.setTop (mkF m 14 #[.val (.ref aa), .val (.int fi), .val (.int la)] []))
  refine Go.retV X3 Bd.notSynchronized hx Bd.returns (hb hby d1_14) (by decide) (by decide) ?_
  rw [e3]
  exact ⟨rfl, N3, K3, F_first_aa, F_last_aa⟩
theorem d4_0 : decode prog_8_method_2_code 0 = .ok (.aload_n 0, 1) := by decide +kernel
theorem d4_1 : decode prog_8_method_2_code 1 = .ok (.getfield 13, 3) := by decide +kernel
theorem d4_4 : decode prog_8_method_2_code 4 = .ok (.aload_n 0, 1) := by decide +kernel
theorem d4_5 : decode prog_8_method_2_code 5 = .ok (.getfield 7, 3) := by decide +kernel
theorem d4_8 : decode prog_8_method_2_code 8 = .ok (.isub, 1) := by decide +kernel
theorem d4_9 : decode prog_8_method_2_code 9 = .ok (.iconst 1, 1) := by decide +kernel
theorem d4_10 : decode prog_8_method_2_code 10 = .ok (.iadd, 1) := by decide +kernel
theorem d4_11 : decode prog_8_method_2_code 11 = .ok (.ireturn, 1) := by decide +kernel
theorem pn_4 : plainName "com/example/tessera/tessera/crosswalk/Positions" = true := by first | (simp [plainName, overriddenIn]; done) | decide +kernel
theorem ef_4 (m : MethodId) (x0 : Addr) : entryFrame m #[(.ref x0)] 1 = mkF m 0 #[.val (.ref x0)] [] := by first | (simp [entryFrame, mkF, argsToLocals, Value.category]; done) | rfl
def Q4 (Z : State) (aa : Addr) (fi : Int32) (la : Int32) (h0 : Heap) (n0 : Nat) (v : Option Value) (h : Heap) (L : List Loc) : Prop := v = some (.int ((la - fi) + (1 : Int32))) ∧ Fr n0 L ∧ h = h0
set_option maxRecDepth 65536 in
set_option maxHeartbeats 40000000 in
theorem rm4 (l : Launch) (Z : State) (a0 : Array Value) (hw : ∀ d ∈ tables_1, d.before a0 Z = true) (ws : List Jvm.Cond) (aa : Addr) (fi : Int32) (la : Int32) (h0 : Heap) (n0 : Nat) (Z0 : n0 ≤ h0.size) (F_first_aa : Fld Z h0 aa "com/example/tessera/tessera/crosswalk/Positions" "first" "I" (.int fi)) (F_last_aa : Fld Z h0 aa "com/example/tessera/tessera/crosswalk/Positions" "last" "I" (.int la)) :
    MetFree l (⟨"com/example/tessera/tessera/crosswalk/Positions", "width", "()I"⟩ : MethodName) (head1 (Jvm.Cond.code (⟨"com/example/tessera/tessera/crosswalk/Positions", "width", "()I"⟩ : MethodName) prog_8_method_2_code 1 (some .int) :: ws) ({ frames := 0, cells := 0, slots := 0, locals := 0 } : Room)) (fun a U => a = #[(.ref aa)] ∧ Z.Warmed39 U.vm ∧ U.heap = h0) (fun _ _ _ _ _ => True) (fun _ U o U' => ∃ v L, o = .returned v ∧ Q4 Z aa fi la h0 n0 v U'.heap L ∧ FrameEnd U o U' L ({ frames := 0, cells := 0, slots := 0, locals := 0 } : Room).cells ({ frames := 0, cells := 0, slots := 0, locals := 0 } : Room).slots) := by
  refine MetFree.of_bodySF (plainFor_of_name pn_4) hisR ?_
  intro p e s m args below meth c s₁ Bd hml0 hP hK
  obtain ⟨rfl, hZ, hh⟩ := hP
  have hx := Bd.exec
  have hby := Bd.bytes
  have hml : c.maxLocals = 1 := hml0
  have hown : s.vm.findClass "com/example/tessera/tessera/crosswalk/Positions" = some m.cls := findClass_of_methodNamed Bd.named
  have hnm := (name_of_methodNamed Bd.named Bd.method).1
  have X0 : Stand p l e ({ frames := 0, cells := 0, slots := 0, locals := 0 } : Room) s m #[(.ref aa)] below meth c s₁ [] 0 0 := Stand.of_body Bd
  have e0 : s₁.heap = h0 := by rw [← hh, Bd.state]; rfl
  have N0 := Fr.nil n0
  show Go p e below s (Q4 Z aa fi la h0 n0) ({ frames := 0, cells := 0, slots := 0, locals := 0 } : Room).cells ({ frames := 0, cells := 0, slots := 0, locals := 0 } : Room).slots (s₁.setTop (entryFrame m #[(.ref aa)] 1))
  rw [ef_4]
  show Go _ _ _ _ _ _ _ (s₁.setTop (mkF m 0 #[.val (.ref aa)] []))
  refine Go.step (fun t k => XS.aloadN X0.here hx rfl (hb hby d4_0) rfl rfl k) ?_
  show Go _ _ _ _ _ _ _ (s₁.setTop (mkF m 1 #[.val (.ref aa)] [(.ref aa)]))
  obtain ⟨T1, X1, e1, st1⟩ := getF X0 hx hZ hown (host := "") (Or.inl (hw _ (List.mem_of_getElem? (i := 17) rfl))) Via.refl e0 F_last_aa (g := (mkF m 1 #[.val (.ref aa)] [(.ref aa)])) rfl rfl (hb hby d4_1)
  refine Go.step st1 ?_
  show Go _ _ _ _ _ _ _ (T1.setTop (mkF m 4 #[.val (.ref aa)] [(.int la)]))
  refine Go.step (fun t k => XS.aloadN X1.here hx rfl (hb hby d4_4) rfl rfl k) ?_
  show Go _ _ _ _ _ _ _ (T1.setTop (mkF m 5 #[.val (.ref aa)] [(.ref aa), (.int la)]))
  obtain ⟨T2, X2, e2, st2⟩ := getF X1 hx hZ hown (host := "") (Or.inl (hw _ (List.mem_of_getElem? (i := 15) rfl))) Via.refl e1 F_first_aa (g := (mkF m 5 #[.val (.ref aa)] [(.ref aa), (.int la)])) rfl rfl (hb hby d4_5)
  refine Go.step st2 ?_
  show Go _ _ _ _ _ _ _ (T2.setTop (mkF m 8 #[.val (.ref aa)] [(.int fi), (.int la)]))
  refine Go.step (fun t k => XS.isub X2.here hx rfl (hb hby d4_8) rfl k) ?_
  show Go _ _ _ _ _ _ _ (T2.setTop (mkF m 9 #[.val (.ref aa)] [(.int (la - fi))]))
  refine Go.step (fun t k => XS.iconst X2.here hx rfl (hb hby d4_9) k) ?_
  show Go _ _ _ _ _ _ _ (T2.setTop (mkF m 10 #[.val (.ref aa)] [(.int (1 : Int32)), (.int (la - fi))]))
  refine Go.step (fun t k => XS.iadd X2.here hx rfl (hb hby d4_10) rfl k) ?_
  show Go _ _ _ _ _ _ _ (T2.setTop (mkF m 11 #[.val (.ref aa)] [(.int ((la - fi) + (1 : Int32)))]))
  refine Go.retI X2 Bd.notSynchronized hx Bd.returns (hb hby d4_11) (by decide) (by decide) ?_
  rw [e2]
  exact ⟨rfl, N0, rfl⟩
theorem pn_0 : plainName "com/example/tessera/tessera/crosswalk/PositionsWidthPinLaw" = true := by first | (simp [plainName, overriddenIn]; done) | decide +kernel
theorem pd_0_0 : parseMethodDescriptor "(II)V" = some ⟨[.int, .int], none⟩ := by decide +kernel
theorem pd_0_1 : parseMethodDescriptor "()I" = some ⟨[], some .int⟩ := by decide +kernel
theorem ef_0 (m : MethodId) (x0 : Int32) (x1 : Int32) (x2 : Int32) : entryFrame m #[(.int x0), (.int x1), (.int x2)] maxLocals = mkF m 0 #[.val (.int x0), .val (.int x1), .val (.int x2), .unset, .unset, .unset, .unset, .unset, .unset, .unset, .unset, .unset, .unset, .unset] [] := by first | (simp [entryFrame, mkF, argsToLocals, Value.category, maxLocals]; done) | rfl
def Q0 (Z : State) (px : Int32) (py : Int32) (pz : Int32) (h0 : Heap) (n0 : Nat) (v : Option Value) (h : Heap) (L : List Loc) : Prop := v = some (.int (1 : Int32)) ∧ Fr n0 L
set_option maxRecDepth 65536 in
set_option maxHeartbeats 40000000 in
theorem rm0 (l : Launch) (Z : State) (a0 : Array Value) (hw : ∀ d ∈ tables_1, d.before a0 Z = true) (ws : List Jvm.Cond) (px : Int32) (py : Int32) (pz : Int32) (h0 : Heap) (n0 : Nat) (Z0 : n0 ≤ h0.size) :
    MetFree l x (head1 (Jvm.Cond.code x code maxLocals ret :: ws) room_1) (fun a U => a = #[(.int px), (.int py), (.int pz)] ∧ Z.Warmed39 U.vm ∧ U.heap = h0) (fun _ _ _ _ _ => True) (fun _ U o U' => ∃ v L, o = .returned v ∧ Q0 Z px py pz h0 n0 v U'.heap L ∧ FrameEnd U o U' L 16 128) := by
  refine MetFree.of_bodySF (plainFor_of_name pn_0) hisR ?_
  intro p e s m args below meth c s₁ Bd hml0 hP hK
  obtain ⟨rfl, hZ, hh⟩ := hP
  have hx := Bd.exec
  have hby := Bd.bytes
  have hml : c.maxLocals = 14 := hml0
  have hown : s.vm.findClass "com/example/tessera/tessera/crosswalk/PositionsWidthPinLaw" = some m.cls := findClass_of_methodNamed Bd.named
  have hnm := (name_of_methodNamed Bd.named Bd.method).1
  have X0 : Stand p l e room_1 s m #[(.int px), (.int py), (.int pz)] below meth c s₁ [] 0 0 := Stand.of_body Bd
  have e0 : s₁.heap = h0 := by rw [← hh, Bd.state]; rfl
  have N0 := Fr.nil n0
  show Go p e below s (Q0 Z px py pz h0 n0) 16 128 (s₁.setTop (entryFrame m #[(.int px), (.int py), (.int pz)] maxLocals))
  rw [ef_0]
  show Go _ _ _ _ _ _ _ (s₁.setTop (mkF m 0 #[.val (.int px), .val (.int py), .val (.int pz), .unset, .unset, .unset, .unset, .unset, .unset, .unset, .unset, .unset, .unset, .unset] []))
  refine Go.step (fun t k => XS.iloadN X0.here hx rfl (hb hby at_0) rfl k) ?_
  show Go _ _ _ _ _ _ _ (s₁.setTop (mkF m 1 #[.val (.int px), .val (.int py), .val (.int pz), .unset, .unset, .unset, .unset, .unset, .unset, .unset, .unset, .unset, .unset, .unset] [(.int px)]))
  refine Go.step (fun t k => X0.ldcInt hx hown (mvT hZ (hw _ (List.mem_of_getElem? (i := 0) rfl))) (g := (mkF m 1 #[.val (.int px), .val (.int py), .val (.int pz), .unset, .unset, .unset, .unset, .unset, .unset, .unset, .unset, .unset, .unset, .unset] [(.int px)])) rfl (hb hby at_1) _ k) ?_
  show Go _ _ _ _ _ _ _ (s₁.setTop (mkF m 3 #[.val (.int px), .val (.int py), .val (.int pz), .unset, .unset, .unset, .unset, .unset, .unset, .unset, .unset, .unset, .unset, .unset] [(.int (536870911 : Int32)), (.int px)]))
  refine Go.step (fun t k => XS.iand X0.here hx rfl (hb hby at_3) rfl k) ?_
  show Go _ _ _ _ _ _ _ (s₁.setTop (mkF m 4 #[.val (.int px), .val (.int py), .val (.int pz), .unset, .unset, .unset, .unset, .unset, .unset, .unset, .unset, .unset, .unset, .unset] [(.int (px &&& (536870911 : Int32)))]))
  refine Go.step (fun t k => XS.istoreN X0.here hx rfl (hb hby at_4) rfl (l' := #[.val (.int px), .val (.int py), .val (.int pz), .val (.int (px &&& (536870911 : Int32))), .unset, .unset, .unset, .unset, .unset, .unset, .unset, .unset, .unset, .unset]) rfl k) ?_
  show Go _ _ _ _ _ _ _ (s₁.setTop (mkF m 5 #[.val (.int px), .val (.int py), .val (.int pz), .val (.int (px &&& (536870911 : Int32))), .unset, .unset, .unset, .unset, .unset, .unset, .unset, .unset, .unset, .unset] []))
  generalize hva : (px &&& (536870911 : Int32)) = va
  show Go _ _ _ _ _ _ _ (s₁.setTop (mkF m 5 #[.val (.int px), .val (.int py), .val (.int pz), .val (.int va), .unset, .unset, .unset, .unset, .unset, .unset, .unset, .unset, .unset, .unset] []))
  refine Go.step (fun t k => XS.iloadN X0.here hx rfl (hb hby at_5) rfl k) ?_
  show Go _ _ _ _ _ _ _ (s₁.setTop (mkF m 6 #[.val (.int px), .val (.int py), .val (.int pz), .val (.int va), .unset, .unset, .unset, .unset, .unset, .unset, .unset, .unset, .unset, .unset] [(.int va)]))
  refine Go.step (fun t k => XS.iloadN X0.here hx rfl (hb hby at_6) rfl k) ?_
  show Go _ _ _ _ _ _ _ (s₁.setTop (mkF m 7 #[.val (.int px), .val (.int py), .val (.int pz), .val (.int va), .unset, .unset, .unset, .unset, .unset, .unset, .unset, .unset, .unset, .unset] [(.int py), (.int va)]))
  refine Go.step (fun t k => X0.ldcInt hx hown (mvT hZ (hw _ (List.mem_of_getElem? (i := 0) rfl))) (g := (mkF m 7 #[.val (.int px), .val (.int py), .val (.int pz), .val (.int va), .unset, .unset, .unset, .unset, .unset, .unset, .unset, .unset, .unset, .unset] [(.int py), (.int va)])) rfl (hb hby at_7) _ k) ?_
  show Go _ _ _ _ _ _ _ (s₁.setTop (mkF m 9 #[.val (.int px), .val (.int py), .val (.int pz), .val (.int va), .unset, .unset, .unset, .unset, .unset, .unset, .unset, .unset, .unset, .unset] [(.int (536870911 : Int32)), (.int py), (.int va)]))
  refine Go.step (fun t k => XS.iand X0.here hx rfl (hb hby at_9) rfl k) ?_
  show Go _ _ _ _ _ _ _ (s₁.setTop (mkF m 10 #[.val (.int px), .val (.int py), .val (.int pz), .val (.int va), .unset, .unset, .unset, .unset, .unset, .unset, .unset, .unset, .unset, .unset] [(.int (py &&& (536870911 : Int32))), (.int va)]))
  refine Go.step (fun t k => XS.iadd X0.here hx rfl (hb hby at_10) rfl k) ?_
  show Go _ _ _ _ _ _ _ (s₁.setTop (mkF m 11 #[.val (.int px), .val (.int py), .val (.int pz), .val (.int va), .unset, .unset, .unset, .unset, .unset, .unset, .unset, .unset, .unset, .unset] [(.int (va + (py &&& (536870911 : Int32))))]))
  refine Go.step (fun t k => XS.istore X0.here hx rfl (hb hby at_11) rfl (l' := #[.val (.int px), .val (.int py), .val (.int pz), .val (.int va), .val (.int (va + (py &&& (536870911 : Int32)))), .unset, .unset, .unset, .unset, .unset, .unset, .unset, .unset, .unset]) rfl k) ?_
  show Go _ _ _ _ _ _ _ (s₁.setTop (mkF m 13 #[.val (.int px), .val (.int py), .val (.int pz), .val (.int va), .val (.int (va + (py &&& (536870911 : Int32)))), .unset, .unset, .unset, .unset, .unset, .unset, .unset, .unset, .unset] []))
  generalize hvb : (va + (py &&& (536870911 : Int32))) = vb
  show Go _ _ _ _ _ _ _ (s₁.setTop (mkF m 13 #[.val (.int px), .val (.int py), .val (.int pz), .val (.int va), .val (.int vb), .unset, .unset, .unset, .unset, .unset, .unset, .unset, .unset, .unset] []))
  refine Go.step (fun t k => XS.iload X0.here hx rfl (hb hby at_13) rfl k) ?_
  show Go _ _ _ _ _ _ _ (s₁.setTop (mkF m 15 #[.val (.int px), .val (.int py), .val (.int pz), .val (.int va), .val (.int vb), .unset, .unset, .unset, .unset, .unset, .unset, .unset, .unset, .unset] [(.int vb)]))
  refine Go.step (fun t k => XS.iconst X0.here hx rfl (hb hby at_15) k) ?_
  show Go _ _ _ _ _ _ _ (s₁.setTop (mkF m 16 #[.val (.int px), .val (.int py), .val (.int pz), .val (.int va), .val (.int vb), .unset, .unset, .unset, .unset, .unset, .unset, .unset, .unset, .unset] [(.int (1 : Int32)), (.int vb)]))
  refine Go.step (fun t k => XS.iadd X0.here hx rfl (hb hby at_16) rfl k) ?_
  show Go _ _ _ _ _ _ _ (s₁.setTop (mkF m 17 #[.val (.int px), .val (.int py), .val (.int pz), .val (.int va), .val (.int vb), .unset, .unset, .unset, .unset, .unset, .unset, .unset, .unset, .unset] [(.int (vb + (1 : Int32)))]))
  refine Go.step (fun t k => XS.iloadN X0.here hx rfl (hb hby at_17) rfl k) ?_
  show Go _ _ _ _ _ _ _ (s₁.setTop (mkF m 18 #[.val (.int px), .val (.int py), .val (.int pz), .val (.int va), .val (.int vb), .unset, .unset, .unset, .unset, .unset, .unset, .unset, .unset, .unset] [(.int pz), (.int (vb + (1 : Int32)))]))
  refine Go.step (fun t k => X0.ldcInt hx hown (mvT hZ (hw _ (List.mem_of_getElem? (i := 0) rfl))) (g := (mkF m 18 #[.val (.int px), .val (.int py), .val (.int pz), .val (.int va), .val (.int vb), .unset, .unset, .unset, .unset, .unset, .unset, .unset, .unset, .unset] [(.int pz), (.int (vb + (1 : Int32)))])) rfl (hb hby at_18) _ k) ?_
  show Go _ _ _ _ _ _ _ (s₁.setTop (mkF m 20 #[.val (.int px), .val (.int py), .val (.int pz), .val (.int va), .val (.int vb), .unset, .unset, .unset, .unset, .unset, .unset, .unset, .unset, .unset] [(.int (536870911 : Int32)), (.int pz), (.int (vb + (1 : Int32)))]))
  refine Go.step (fun t k => XS.iand X0.here hx rfl (hb hby at_20) rfl k) ?_
  show Go _ _ _ _ _ _ _ (s₁.setTop (mkF m 21 #[.val (.int px), .val (.int py), .val (.int pz), .val (.int va), .val (.int vb), .unset, .unset, .unset, .unset, .unset, .unset, .unset, .unset, .unset] [(.int (pz &&& (536870911 : Int32))), (.int (vb + (1 : Int32)))]))
  refine Go.step (fun t k => XS.iadd X0.here hx rfl (hb hby at_21) rfl k) ?_
  show Go _ _ _ _ _ _ _ (s₁.setTop (mkF m 22 #[.val (.int px), .val (.int py), .val (.int pz), .val (.int va), .val (.int vb), .unset, .unset, .unset, .unset, .unset, .unset, .unset, .unset, .unset] [(.int ((vb + (1 : Int32)) + (pz &&& (536870911 : Int32))))]))
  refine Go.step (fun t k => XS.istore X0.here hx rfl (hb hby at_22) rfl (l' := #[.val (.int px), .val (.int py), .val (.int pz), .val (.int va), .val (.int vb), .val (.int ((vb + (1 : Int32)) + (pz &&& (536870911 : Int32)))), .unset, .unset, .unset, .unset, .unset, .unset, .unset, .unset]) rfl k) ?_
  show Go _ _ _ _ _ _ _ (s₁.setTop (mkF m 24 #[.val (.int px), .val (.int py), .val (.int pz), .val (.int va), .val (.int vb), .val (.int ((vb + (1 : Int32)) + (pz &&& (536870911 : Int32)))), .unset, .unset, .unset, .unset, .unset, .unset, .unset, .unset] []))
  generalize hvc : ((vb + (1 : Int32)) + (pz &&& (536870911 : Int32))) = vc
  show Go _ _ _ _ _ _ _ (s₁.setTop (mkF m 24 #[.val (.int px), .val (.int py), .val (.int pz), .val (.int va), .val (.int vb), .val (.int vc), .unset, .unset, .unset, .unset, .unset, .unset, .unset, .unset] []))
  obtain ⟨T1, h1, X1, e1, E1, A1, D1, -, st1⟩ := newO X0 hx hZ hown (hw _ (List.mem_of_getElem? (i := 1) rfl)) (hw _ (List.mem_of_getElem? (i := 2) rfl)) (hw _ (List.mem_of_getElem? (i := 3) rfl)) e0 (g := (mkF m 24 #[.val (.int px), .val (.int py), .val (.int pz), .val (.int va), .val (.int vb), .val (.int vc), .unset, .unset, .unset, .unset, .unset, .unset, .unset, .unset] [])) rfl (hb hby at_24) (by decide) (by decide)
  obtain ⟨b1, gz1⟩ : ∃ z, z = h0.size := ⟨_, rfl⟩
  have g_b1 : n0 ≤ b1 := Nat.le_trans Z0 (Nat.le_of_eq gz1.symm)
  rw [← gz1] at A1 D1 st1
  have Z1 := Nat.le_trans Z0 E1.1
  have E_b1 := A1
  have F_first_b1 : Fld Z h1 b1 "com/example/tessera/tessera/crosswalk/Positions" "first" "I" (.int (0 : Int32)) := D1 (Or.inr (hw _ (List.mem_of_getElem? (i := 16) rfl))) (ty := .int) (by decide)
  have F_last_b1 : Fld Z h1 b1 "com/example/tessera/tessera/crosswalk/Positions" "last" "I" (.int (0 : Int32)) := D1 (Or.inr (hw _ (List.mem_of_getElem? (i := 18) rfl))) (ty := .int) (by decide)
  refine Go.step st1 ?_
  show Go _ _ _ _ _ _ _ (T1.setTop (mkF m 27 #[.val (.int px), .val (.int py), .val (.int pz), .val (.int va), .val (.int vb), .val (.int vc), .unset, .unset, .unset, .unset, .unset, .unset, .unset, .unset] [(.ref b1)]))
  refine Go.step (fun t k => XS.dup X1.here hx rfl (hb hby at_27) rfl rfl k) ?_
  show Go _ _ _ _ _ _ _ (T1.setTop (mkF m 28 #[.val (.int px), .val (.int py), .val (.int pz), .val (.int va), .val (.int vb), .val (.int vc), .unset, .unset, .unset, .unset, .unset, .unset, .unset, .unset] [(.ref b1), (.ref b1)]))
  refine Go.step (fun t k => XS.iload X1.here hx rfl (hb hby at_28) rfl k) ?_
  show Go _ _ _ _ _ _ _ (T1.setTop (mkF m 30 #[.val (.int px), .val (.int py), .val (.int pz), .val (.int va), .val (.int vb), .val (.int vc), .unset, .unset, .unset, .unset, .unset, .unset, .unset, .unset] [(.int vb), (.ref b1), (.ref b1)]))
  refine Go.step (fun t k => XS.iload X1.here hx rfl (hb hby at_30) rfl k) ?_
  show Go _ _ _ _ _ _ _ (T1.setTop (mkF m 32 #[.val (.int px), .val (.int py), .val (.int pz), .val (.int va), .val (.int vb), .val (.int vc), .unset, .unset, .unset, .unset, .unset, .unset, .unset, .unset] [(.int vb), (.int vb), (.ref b1), (.ref b1)]))
  obtain ⟨_, _, ⟨T2, L2, k2, n2⟩, -, X2, ⟨Lc2, hQ2, l2, y2, z2⟩, st2⟩ := X1.specialBack hx (y := (⟨"com/example/tessera/tessera/crosswalk/Positions", "<init>", "(II)V"⟩ : MethodName)) rfl hown (mvT hZ (hw _ (List.mem_of_getElem? (i := 4) rfl))) (mvT hZ (hw _ (List.mem_of_getElem? (i := 5) rfl))) (mvT hZ (hw _ (List.mem_of_getElem? (i := 6) rfl))) (by decide) (backOf (W := 1) (rm1 l Z a0 hw [] b1 vb vb h1 n0 Z1 F_first_b1 F_last_b1 E_b1 g_b1) hZ (hw _ (List.mem_of_getElem? (i := 6) rfl)) (hw _ (List.mem_of_getElem? (i := 3) rfl)) (by decide) (by decide)) (g := (mkF m 32 #[.val (.int px), .val (.int py), .val (.int pz), .val (.int va), .val (.int vb), .val (.int vc), .unset, .unset, .unset, .unset, .unset, .unset, .unset, .unset] [(.int vb), (.int vb), (.ref b1), (.ref b1)])) rfl (by rw [hml]; rfl) (Steps.refl _) (a := b1) (argsL := [(.int vb), (.int vb)]) (rest := [(.ref b1)]) (lenOf pd_0_0 rfl) rfl (by show 2 * 0 + _ ≤ _; exact Nat.le_of_eq rfl) (hb hby at_32) (fun _ _ => ⟨rfl, e1, (by decide : 1 + 0 ≤ _), (by decide : 2 + 0 ≤ _)⟩)
  dsimp only [Pt.U, Pt.locs, Pt.cells, Pt.slots] at X2 l2 y2 z2 st2 hQ2
  subst l2 y2 z2
  obtain ⟨rfl, N2q, K2q, o2_F_first_b1, o2_F_last_b1⟩ := hQ2
  have N2 := Fr.app N0 N2q
  replace E_b1 := E_b1.keep K2q
  have Z2 := Nat.le_trans Z1 K2q.1
  have F_first_b1 := o2_F_first_b1
  have F_last_b1 := o2_F_last_b1
  refine Go.step (fun t k => st2.trans k) ?_
  show Go _ _ _ _ _ _ _ (T2.setTop (mkF m 35 #[.val (.int px), .val (.int py), .val (.int pz), .val (.int va), .val (.int vb), .val (.int vc), .unset, .unset, .unset, .unset, .unset, .unset, .unset, .unset] [(.ref b1)]))
  refine Go.step (fun t k => XS.astore X2.here hx rfl (hb hby at_35) rfl rfl (l' := #[.val (.int px), .val (.int py), .val (.int pz), .val (.int va), .val (.int vb), .val (.int vc), .val (.ref b1), .unset, .unset, .unset, .unset, .unset, .unset, .unset]) rfl k) ?_
  show Go _ _ _ _ _ _ _ (T2.setTop (mkF m 37 #[.val (.int px), .val (.int py), .val (.int pz), .val (.int va), .val (.int vb), .val (.int vc), .val (.ref b1), .unset, .unset, .unset, .unset, .unset, .unset, .unset] []))
  obtain ⟨T3, h3, X3, e3, E3, A3, D3, -, st3⟩ := newO X2 hx hZ hown (hw _ (List.mem_of_getElem? (i := 1) rfl)) (hw _ (List.mem_of_getElem? (i := 2) rfl)) (hw _ (List.mem_of_getElem? (i := 3) rfl)) rfl (g := (mkF m 37 #[.val (.int px), .val (.int py), .val (.int pz), .val (.int va), .val (.int vb), .val (.int vc), .val (.ref b1), .unset, .unset, .unset, .unset, .unset, .unset, .unset] [])) rfl (hb hby at_37) (by decide) (by decide)
  obtain ⟨b3, gz3⟩ : ∃ z, z = T2.heap.size := ⟨_, rfl⟩
  have ne_b1_b3 : b1 ≠ b3 := Nat.ne_of_lt (Nat.lt_of_lt_of_le E_b1.lt (Nat.le_of_eq gz3.symm))
  have g_b3 : n0 ≤ b3 := Nat.le_trans Z2 (Nat.le_of_eq gz3.symm)
  rw [← gz3] at A3 D3 st3
  replace E_b1 := E_b1.ext E3
  replace F_first_b1 := F_first_b1.ext E3
  replace F_last_b1 := F_last_b1.ext E3
  have Z3 := Nat.le_trans Z2 E3.1
  have E_b3 := A3
  have F_first_b3 : Fld Z h3 b3 "com/example/tessera/tessera/crosswalk/Positions" "first" "I" (.int (0 : Int32)) := D3 (Or.inr (hw _ (List.mem_of_getElem? (i := 16) rfl))) (ty := .int) (by decide)
  have F_last_b3 : Fld Z h3 b3 "com/example/tessera/tessera/crosswalk/Positions" "last" "I" (.int (0 : Int32)) := D3 (Or.inr (hw _ (List.mem_of_getElem? (i := 18) rfl))) (ty := .int) (by decide)
  refine Go.step st3 ?_
  show Go _ _ _ _ _ _ _ (T3.setTop (mkF m 40 #[.val (.int px), .val (.int py), .val (.int pz), .val (.int va), .val (.int vb), .val (.int vc), .val (.ref b1), .unset, .unset, .unset, .unset, .unset, .unset, .unset] [(.ref b3)]))
  refine Go.step (fun t k => XS.dup X3.here hx rfl (hb hby at_40) rfl rfl k) ?_
  show Go _ _ _ _ _ _ _ (T3.setTop (mkF m 41 #[.val (.int px), .val (.int py), .val (.int pz), .val (.int va), .val (.int vb), .val (.int vc), .val (.ref b1), .unset, .unset, .unset, .unset, .unset, .unset, .unset] [(.ref b3), (.ref b3)]))
  refine Go.step (fun t k => XS.iloadN X3.here hx rfl (hb hby at_41) rfl k) ?_
  show Go _ _ _ _ _ _ _ (T3.setTop (mkF m 42 #[.val (.int px), .val (.int py), .val (.int pz), .val (.int va), .val (.int vb), .val (.int vc), .val (.ref b1), .unset, .unset, .unset, .unset, .unset, .unset, .unset] [(.int va), (.ref b3), (.ref b3)]))
  refine Go.step (fun t k => XS.iload X3.here hx rfl (hb hby at_42) rfl k) ?_
  show Go _ _ _ _ _ _ _ (T3.setTop (mkF m 44 #[.val (.int px), .val (.int py), .val (.int pz), .val (.int va), .val (.int vb), .val (.int vc), .val (.ref b1), .unset, .unset, .unset, .unset, .unset, .unset, .unset] [(.int vb), (.int va), (.ref b3), (.ref b3)]))
  obtain ⟨_, _, ⟨T4, L4, k4, n4⟩, -, X4, ⟨Lc4, hQ4, l4, y4, z4⟩, st4⟩ := X3.specialBack hx (y := (⟨"com/example/tessera/tessera/crosswalk/Positions", "<init>", "(II)V"⟩ : MethodName)) rfl hown (mvT hZ (hw _ (List.mem_of_getElem? (i := 4) rfl))) (mvT hZ (hw _ (List.mem_of_getElem? (i := 5) rfl))) (mvT hZ (hw _ (List.mem_of_getElem? (i := 6) rfl))) (by decide) (backOf (W := 1) (rm1 l Z a0 hw [] b3 va vb h3 n0 Z3 F_first_b3 F_last_b3 E_b3 g_b3) hZ (hw _ (List.mem_of_getElem? (i := 6) rfl)) (hw _ (List.mem_of_getElem? (i := 3) rfl)) (by decide) (by decide)) (g := (mkF m 44 #[.val (.int px), .val (.int py), .val (.int pz), .val (.int va), .val (.int vb), .val (.int vc), .val (.ref b1), .unset, .unset, .unset, .unset, .unset, .unset, .unset] [(.int vb), (.int va), (.ref b3), (.ref b3)])) rfl (by rw [hml]; rfl) (Steps.refl _) (a := b3) (argsL := [(.int va), (.int vb)]) (rest := [(.ref b3)]) (lenOf pd_0_0 rfl) rfl (by show 2 * 0 + _ ≤ _; exact Nat.le_of_eq rfl) (hb hby at_44) (fun _ _ => ⟨rfl, e3, (by decide : 2 + 0 ≤ _), (by decide : 4 + 0 ≤ _)⟩)
  dsimp only [Pt.U, Pt.locs, Pt.cells, Pt.slots] at X4 l4 y4 z4 st4 hQ4
  subst l4 y4 z4
  obtain ⟨rfl, N4q, K4q, o4_F_first_b3, o4_F_last_b3⟩ := hQ4
  have N4 := Fr.app N2 N4q
  replace E_b1 := E_b1.keep K4q
  replace F_first_b1 := F_first_b1.keep K4q (ninS ne_b1_b3 nin0)
  replace F_last_b1 := F_last_b1.keep K4q (ninS ne_b1_b3 nin0)
  replace E_b3 := E_b3.keep K4q
  have Z4 := Nat.le_trans Z3 K4q.1
  have F_first_b3 := o4_F_first_b3
  have F_last_b3 := o4_F_last_b3
  refine Go.step (fun t k => st4.trans k) ?_
  show Go _ _ _ _ _ _ _ (T4.setTop (mkF m 47 #[.val (.int px), .val (.int py), .val (.int pz), .val (.int va), .val (.int vb), .val (.int vc), .val (.ref b1), .unset, .unset, .unset, .unset, .unset, .unset, .unset] [(.ref b3)]))
  refine Go.step (fun t k => XS.astore X4.here hx rfl (hb hby at_47) rfl rfl (l' := #[.val (.int px), .val (.int py), .val (.int pz), .val (.int va), .val (.int vb), .val (.int vc), .val (.ref b1), .val (.ref b3), .unset, .unset, .unset, .unset, .unset, .unset]) rfl k) ?_
  show Go _ _ _ _ _ _ _ (T4.setTop (mkF m 49 #[.val (.int px), .val (.int py), .val (.int pz), .val (.int va), .val (.int vb), .val (.int vc), .val (.ref b1), .val (.ref b3), .unset, .unset, .unset, .unset, .unset, .unset] []))
  obtain ⟨T5, h5, X5, e5, E5, A5, D5, -, st5⟩ := newO X4 hx hZ hown (hw _ (List.mem_of_getElem? (i := 1) rfl)) (hw _ (List.mem_of_getElem? (i := 2) rfl)) (hw _ (List.mem_of_getElem? (i := 3) rfl)) rfl (g := (mkF m 49 #[.val (.int px), .val (.int py), .val (.int pz), .val (.int va), .val (.int vb), .val (.int vc), .val (.ref b1), .val (.ref b3), .unset, .unset, .unset, .unset, .unset, .unset] [])) rfl (hb hby at_49) (by decide) (by decide)
  obtain ⟨b5, gz5⟩ : ∃ z, z = T4.heap.size := ⟨_, rfl⟩
  have ne_b1_b5 : b1 ≠ b5 := Nat.ne_of_lt (Nat.lt_of_lt_of_le E_b1.lt (Nat.le_of_eq gz5.symm))
  have ne_b3_b5 : b3 ≠ b5 := Nat.ne_of_lt (Nat.lt_of_lt_of_le E_b3.lt (Nat.le_of_eq gz5.symm))
  have g_b5 : n0 ≤ b5 := Nat.le_trans Z4 (Nat.le_of_eq gz5.symm)
  rw [← gz5] at A5 D5 st5
  replace E_b1 := E_b1.ext E5
  replace F_first_b1 := F_first_b1.ext E5
  replace F_last_b1 := F_last_b1.ext E5
  replace E_b3 := E_b3.ext E5
  replace F_first_b3 := F_first_b3.ext E5
  replace F_last_b3 := F_last_b3.ext E5
  have Z5 := Nat.le_trans Z4 E5.1
  have E_b5 := A5
  have F_first_b5 : Fld Z h5 b5 "com/example/tessera/tessera/crosswalk/Positions" "first" "I" (.int (0 : Int32)) := D5 (Or.inr (hw _ (List.mem_of_getElem? (i := 16) rfl))) (ty := .int) (by decide)
  have F_last_b5 : Fld Z h5 b5 "com/example/tessera/tessera/crosswalk/Positions" "last" "I" (.int (0 : Int32)) := D5 (Or.inr (hw _ (List.mem_of_getElem? (i := 18) rfl))) (ty := .int) (by decide)
  refine Go.step st5 ?_
  show Go _ _ _ _ _ _ _ (T5.setTop (mkF m 52 #[.val (.int px), .val (.int py), .val (.int pz), .val (.int va), .val (.int vb), .val (.int vc), .val (.ref b1), .val (.ref b3), .unset, .unset, .unset, .unset, .unset, .unset] [(.ref b5)]))
  refine Go.step (fun t k => XS.dup X5.here hx rfl (hb hby at_52) rfl rfl k) ?_
  show Go _ _ _ _ _ _ _ (T5.setTop (mkF m 53 #[.val (.int px), .val (.int py), .val (.int pz), .val (.int va), .val (.int vb), .val (.int vc), .val (.ref b1), .val (.ref b3), .unset, .unset, .unset, .unset, .unset, .unset] [(.ref b5), (.ref b5)]))
  refine Go.step (fun t k => XS.iload X5.here hx rfl (hb hby at_53) rfl k) ?_
  show Go _ _ _ _ _ _ _ (T5.setTop (mkF m 55 #[.val (.int px), .val (.int py), .val (.int pz), .val (.int va), .val (.int vb), .val (.int vc), .val (.ref b1), .val (.ref b3), .unset, .unset, .unset, .unset, .unset, .unset] [(.int vb), (.ref b5), (.ref b5)]))
  refine Go.step (fun t k => XS.iconst X5.here hx rfl (hb hby at_55) k) ?_
  show Go _ _ _ _ _ _ _ (T5.setTop (mkF m 56 #[.val (.int px), .val (.int py), .val (.int pz), .val (.int va), .val (.int vb), .val (.int vc), .val (.ref b1), .val (.ref b3), .unset, .unset, .unset, .unset, .unset, .unset] [(.int (1 : Int32)), (.int vb), (.ref b5), (.ref b5)]))
  refine Go.step (fun t k => XS.iadd X5.here hx rfl (hb hby at_56) rfl k) ?_
  show Go _ _ _ _ _ _ _ (T5.setTop (mkF m 57 #[.val (.int px), .val (.int py), .val (.int pz), .val (.int va), .val (.int vb), .val (.int vc), .val (.ref b1), .val (.ref b3), .unset, .unset, .unset, .unset, .unset, .unset] [(.int (vb + (1 : Int32))), (.ref b5), (.ref b5)]))
  refine Go.step (fun t k => XS.iload X5.here hx rfl (hb hby at_57) rfl k) ?_
  show Go _ _ _ _ _ _ _ (T5.setTop (mkF m 59 #[.val (.int px), .val (.int py), .val (.int pz), .val (.int va), .val (.int vb), .val (.int vc), .val (.ref b1), .val (.ref b3), .unset, .unset, .unset, .unset, .unset, .unset] [(.int vc), (.int (vb + (1 : Int32))), (.ref b5), (.ref b5)]))
  obtain ⟨_, _, ⟨T6, L6, k6, n6⟩, -, X6, ⟨Lc6, hQ6, l6, y6, z6⟩, st6⟩ := X5.specialBack hx (y := (⟨"com/example/tessera/tessera/crosswalk/Positions", "<init>", "(II)V"⟩ : MethodName)) rfl hown (mvT hZ (hw _ (List.mem_of_getElem? (i := 4) rfl))) (mvT hZ (hw _ (List.mem_of_getElem? (i := 5) rfl))) (mvT hZ (hw _ (List.mem_of_getElem? (i := 6) rfl))) (by decide) (backOf (W := 1) (rm1 l Z a0 hw [] b5 (vb + (1 : Int32)) vc h5 n0 Z5 F_first_b5 F_last_b5 E_b5 g_b5) hZ (hw _ (List.mem_of_getElem? (i := 6) rfl)) (hw _ (List.mem_of_getElem? (i := 3) rfl)) (by decide) (by decide)) (g := (mkF m 59 #[.val (.int px), .val (.int py), .val (.int pz), .val (.int va), .val (.int vb), .val (.int vc), .val (.ref b1), .val (.ref b3), .unset, .unset, .unset, .unset, .unset, .unset] [(.int vc), (.int (vb + (1 : Int32))), (.ref b5), (.ref b5)])) rfl (by rw [hml]; rfl) (Steps.refl _) (a := b5) (argsL := [(.int (vb + (1 : Int32))), (.int vc)]) (rest := [(.ref b5)]) (lenOf pd_0_0 rfl) rfl (by show 2 * 0 + _ ≤ _; exact Nat.le_of_eq rfl) (hb hby at_59) (fun _ _ => ⟨rfl, e5, (by decide : 3 + 0 ≤ _), (by decide : 6 + 0 ≤ _)⟩)
  dsimp only [Pt.U, Pt.locs, Pt.cells, Pt.slots] at X6 l6 y6 z6 st6 hQ6
  subst l6 y6 z6
  obtain ⟨rfl, N6q, K6q, o6_F_first_b5, o6_F_last_b5⟩ := hQ6
  have N6 := Fr.app N4 N6q
  replace E_b1 := E_b1.keep K6q
  replace F_first_b1 := F_first_b1.keep K6q (ninS ne_b1_b5 nin0)
  replace F_last_b1 := F_last_b1.keep K6q (ninS ne_b1_b5 nin0)
  replace E_b3 := E_b3.keep K6q
  replace F_first_b3 := F_first_b3.keep K6q (ninS ne_b3_b5 nin0)
  replace F_last_b3 := F_last_b3.keep K6q (ninS ne_b3_b5 nin0)
  replace E_b5 := E_b5.keep K6q
  have Z6 := Nat.le_trans Z5 K6q.1
  have F_first_b5 := o6_F_first_b5
  have F_last_b5 := o6_F_last_b5
  refine Go.step (fun t k => st6.trans k) ?_
  show Go _ _ _ _ _ _ _ (T6.setTop (mkF m 62 #[.val (.int px), .val (.int py), .val (.int pz), .val (.int va), .val (.int vb), .val (.int vc), .val (.ref b1), .val (.ref b3), .unset, .unset, .unset, .unset, .unset, .unset] [(.ref b5)]))
  refine Go.step (fun t k => XS.astore X6.here hx rfl (hb hby at_62) rfl rfl (l' := #[.val (.int px), .val (.int py), .val (.int pz), .val (.int va), .val (.int vb), .val (.int vc), .val (.ref b1), .val (.ref b3), .val (.ref b5), .unset, .unset, .unset, .unset, .unset]) rfl k) ?_
  show Go _ _ _ _ _ _ _ (T6.setTop (mkF m 64 #[.val (.int px), .val (.int py), .val (.int pz), .val (.int va), .val (.int vb), .val (.int vc), .val (.ref b1), .val (.ref b3), .val (.ref b5), .unset, .unset, .unset, .unset, .unset] []))
  obtain ⟨T7, h7, X7, e7, E7, A7, D7, -, st7⟩ := newO X6 hx hZ hown (hw _ (List.mem_of_getElem? (i := 1) rfl)) (hw _ (List.mem_of_getElem? (i := 2) rfl)) (hw _ (List.mem_of_getElem? (i := 3) rfl)) rfl (g := (mkF m 64 #[.val (.int px), .val (.int py), .val (.int pz), .val (.int va), .val (.int vb), .val (.int vc), .val (.ref b1), .val (.ref b3), .val (.ref b5), .unset, .unset, .unset, .unset, .unset] [])) rfl (hb hby at_64) (by decide) (by decide)
  obtain ⟨b7, gz7⟩ : ∃ z, z = T6.heap.size := ⟨_, rfl⟩
  have ne_b1_b7 : b1 ≠ b7 := Nat.ne_of_lt (Nat.lt_of_lt_of_le E_b1.lt (Nat.le_of_eq gz7.symm))
  have ne_b3_b7 : b3 ≠ b7 := Nat.ne_of_lt (Nat.lt_of_lt_of_le E_b3.lt (Nat.le_of_eq gz7.symm))
  have ne_b5_b7 : b5 ≠ b7 := Nat.ne_of_lt (Nat.lt_of_lt_of_le E_b5.lt (Nat.le_of_eq gz7.symm))
  have g_b7 : n0 ≤ b7 := Nat.le_trans Z6 (Nat.le_of_eq gz7.symm)
  rw [← gz7] at A7 D7 st7
  replace E_b1 := E_b1.ext E7
  replace F_first_b1 := F_first_b1.ext E7
  replace F_last_b1 := F_last_b1.ext E7
  replace E_b3 := E_b3.ext E7
  replace F_first_b3 := F_first_b3.ext E7
  replace F_last_b3 := F_last_b3.ext E7
  replace E_b5 := E_b5.ext E7
  replace F_first_b5 := F_first_b5.ext E7
  replace F_last_b5 := F_last_b5.ext E7
  have Z7 := Nat.le_trans Z6 E7.1
  have E_b7 := A7
  have F_first_b7 : Fld Z h7 b7 "com/example/tessera/tessera/crosswalk/Positions" "first" "I" (.int (0 : Int32)) := D7 (Or.inr (hw _ (List.mem_of_getElem? (i := 16) rfl))) (ty := .int) (by decide)
  have F_last_b7 : Fld Z h7 b7 "com/example/tessera/tessera/crosswalk/Positions" "last" "I" (.int (0 : Int32)) := D7 (Or.inr (hw _ (List.mem_of_getElem? (i := 18) rfl))) (ty := .int) (by decide)
  refine Go.step st7 ?_
  show Go _ _ _ _ _ _ _ (T7.setTop (mkF m 67 #[.val (.int px), .val (.int py), .val (.int pz), .val (.int va), .val (.int vb), .val (.int vc), .val (.ref b1), .val (.ref b3), .val (.ref b5), .unset, .unset, .unset, .unset, .unset] [(.ref b7)]))
  refine Go.step (fun t k => XS.dup X7.here hx rfl (hb hby at_67) rfl rfl k) ?_
  show Go _ _ _ _ _ _ _ (T7.setTop (mkF m 68 #[.val (.int px), .val (.int py), .val (.int pz), .val (.int va), .val (.int vb), .val (.int vc), .val (.ref b1), .val (.ref b3), .val (.ref b5), .unset, .unset, .unset, .unset, .unset] [(.ref b7), (.ref b7)]))
  refine Go.step (fun t k => XS.iloadN X7.here hx rfl (hb hby at_68) rfl k) ?_
  show Go _ _ _ _ _ _ _ (T7.setTop (mkF m 69 #[.val (.int px), .val (.int py), .val (.int pz), .val (.int va), .val (.int vb), .val (.int vc), .val (.ref b1), .val (.ref b3), .val (.ref b5), .unset, .unset, .unset, .unset, .unset] [(.int va), (.ref b7), (.ref b7)]))
  refine Go.step (fun t k => XS.iload X7.here hx rfl (hb hby at_69) rfl k) ?_
  show Go _ _ _ _ _ _ _ (T7.setTop (mkF m 71 #[.val (.int px), .val (.int py), .val (.int pz), .val (.int va), .val (.int vb), .val (.int vc), .val (.ref b1), .val (.ref b3), .val (.ref b5), .unset, .unset, .unset, .unset, .unset] [(.int vc), (.int va), (.ref b7), (.ref b7)]))
  obtain ⟨_, _, ⟨T8, L8, k8, n8⟩, -, X8, ⟨Lc8, hQ8, l8, y8, z8⟩, st8⟩ := X7.specialBack hx (y := (⟨"com/example/tessera/tessera/crosswalk/Positions", "<init>", "(II)V"⟩ : MethodName)) rfl hown (mvT hZ (hw _ (List.mem_of_getElem? (i := 4) rfl))) (mvT hZ (hw _ (List.mem_of_getElem? (i := 5) rfl))) (mvT hZ (hw _ (List.mem_of_getElem? (i := 6) rfl))) (by decide) (backOf (W := 1) (rm1 l Z a0 hw [] b7 va vc h7 n0 Z7 F_first_b7 F_last_b7 E_b7 g_b7) hZ (hw _ (List.mem_of_getElem? (i := 6) rfl)) (hw _ (List.mem_of_getElem? (i := 3) rfl)) (by decide) (by decide)) (g := (mkF m 71 #[.val (.int px), .val (.int py), .val (.int pz), .val (.int va), .val (.int vb), .val (.int vc), .val (.ref b1), .val (.ref b3), .val (.ref b5), .unset, .unset, .unset, .unset, .unset] [(.int vc), (.int va), (.ref b7), (.ref b7)])) rfl (by rw [hml]; rfl) (Steps.refl _) (a := b7) (argsL := [(.int va), (.int vc)]) (rest := [(.ref b7)]) (lenOf pd_0_0 rfl) rfl (by show 2 * 0 + _ ≤ _; exact Nat.le_of_eq rfl) (hb hby at_71) (fun _ _ => ⟨rfl, e7, (by decide : 4 + 0 ≤ _), (by decide : 8 + 0 ≤ _)⟩)
  dsimp only [Pt.U, Pt.locs, Pt.cells, Pt.slots] at X8 l8 y8 z8 st8 hQ8
  subst l8 y8 z8
  obtain ⟨rfl, N8q, K8q, o8_F_first_b7, o8_F_last_b7⟩ := hQ8
  have N8 := Fr.app N6 N8q
  replace E_b1 := E_b1.keep K8q
  replace F_first_b1 := F_first_b1.keep K8q (ninS ne_b1_b7 nin0)
  replace F_last_b1 := F_last_b1.keep K8q (ninS ne_b1_b7 nin0)
  replace E_b3 := E_b3.keep K8q
  replace F_first_b3 := F_first_b3.keep K8q (ninS ne_b3_b7 nin0)
  replace F_last_b3 := F_last_b3.keep K8q (ninS ne_b3_b7 nin0)
  replace E_b5 := E_b5.keep K8q
  replace F_first_b5 := F_first_b5.keep K8q (ninS ne_b5_b7 nin0)
  replace F_last_b5 := F_last_b5.keep K8q (ninS ne_b5_b7 nin0)
  replace E_b7 := E_b7.keep K8q
  have Z8 := Nat.le_trans Z7 K8q.1
  have F_first_b7 := o8_F_first_b7
  have F_last_b7 := o8_F_last_b7
  refine Go.step (fun t k => st8.trans k) ?_
  show Go _ _ _ _ _ _ _ (T8.setTop (mkF m 74 #[.val (.int px), .val (.int py), .val (.int pz), .val (.int va), .val (.int vb), .val (.int vc), .val (.ref b1), .val (.ref b3), .val (.ref b5), .unset, .unset, .unset, .unset, .unset] [(.ref b7)]))
  refine Go.step (fun t k => XS.astore X8.here hx rfl (hb hby at_74) rfl rfl (l' := #[.val (.int px), .val (.int py), .val (.int pz), .val (.int va), .val (.int vb), .val (.int vc), .val (.ref b1), .val (.ref b3), .val (.ref b5), .val (.ref b7), .unset, .unset, .unset, .unset]) rfl k) ?_
  show Go _ _ _ _ _ _ _ (T8.setTop (mkF m 76 #[.val (.int px), .val (.int py), .val (.int pz), .val (.int va), .val (.int vb), .val (.int vc), .val (.ref b1), .val (.ref b3), .val (.ref b5), .val (.ref b7), .unset, .unset, .unset, .unset] []))
  refine Go.step (fun t k => XS.aload X8.here hx rfl (hb hby at_76) rfl rfl k) ?_
  show Go _ _ _ _ _ _ _ (T8.setTop (mkF m 78 #[.val (.int px), .val (.int py), .val (.int pz), .val (.int va), .val (.int vb), .val (.int vc), .val (.ref b1), .val (.ref b3), .val (.ref b5), .val (.ref b7), .unset, .unset, .unset, .unset] [(.ref b1)]))
  obtain ⟨cq9, kq9, q9a, q9b, q9c⟩ := isOf hZ rfl E_b1
  obtain ⟨_, _, ⟨T9, L9, k9, n9⟩, -, X9, ⟨Lc9, hQ9, l9, y9, z9⟩, st9⟩ := X8.virtualBack hx (y := (⟨"com/example/tessera/tessera/crosswalk/Positions", "width", "()I"⟩ : MethodName)) (z := (⟨"com/example/tessera/tessera/crosswalk/Positions", "width", "()I"⟩ : MethodName)) hown (mvT hZ (hw _ (List.mem_of_getElem? (i := 19) rfl))) (mvT hZ (hw _ (List.mem_of_getElem? (i := 20) rfl))) (notFace_of_selects (args := #[]) (mvT hZ (hw _ (List.mem_of_getElem? (i := 22) rfl)))) (mvT hZ (hw _ (List.mem_of_getElem? (i := 22) rfl))) (mvT hZ (hw _ (List.mem_of_getElem? (i := 21) rfl))) (by decide) (backOf (W := 0) (rm4 l Z a0 hw [] b1 vb vb T8.heap n0 Z8 F_first_b1 F_last_b1) hZ (hw _ (List.mem_of_getElem? (i := 23) rfl)) (hw _ (List.mem_of_getElem? (i := 3) rfl)) (by decide) (by decide)) q9a q9c (g := (mkF m 78 #[.val (.int px), .val (.int py), .val (.int pz), .val (.int va), .val (.int vb), .val (.int vc), .val (.ref b1), .val (.ref b3), .val (.ref b5), .val (.ref b7), .unset, .unset, .unset, .unset] [(.ref b1)])) rfl (by rw [hml]; rfl) (Steps.refl _) (argsL := []) (rest := []) (lenOf pd_0_1 rfl) rfl (by show 2 * 0 + _ ≤ _; exact Nat.le_of_eq rfl) (hb hby at_78) (fun _ _ => ⟨rfl, rfl, (by decide : 4 + 0 ≤ _), (by decide : 8 + 0 ≤ _)⟩)
  dsimp only [Pt.U, Pt.locs, Pt.cells, Pt.slots] at X9 l9 y9 z9 st9 hQ9
  subst l9 y9 z9
  obtain ⟨rfl, N9q, K9q⟩ := hQ9
  have N9 := Fr.app N8 N9q
  refine Go.step (fun t k => st9.trans k) ?_
  show Go _ _ _ _ _ _ _ (T9.setTop (mkF m 81 #[.val (.int px), .val (.int py), .val (.int pz), .val (.int va), .val (.int vb), .val (.int vc), .val (.ref b1), .val (.ref b3), .val (.ref b5), .val (.ref b7), .unset, .unset, .unset, .unset] [(.int ((vb - vb) + (1 : Int32)))]))
  refine Go.step (fun t k => XS.istore X9.here hx rfl (hb hby at_81) rfl (l' := #[.val (.int px), .val (.int py), .val (.int pz), .val (.int va), .val (.int vb), .val (.int vc), .val (.ref b1), .val (.ref b3), .val (.ref b5), .val (.ref b7), .val (.int ((vb - vb) + (1 : Int32))), .unset, .unset, .unset]) rfl k) ?_
  show Go _ _ _ _ _ _ _ (T9.setTop (mkF m 83 #[.val (.int px), .val (.int py), .val (.int pz), .val (.int va), .val (.int vb), .val (.int vc), .val (.ref b1), .val (.ref b3), .val (.ref b5), .val (.ref b7), .val (.int ((vb - vb) + (1 : Int32))), .unset, .unset, .unset] []))
  refine Go.step (fun t k => XS.aload X9.here hx rfl (hb hby at_83) rfl rfl k) ?_
  show Go _ _ _ _ _ _ _ (T9.setTop (mkF m 85 #[.val (.int px), .val (.int py), .val (.int pz), .val (.int va), .val (.int vb), .val (.int vc), .val (.ref b1), .val (.ref b3), .val (.ref b5), .val (.ref b7), .val (.int ((vb - vb) + (1 : Int32))), .unset, .unset, .unset] [(.ref b3)]))
  obtain ⟨cq10, kq10, q10a, q10b, q10c⟩ := isOf hZ K9q E_b3
  obtain ⟨_, _, ⟨T10, L10, k10, n10⟩, -, X10, ⟨Lc10, hQ10, l10, y10, z10⟩, st10⟩ := X9.virtualBack hx (y := (⟨"com/example/tessera/tessera/crosswalk/Positions", "width", "()I"⟩ : MethodName)) (z := (⟨"com/example/tessera/tessera/crosswalk/Positions", "width", "()I"⟩ : MethodName)) hown (mvT hZ (hw _ (List.mem_of_getElem? (i := 19) rfl))) (mvT hZ (hw _ (List.mem_of_getElem? (i := 20) rfl))) (notFace_of_selects (args := #[]) (mvT hZ (hw _ (List.mem_of_getElem? (i := 22) rfl)))) (mvT hZ (hw _ (List.mem_of_getElem? (i := 22) rfl))) (mvT hZ (hw _ (List.mem_of_getElem? (i := 21) rfl))) (by decide) (backOf (W := 0) (rm4 l Z a0 hw [] b3 va vb T8.heap n0 Z8 F_first_b3 F_last_b3) hZ (hw _ (List.mem_of_getElem? (i := 23) rfl)) (hw _ (List.mem_of_getElem? (i := 3) rfl)) (by decide) (by decide)) q10a q10c (g := (mkF m 85 #[.val (.int px), .val (.int py), .val (.int pz), .val (.int va), .val (.int vb), .val (.int vc), .val (.ref b1), .val (.ref b3), .val (.ref b5), .val (.ref b7), .val (.int ((vb - vb) + (1 : Int32))), .unset, .unset, .unset] [(.ref b3)])) rfl (by rw [hml]; rfl) (Steps.refl _) (argsL := []) (rest := []) (lenOf pd_0_1 rfl) rfl (by show 2 * 0 + _ ≤ _; exact Nat.le_of_eq rfl) (hb hby at_85) (fun _ _ => ⟨rfl, K9q, (by decide : 4 + 0 ≤ _), (by decide : 8 + 0 ≤ _)⟩)
  dsimp only [Pt.U, Pt.locs, Pt.cells, Pt.slots] at X10 l10 y10 z10 st10 hQ10
  subst l10 y10 z10
  obtain ⟨rfl, N10q, K10q⟩ := hQ10
  have N10 := Fr.app N9 N10q
  refine Go.step (fun t k => st10.trans k) ?_
  show Go _ _ _ _ _ _ _ (T10.setTop (mkF m 88 #[.val (.int px), .val (.int py), .val (.int pz), .val (.int va), .val (.int vb), .val (.int vc), .val (.ref b1), .val (.ref b3), .val (.ref b5), .val (.ref b7), .val (.int ((vb - vb) + (1 : Int32))), .unset, .unset, .unset] [(.int ((vb - va) + (1 : Int32)))]))
  refine Go.step (fun t k => XS.istore X10.here hx rfl (hb hby at_88) rfl (l' := #[.val (.int px), .val (.int py), .val (.int pz), .val (.int va), .val (.int vb), .val (.int vc), .val (.ref b1), .val (.ref b3), .val (.ref b5), .val (.ref b7), .val (.int ((vb - vb) + (1 : Int32))), .val (.int ((vb - va) + (1 : Int32))), .unset, .unset]) rfl k) ?_
  show Go _ _ _ _ _ _ _ (T10.setTop (mkF m 90 #[.val (.int px), .val (.int py), .val (.int pz), .val (.int va), .val (.int vb), .val (.int vc), .val (.ref b1), .val (.ref b3), .val (.ref b5), .val (.ref b7), .val (.int ((vb - vb) + (1 : Int32))), .val (.int ((vb - va) + (1 : Int32))), .unset, .unset] []))
  refine Go.step (fun t k => XS.aload X10.here hx rfl (hb hby at_90) rfl rfl k) ?_
  show Go _ _ _ _ _ _ _ (T10.setTop (mkF m 92 #[.val (.int px), .val (.int py), .val (.int pz), .val (.int va), .val (.int vb), .val (.int vc), .val (.ref b1), .val (.ref b3), .val (.ref b5), .val (.ref b7), .val (.int ((vb - vb) + (1 : Int32))), .val (.int ((vb - va) + (1 : Int32))), .unset, .unset] [(.ref b5)]))
  obtain ⟨cq11, kq11, q11a, q11b, q11c⟩ := isOf hZ K10q E_b5
  obtain ⟨_, _, ⟨T11, L11, k11, n11⟩, -, X11, ⟨Lc11, hQ11, l11, y11, z11⟩, st11⟩ := X10.virtualBack hx (y := (⟨"com/example/tessera/tessera/crosswalk/Positions", "width", "()I"⟩ : MethodName)) (z := (⟨"com/example/tessera/tessera/crosswalk/Positions", "width", "()I"⟩ : MethodName)) hown (mvT hZ (hw _ (List.mem_of_getElem? (i := 19) rfl))) (mvT hZ (hw _ (List.mem_of_getElem? (i := 20) rfl))) (notFace_of_selects (args := #[]) (mvT hZ (hw _ (List.mem_of_getElem? (i := 22) rfl)))) (mvT hZ (hw _ (List.mem_of_getElem? (i := 22) rfl))) (mvT hZ (hw _ (List.mem_of_getElem? (i := 21) rfl))) (by decide) (backOf (W := 0) (rm4 l Z a0 hw [] b5 (vb + (1 : Int32)) vc T8.heap n0 Z8 F_first_b5 F_last_b5) hZ (hw _ (List.mem_of_getElem? (i := 23) rfl)) (hw _ (List.mem_of_getElem? (i := 3) rfl)) (by decide) (by decide)) q11a q11c (g := (mkF m 92 #[.val (.int px), .val (.int py), .val (.int pz), .val (.int va), .val (.int vb), .val (.int vc), .val (.ref b1), .val (.ref b3), .val (.ref b5), .val (.ref b7), .val (.int ((vb - vb) + (1 : Int32))), .val (.int ((vb - va) + (1 : Int32))), .unset, .unset] [(.ref b5)])) rfl (by rw [hml]; rfl) (Steps.refl _) (argsL := []) (rest := []) (lenOf pd_0_1 rfl) rfl (by show 2 * 0 + _ ≤ _; exact Nat.le_of_eq rfl) (hb hby at_92) (fun _ _ => ⟨rfl, K10q, (by decide : 4 + 0 ≤ _), (by decide : 8 + 0 ≤ _)⟩)
  dsimp only [Pt.U, Pt.locs, Pt.cells, Pt.slots] at X11 l11 y11 z11 st11 hQ11
  subst l11 y11 z11
  obtain ⟨rfl, N11q, K11q⟩ := hQ11
  have N11 := Fr.app N10 N11q
  refine Go.step (fun t k => st11.trans k) ?_
  show Go _ _ _ _ _ _ _ (T11.setTop (mkF m 95 #[.val (.int px), .val (.int py), .val (.int pz), .val (.int va), .val (.int vb), .val (.int vc), .val (.ref b1), .val (.ref b3), .val (.ref b5), .val (.ref b7), .val (.int ((vb - vb) + (1 : Int32))), .val (.int ((vb - va) + (1 : Int32))), .unset, .unset] [(.int ((vc - (vb + (1 : Int32))) + (1 : Int32)))]))
  refine Go.step (fun t k => XS.istore X11.here hx rfl (hb hby at_95) rfl (l' := #[.val (.int px), .val (.int py), .val (.int pz), .val (.int va), .val (.int vb), .val (.int vc), .val (.ref b1), .val (.ref b3), .val (.ref b5), .val (.ref b7), .val (.int ((vb - vb) + (1 : Int32))), .val (.int ((vb - va) + (1 : Int32))), .val (.int ((vc - (vb + (1 : Int32))) + (1 : Int32))), .unset]) rfl k) ?_
  show Go _ _ _ _ _ _ _ (T11.setTop (mkF m 97 #[.val (.int px), .val (.int py), .val (.int pz), .val (.int va), .val (.int vb), .val (.int vc), .val (.ref b1), .val (.ref b3), .val (.ref b5), .val (.ref b7), .val (.int ((vb - vb) + (1 : Int32))), .val (.int ((vb - va) + (1 : Int32))), .val (.int ((vc - (vb + (1 : Int32))) + (1 : Int32))), .unset] []))
  refine Go.step (fun t k => XS.aload X11.here hx rfl (hb hby at_97) rfl rfl k) ?_
  show Go _ _ _ _ _ _ _ (T11.setTop (mkF m 99 #[.val (.int px), .val (.int py), .val (.int pz), .val (.int va), .val (.int vb), .val (.int vc), .val (.ref b1), .val (.ref b3), .val (.ref b5), .val (.ref b7), .val (.int ((vb - vb) + (1 : Int32))), .val (.int ((vb - va) + (1 : Int32))), .val (.int ((vc - (vb + (1 : Int32))) + (1 : Int32))), .unset] [(.ref b7)]))
  obtain ⟨cq12, kq12, q12a, q12b, q12c⟩ := isOf hZ K11q E_b7
  obtain ⟨_, _, ⟨T12, L12, k12, n12⟩, -, X12, ⟨Lc12, hQ12, l12, y12, z12⟩, st12⟩ := X11.virtualBack hx (y := (⟨"com/example/tessera/tessera/crosswalk/Positions", "width", "()I"⟩ : MethodName)) (z := (⟨"com/example/tessera/tessera/crosswalk/Positions", "width", "()I"⟩ : MethodName)) hown (mvT hZ (hw _ (List.mem_of_getElem? (i := 19) rfl))) (mvT hZ (hw _ (List.mem_of_getElem? (i := 20) rfl))) (notFace_of_selects (args := #[]) (mvT hZ (hw _ (List.mem_of_getElem? (i := 22) rfl)))) (mvT hZ (hw _ (List.mem_of_getElem? (i := 22) rfl))) (mvT hZ (hw _ (List.mem_of_getElem? (i := 21) rfl))) (by decide) (backOf (W := 0) (rm4 l Z a0 hw [] b7 va vc T8.heap n0 Z8 F_first_b7 F_last_b7) hZ (hw _ (List.mem_of_getElem? (i := 23) rfl)) (hw _ (List.mem_of_getElem? (i := 3) rfl)) (by decide) (by decide)) q12a q12c (g := (mkF m 99 #[.val (.int px), .val (.int py), .val (.int pz), .val (.int va), .val (.int vb), .val (.int vc), .val (.ref b1), .val (.ref b3), .val (.ref b5), .val (.ref b7), .val (.int ((vb - vb) + (1 : Int32))), .val (.int ((vb - va) + (1 : Int32))), .val (.int ((vc - (vb + (1 : Int32))) + (1 : Int32))), .unset] [(.ref b7)])) rfl (by rw [hml]; rfl) (Steps.refl _) (argsL := []) (rest := []) (lenOf pd_0_1 rfl) rfl (by show 2 * 0 + _ ≤ _; exact Nat.le_of_eq rfl) (hb hby at_99) (fun _ _ => ⟨rfl, K11q, (by decide : 4 + 0 ≤ _), (by decide : 8 + 0 ≤ _)⟩)
  dsimp only [Pt.U, Pt.locs, Pt.cells, Pt.slots] at X12 l12 y12 z12 st12 hQ12
  subst l12 y12 z12
  obtain ⟨rfl, N12q, K12q⟩ := hQ12
  have N12 := Fr.app N11 N12q
  refine Go.step (fun t k => st12.trans k) ?_
  show Go _ _ _ _ _ _ _ (T12.setTop (mkF m 102 #[.val (.int px), .val (.int py), .val (.int pz), .val (.int va), .val (.int vb), .val (.int vc), .val (.ref b1), .val (.ref b3), .val (.ref b5), .val (.ref b7), .val (.int ((vb - vb) + (1 : Int32))), .val (.int ((vb - va) + (1 : Int32))), .val (.int ((vc - (vb + (1 : Int32))) + (1 : Int32))), .unset] [(.int ((vc - va) + (1 : Int32)))]))
  refine Go.step (fun t k => XS.istore X12.here hx rfl (hb hby at_102) rfl (l' := #[.val (.int px), .val (.int py), .val (.int pz), .val (.int va), .val (.int vb), .val (.int vc), .val (.ref b1), .val (.ref b3), .val (.ref b5), .val (.ref b7), .val (.int ((vb - vb) + (1 : Int32))), .val (.int ((vb - va) + (1 : Int32))), .val (.int ((vc - (vb + (1 : Int32))) + (1 : Int32))), .val (.int ((vc - va) + (1 : Int32)))]) rfl k) ?_
  show Go _ _ _ _ _ _ _ (T12.setTop (mkF m 104 #[.val (.int px), .val (.int py), .val (.int pz), .val (.int va), .val (.int vb), .val (.int vc), .val (.ref b1), .val (.ref b3), .val (.ref b5), .val (.ref b7), .val (.int ((vb - vb) + (1 : Int32))), .val (.int ((vb - va) + (1 : Int32))), .val (.int ((vc - (vb + (1 : Int32))) + (1 : Int32))), .val (.int ((vc - va) + (1 : Int32)))] []))
  refine Go.step (fun t k => XS.iload X12.here hx rfl (hb hby at_104) rfl k) ?_
  show Go _ _ _ _ _ _ _ (T12.setTop (mkF m 106 #[.val (.int px), .val (.int py), .val (.int pz), .val (.int va), .val (.int vb), .val (.int vc), .val (.ref b1), .val (.ref b3), .val (.ref b5), .val (.ref b7), .val (.int ((vb - vb) + (1 : Int32))), .val (.int ((vb - va) + (1 : Int32))), .val (.int ((vc - (vb + (1 : Int32))) + (1 : Int32))), .val (.int ((vc - va) + (1 : Int32)))] [(.int ((vb - vb) + (1 : Int32)))]))
  refine Go.step (fun t k => XS.iconst X12.here hx rfl (hb hby at_106) k) ?_
  show Go _ _ _ _ _ _ _ (T12.setTop (mkF m 107 #[.val (.int px), .val (.int py), .val (.int pz), .val (.int va), .val (.int vb), .val (.int vc), .val (.ref b1), .val (.ref b3), .val (.ref b5), .val (.ref b7), .val (.int ((vb - vb) + (1 : Int32))), .val (.int ((vb - va) + (1 : Int32))), .val (.int ((vc - (vb + (1 : Int32))) + (1 : Int32))), .val (.int ((vc - va) + (1 : Int32)))] [(.int (1 : Int32)), (.int ((vb - vb) + (1 : Int32)))]))
  refine Go.step (fun t k => XS.icmpNo X12.here hx rfl (hb hby at_107) rfl (teq ((own_all hva hvb hvc).1 : ((vb - vb) + (1 : Int32)) = (1 : Int32))).2 k) ?_
  show Go _ _ _ _ _ _ _ (T12.setTop (mkF m 110 #[.val (.int px), .val (.int py), .val (.int pz), .val (.int va), .val (.int vb), .val (.int vc), .val (.ref b1), .val (.ref b3), .val (.ref b5), .val (.ref b7), .val (.int ((vb - vb) + (1 : Int32))), .val (.int ((vb - va) + (1 : Int32))), .val (.int ((vc - (vb + (1 : Int32))) + (1 : Int32))), .val (.int ((vc - va) + (1 : Int32)))] []))
  refine Go.step (fun t k => XS.iload X12.here hx rfl (hb hby at_110) rfl k) ?_
  show Go _ _ _ _ _ _ _ (T12.setTop (mkF m 112 #[.val (.int px), .val (.int py), .val (.int pz), .val (.int va), .val (.int vb), .val (.int vc), .val (.ref b1), .val (.ref b3), .val (.ref b5), .val (.ref b7), .val (.int ((vb - vb) + (1 : Int32))), .val (.int ((vb - va) + (1 : Int32))), .val (.int ((vc - (vb + (1 : Int32))) + (1 : Int32))), .val (.int ((vc - va) + (1 : Int32)))] [(.int ((vb - va) + (1 : Int32)))]))
  refine Go.step (fun t k => XS.iconst X12.here hx rfl (hb hby at_112) k) ?_
  show Go _ _ _ _ _ _ _ (T12.setTop (mkF m 113 #[.val (.int px), .val (.int py), .val (.int pz), .val (.int va), .val (.int vb), .val (.int vc), .val (.ref b1), .val (.ref b3), .val (.ref b5), .val (.ref b7), .val (.int ((vb - vb) + (1 : Int32))), .val (.int ((vb - va) + (1 : Int32))), .val (.int ((vc - (vb + (1 : Int32))) + (1 : Int32))), .val (.int ((vc - va) + (1 : Int32)))] [(.int (1 : Int32)), (.int ((vb - va) + (1 : Int32)))]))
  refine Go.step (fun t k => XS.icmpNo X12.here hx rfl (hb hby at_113) rfl (flt ((own_all hva hvb hvc).2.1 : ¬ ((vb - va) + (1 : Int32)) < (1 : Int32))).1 k) ?_
  show Go _ _ _ _ _ _ _ (T12.setTop (mkF m 116 #[.val (.int px), .val (.int py), .val (.int pz), .val (.int va), .val (.int vb), .val (.int vc), .val (.ref b1), .val (.ref b3), .val (.ref b5), .val (.ref b7), .val (.int ((vb - vb) + (1 : Int32))), .val (.int ((vb - va) + (1 : Int32))), .val (.int ((vc - (vb + (1 : Int32))) + (1 : Int32))), .val (.int ((vc - va) + (1 : Int32)))] []))
  refine Go.step (fun t k => XS.iload X12.here hx rfl (hb hby at_116) rfl k) ?_
  show Go _ _ _ _ _ _ _ (T12.setTop (mkF m 118 #[.val (.int px), .val (.int py), .val (.int pz), .val (.int va), .val (.int vb), .val (.int vc), .val (.ref b1), .val (.ref b3), .val (.ref b5), .val (.ref b7), .val (.int ((vb - vb) + (1 : Int32))), .val (.int ((vb - va) + (1 : Int32))), .val (.int ((vc - (vb + (1 : Int32))) + (1 : Int32))), .val (.int ((vc - va) + (1 : Int32)))] [(.int ((vc - (vb + (1 : Int32))) + (1 : Int32)))]))
  refine Go.step (fun t k => XS.iconst X12.here hx rfl (hb hby at_118) k) ?_
  show Go _ _ _ _ _ _ _ (T12.setTop (mkF m 119 #[.val (.int px), .val (.int py), .val (.int pz), .val (.int va), .val (.int vb), .val (.int vc), .val (.ref b1), .val (.ref b3), .val (.ref b5), .val (.ref b7), .val (.int ((vb - vb) + (1 : Int32))), .val (.int ((vb - va) + (1 : Int32))), .val (.int ((vc - (vb + (1 : Int32))) + (1 : Int32))), .val (.int ((vc - va) + (1 : Int32)))] [(.int (1 : Int32)), (.int ((vc - (vb + (1 : Int32))) + (1 : Int32)))]))
  refine Go.step (fun t k => XS.icmpNo X12.here hx rfl (hb hby at_119) rfl (flt ((own_all hva hvb hvc).2.2.1 : ¬ ((vc - (vb + (1 : Int32))) + (1 : Int32)) < (1 : Int32))).1 k) ?_
  show Go _ _ _ _ _ _ _ (T12.setTop (mkF m 122 #[.val (.int px), .val (.int py), .val (.int pz), .val (.int va), .val (.int vb), .val (.int vc), .val (.ref b1), .val (.ref b3), .val (.ref b5), .val (.ref b7), .val (.int ((vb - vb) + (1 : Int32))), .val (.int ((vb - va) + (1 : Int32))), .val (.int ((vc - (vb + (1 : Int32))) + (1 : Int32))), .val (.int ((vc - va) + (1 : Int32)))] []))
  refine Go.step (fun t k => XS.iload X12.here hx rfl (hb hby at_122) rfl k) ?_
  show Go _ _ _ _ _ _ _ (T12.setTop (mkF m 124 #[.val (.int px), .val (.int py), .val (.int pz), .val (.int va), .val (.int vb), .val (.int vc), .val (.ref b1), .val (.ref b3), .val (.ref b5), .val (.ref b7), .val (.int ((vb - vb) + (1 : Int32))), .val (.int ((vb - va) + (1 : Int32))), .val (.int ((vc - (vb + (1 : Int32))) + (1 : Int32))), .val (.int ((vc - va) + (1 : Int32)))] [(.int ((vb - va) + (1 : Int32)))]))
  refine Go.step (fun t k => XS.iload X12.here hx rfl (hb hby at_124) rfl k) ?_
  show Go _ _ _ _ _ _ _ (T12.setTop (mkF m 126 #[.val (.int px), .val (.int py), .val (.int pz), .val (.int va), .val (.int vb), .val (.int vc), .val (.ref b1), .val (.ref b3), .val (.ref b5), .val (.ref b7), .val (.int ((vb - vb) + (1 : Int32))), .val (.int ((vb - va) + (1 : Int32))), .val (.int ((vc - (vb + (1 : Int32))) + (1 : Int32))), .val (.int ((vc - va) + (1 : Int32)))] [(.int ((vc - (vb + (1 : Int32))) + (1 : Int32))), (.int ((vb - va) + (1 : Int32)))]))
  refine Go.step (fun t k => XS.iadd X12.here hx rfl (hb hby at_126) rfl k) ?_
  show Go _ _ _ _ _ _ _ (T12.setTop (mkF m 127 #[.val (.int px), .val (.int py), .val (.int pz), .val (.int va), .val (.int vb), .val (.int vc), .val (.ref b1), .val (.ref b3), .val (.ref b5), .val (.ref b7), .val (.int ((vb - vb) + (1 : Int32))), .val (.int ((vb - va) + (1 : Int32))), .val (.int ((vc - (vb + (1 : Int32))) + (1 : Int32))), .val (.int ((vc - va) + (1 : Int32)))] [(.int (((vb - va) + (1 : Int32)) + ((vc - (vb + (1 : Int32))) + (1 : Int32))))]))
  refine Go.step (fun t k => XS.iload X12.here hx rfl (hb hby at_127) rfl k) ?_
  show Go _ _ _ _ _ _ _ (T12.setTop (mkF m 129 #[.val (.int px), .val (.int py), .val (.int pz), .val (.int va), .val (.int vb), .val (.int vc), .val (.ref b1), .val (.ref b3), .val (.ref b5), .val (.ref b7), .val (.int ((vb - vb) + (1 : Int32))), .val (.int ((vb - va) + (1 : Int32))), .val (.int ((vc - (vb + (1 : Int32))) + (1 : Int32))), .val (.int ((vc - va) + (1 : Int32)))] [(.int ((vc - va) + (1 : Int32))), (.int (((vb - va) + (1 : Int32)) + ((vc - (vb + (1 : Int32))) + (1 : Int32))))]))
  refine Go.step (fun t k => XS.icmpNo X12.here hx rfl (hb hby at_129) rfl (teq ((own_all hva hvb hvc).2.2.2 : (((vb - va) + (1 : Int32)) + ((vc - (vb + (1 : Int32))) + (1 : Int32))) = ((vc - va) + (1 : Int32)))).2 k) ?_
  show Go _ _ _ _ _ _ _ (T12.setTop (mkF m 132 #[.val (.int px), .val (.int py), .val (.int pz), .val (.int va), .val (.int vb), .val (.int vc), .val (.ref b1), .val (.ref b3), .val (.ref b5), .val (.ref b7), .val (.int ((vb - vb) + (1 : Int32))), .val (.int ((vb - va) + (1 : Int32))), .val (.int ((vc - (vb + (1 : Int32))) + (1 : Int32))), .val (.int ((vc - va) + (1 : Int32)))] []))
  refine Go.step (fun t k => XS.iconst X12.here hx rfl (hb hby at_132) k) ?_
  show Go _ _ _ _ _ _ _ (T12.setTop (mkF m 133 #[.val (.int px), .val (.int py), .val (.int pz), .val (.int va), .val (.int vb), .val (.int vc), .val (.ref b1), .val (.ref b3), .val (.ref b5), .val (.ref b7), .val (.int ((vb - vb) + (1 : Int32))), .val (.int ((vb - va) + (1 : Int32))), .val (.int ((vc - (vb + (1 : Int32))) + (1 : Int32))), .val (.int ((vc - va) + (1 : Int32)))] [(.int (1 : Int32))]))
  refine Go.step (fun t k => XS.goto X12.here hx rfl (pc0 := 133) (pc' := 137) rfl (hb hby at_133) (by decide) (by decide) k) ?_
  show Go _ _ _ _ _ _ _ (T12.setTop (mkF m 137 #[.val (.int px), .val (.int py), .val (.int pz), .val (.int va), .val (.int vb), .val (.int vc), .val (.ref b1), .val (.ref b3), .val (.ref b5), .val (.ref b7), .val (.int ((vb - vb) + (1 : Int32))), .val (.int ((vb - va) + (1 : Int32))), .val (.int ((vc - (vb + (1 : Int32))) + (1 : Int32))), .val (.int ((vc - va) + (1 : Int32)))] [(.int (1 : Int32))]))
  refine Go.retN X12 Bd.notSynchronized hx (t := .boolean) Bd.returns (by simp) (hb hby at_137) (by decide) (by decide) (1 : Int32) rfl ?_
  rw [K12q]
  exact ⟨rfl, N12⟩
set_option maxRecDepth 65536 in
set_option maxHeartbeats 40000000 in
theorem comes_1 {Post : Tables → Env → Array Value → State → Outcome → State → Prop} (hpost : ∀ tb e args s v u, (limb_1_1.after args s (.returned v) u = true ∧ limb_1_2.after args s (.returned v) u = true ∧ True) → FrameEnd s (.returned v) u (Jvm.fieldLocs frame_1_writes args s ++ Jvm.arrayLocs frame_1_arrays args s ++ Jvm.staticLocs frame_1_statics s) 16 128 → Post tb e args s (.returned v) u) :
    ArmFor flags0 classFile x code maxLocals ret World_1 tables_1 room_1 Calls_1 rest_1 Pre_1 Post := by
  intro l hfl _ _ p e ha hc hk s m args below hf hA hF happ hP
  obtain ⟨hcalls, hrest, hpre⟩ := hP
  obtain ⟨-, -, -, hnamed, -, -, -, hat⟩ := (Spec.applies_iff hf).mp happ
  obtain ⟨hg, hn⟩ := and_e (Cond.before_iff.mp (show (Jvm.Cond.and given_1 narrow_1).before args s = true from hpre))
  obtain ⟨gv1, gv2⟩ := and_e hg
  obtain ⟨gv3, gv4⟩ := and_e gv2
  obtain ⟨gv5, gv6⟩ := and_e gv4
  obtain ⟨w0, w1, w2, rfl⟩ : ∃ w0 w1 w2 : Value, args = #[w0, w1, w2] := by
    have hs : args.size = 3 := by simpa [Cond.value, given_1] using gv1
    obtain ⟨L⟩ := args
    match L, hs with
    | [w0, w1, w2], _ => exact ⟨w0, w1, w2, rfl⟩
  have hw := fun d (hd : d ∈ tables_1) => atoms_spec (ws := Jvm.Cond.code x code maxLocals ret :: tables_1) hat d (List.mem_cons_of_mem _ hd)
  have hfit : Fit s := fun {y c} hc i hi => by
    obtain ⟨ha, rfl⟩ := Array.getElem?_eq_some_iff.mp hc
    have q := List.all_eq_true.mp ((Array.all_eq_true_iff_forall_mem.mp hF) _ (Array.getElem_mem ha)) i (List.mem_range.mpr hi)
    simpa [Array.getElem?_eq_getElem hi] using q
  obtain ⟨i0, ei0⟩ := is_v gv3
  obtain rfl : w0 = (.int i0) := Option.some.inj ei0
  obtain ⟨i1, ei1⟩ := is_v gv5
  obtain rfl : w1 = (.int i1) := Option.some.inj ei1
  obtain ⟨i2, ei2⟩ := is_v gv6
  obtain rfl : w2 = (.int i2) := Option.some.inj ei2
  obtain ⟨n, o, h1, h2, h3, _, L, rfl, ⟨rfl, N⟩, hq⟩ := rm0 l s _ hw tables_1 i0 i1 i2 s.heap s.heap.size (Nat.le_refl _) p e ha hc hk s m _ below hf ((Spec.applies_iff_loose hf).mp happ).1 ⟨rfl, State.Warmed39.refl s, rfl⟩ trivial
  refine ⟨n, _, h1, h2, h3, hpost _ _ _ _ _ _ ⟨Cond.after_iff.mpr rfl, Cond.after_iff.mpr (eq_i res_at (Term.int_eval (1)) rfl), trivial⟩ ⟨hq.1, hq.2.1, (hq.2.2.sift fun y hy => Or.inr (N y hy)).mono (by decide) (by decide)⟩⟩
theorem main_1_1 : Claimed_1_1 := comes_1 fun _ _ _ _ _ _ h hF => ⟨h.1, hF⟩
theorem main_1_2 : Claimed_1_2 := comes_1 fun _ _ _ _ _ _ h hF => ⟨h.2.1, hF⟩
end Jvm.Pilot.@@N@@
namespace Jvm.Pilot.@@N@@
open Jvm Jvm.ClassFile Sem Op Lib Jvm.Free Jvm.Stand Jvm.Pilot.@@N@@.Jvm.D
/-! MADE BY PROGRAM (witnessworld.py) out of the Statement's table words and the real class files: 10 classes; the members and pool entries that the words name. The judged class is class 1, her method 1. -/
namespace start1
open Jvm.ClassFile
def u (s : String) : CpInfo := .utf8 (stringToUtf16 s)
/-- a pool by its gaps: so many unusable entries, then the entry; so many at the end -/
def gap : Nat → List CpInfo → List CpInfo
  | 0, r => r
  | n + 1, r => .unusable :: gap n r
def poolList (es : List (Nat × CpInfo)) (last : Nat) : List CpInfo := es.foldr (fun e r => gap e.1 (e.2 :: r)) (gap last [])
def pool (es : List (Nat × CpInfo)) (last : Nat) : Array CpInfo := ⟨poolList es last⟩
def fileOf (pool : Array CpInfo) (this : Nat) (attrs : Array Attribute := #[]) (ms : Array MethodInfo := #[]) (fl : Nat := 33) (sup : Nat := 0) (ifs : Array Nat := #[]) (fds : Array FieldInfo := #[]) : ClassFile where
  minorVersion := 0
  majorVersion := 65
  constantPool := pool
  accessFlags := fl
  thisClass := this
  superClass := sup
  interfaces := ifs
  fields := fds
  methods := ms
  attributes := attrs
def plain (name : String) (sup : Option ClassId) : Class where
  name := name
  kind := .ordinary
  loader := none
  accessFlags := 33
  super := sup
  interfaces := #[]
  cf := none
  fields := #[]
  methods := #[]
  instanceTypes := #[]
  staticTypes := #[]
  resolved := #[]
  callSites := []
  init := .initialized
  statics := none
  mirror := none

def pool0 : Array CpInfo := pool [(5, u "<init>"), (0, u "()V"), (1, .class_ 10), (1, u "java/lang/Object")] 113

def k0c0 : Code := { maxStack := 0, maxLocals := 1, code := object_method_1_code, exceptionTable := #[], attributes := #[] }
def k0m0 : Method := { name := "<init>", desc := "()V", sig := { parameters := [], returnType := none }, accessFlags := 1, code := some k0c0 }
/-- java/lang/Object -/
def k0 : Class := { plain "java/lang/Object" none with
  accessFlags := 33
  interfaces := #[]
  cf := some (fileOf pool0 8 #[] #[{ accessFlags := 1, nameIndex := 5, descriptorIndex := 6, attributes := #[] }] 33 0 #[] #[])
  fields := #[]
  methods := #[k0m0]
  instanceTypes := #[]
  staticTypes := #[]
  resolved := Array.replicate 124 none
  statics := none }

def pool1 : Array CpInfo := pool [(2, .class_ 4), (1, u "java/lang/Object"), (0, u "<init>"), (0, u "()V"), (0, .integer 536870911), (0, .class_ 9), (0, u "com/example/tessera/tessera/crosswalk/Positions"), (0, .methodref 8 11), (0, .nameAndType 5 12), (0, u "(II)V"), (0, .methodref 8 14), (0, .nameAndType 15 16), (0, u "width"), (0, u "()I"), (0, .class_ 18), (0, u "com/example/tessera/tessera/crosswalk/PositionsWidthPinLaw"), (2, u "law"), (0, u "(III)Z")] 3

def k1m0 : Method := { name := "<init>", desc := "()V", sig := { parameters := [], returnType := none }, accessFlags := 1, code := none }
def k1c1 : Code := { maxStack := 4, maxLocals := 14, code := code, exceptionTable := #[], attributes := #[] }
def k1m1 : Method := { name := "law", desc := "(III)Z", sig := { parameters := [.int, .int, .int], returnType := some .boolean }, accessFlags := 9, code := some k1c1 }
/-- com/example/tessera/tessera/crosswalk/PositionsWidthPinLaw -/
def k1 : Class := { plain "com/example/tessera/tessera/crosswalk/PositionsWidthPinLaw" (some 0) with
  accessFlags := 49
  interfaces := #[]
  cf := some (fileOf pool1 17 #[] #[{ accessFlags := 1, nameIndex := 5, descriptorIndex := 6, attributes := #[] }, { accessFlags := 9, nameIndex := 21, descriptorIndex := 22, attributes := #[] }] 49 2 #[] #[])
  fields := #[]
  methods := #[k1m0, k1m1]
  instanceTypes := #[]
  staticTypes := #[]
  resolved := Array.replicate 26 none
  statics := none }

def pool2 : Array CpInfo := pool [(1, .methodref 2 3), (0, .class_ 4), (0, .nameAndType 5 6), (0, u "java/lang/Object"), (0, u "<init>"), (0, u "()V"), (0, .class_ 8), (0, u "java/lang/Record")] 13

def k2c0 : Code := { maxStack := 1, maxLocals := 1, code := jdk_30_method_1_code, exceptionTable := #[], attributes := #[] }
def k2m0 : Method := { name := "<init>", desc := "()V", sig := { parameters := [], returnType := none }, accessFlags := 4, code := some k2c0 }
/-- java/lang/Record -/
def k2 : Class := { plain "java/lang/Record" (some 0) with
  accessFlags := 1057
  interfaces := #[]
  cf := some (fileOf pool2 7 #[] #[{ accessFlags := 4, nameIndex := 5, descriptorIndex := 6, attributes := #[] }] 1057 2 #[] #[])
  fields := #[]
  methods := #[k2m0]
  instanceTypes := #[]
  staticTypes := #[]
  resolved := Array.replicate 22 none
  statics := none }

def pool3 : Array CpInfo := pool [(1, .methodref 2 3), (0, .class_ 4), (0, .nameAndType 5 6), (0, u "java/lang/Record"), (0, u "<init>"), (0, u "()V"), (0, .fieldref 8 9), (0, .class_ 10), (0, .nameAndType 11 12), (0, u "com/example/tessera/tessera/crosswalk/Positions"), (0, u "first"), (0, u "I"), (0, .fieldref 8 14), (0, .nameAndType 15 12), (0, u "last"), (5, u "()I"), (26, u "(II)V"), (3, u "width")] 27

def k3c0 : Code := { maxStack := 2, maxLocals := 3, code := prog_8_method_1_code, exceptionTable := #[], attributes := #[] }
def k3m0 : Method := { name := "<init>", desc := "(II)V", sig := { parameters := [.int, .int], returnType := none }, accessFlags := 0, code := some k3c0 }
def k3c1 : Code := { maxStack := 2, maxLocals := 1, code := prog_8_method_2_code, exceptionTable := #[], attributes := #[] }
def k3m1 : Method := { name := "width", desc := "()I", sig := { parameters := [], returnType := some .int }, accessFlags := 0, code := some k3c1 }
/-- com/example/tessera/tessera/crosswalk/Positions -/
def k3 : Class := { plain "com/example/tessera/tessera/crosswalk/Positions" (some 2) with
  accessFlags := 48
  interfaces := #[]
  cf := some (fileOf pool3 8 #[] #[{ accessFlags := 0, nameIndex := 5, descriptorIndex := 48, attributes := #[] }, { accessFlags := 0, nameIndex := 52, descriptorIndex := 21, attributes := #[] }] 48 2 #[] #[{ accessFlags := 18, nameIndex := 11, descriptorIndex := 12, attributes := #[] }, { accessFlags := 18, nameIndex := 15, descriptorIndex := 12, attributes := #[] }])
  fields := #[{ name := "first", type := .int, accessFlags := 18, slot := 0, constantValue := 0 }, { name := "last", type := .int, accessFlags := 18, slot := 1, constantValue := 0 }]
  methods := #[k3m0, k3m1]
  instanceTypes := #[.int, .int]
  staticTypes := #[]
  resolved := Array.replicate 80 none
  statics := none }

def pool4 : Array CpInfo := pool [(1, u "java/lang/Cloneable"), (0, .class_ 1), (0, u "java/lang/Object"), (0, .class_ 3)] 3

/-- java/lang/Cloneable -/
def k4 : Class := { plain "java/lang/Cloneable" (some 0) with
  accessFlags := 1537
  interfaces := #[]
  cf := some (fileOf pool4 2 #[] #[] 1537 4 #[] #[])
  fields := #[]
  methods := #[]
  instanceTypes := #[]
  staticTypes := #[]
  resolved := Array.replicate 8 none
  statics := none }

def pool5 : Array CpInfo := pool [(1, u "java/io/Serializable"), (0, .class_ 1), (0, u "java/lang/Object"), (0, .class_ 3)] 3

/-- java/io/Serializable -/
def k5 : Class := { plain "java/io/Serializable" (some 0) with
  accessFlags := 1537
  interfaces := #[]
  cf := some (fileOf pool5 2 #[] #[] 1537 4 #[] #[])
  fields := #[]
  methods := #[]
  instanceTypes := #[]
  staticTypes := #[]
  resolved := Array.replicate 8 none
  statics := none }

/-- the primitive byte -/
def k6 : Class := { plain "byte" none with kind := .primitive 'B', accessFlags := 0x411 }
/-- [B -/
def k7 : Class := { plain "[B" (some 0) with kind := .array 6 .byte, interfaces := #[4, 5], accessFlags := 1041 }

/-- the primitive int -/
def k8 : Class := { plain "int" none with kind := .primitive 'I', accessFlags := 0x411 }
/-- [I -/
def k9 : Class := { plain "[I" (some 0) with kind := .array 8 .int, interfaces := #[4, 5], accessFlags := 1041 }

def heap : Heap := #[]
def classes : Array Class := #[k0, k1, k2, k3, k4, k5, k6, k7, k8, k9]
def interned : List (Array UInt16 × Addr) := []
def slotsUsed : Nat := 0
def theMethod : MethodId := ⟨1, 1⟩
def args0 : Array Value := #[.int 5, .int 7, .int 9]
def aboutOver (below : List Frame) : State where
  vm := { classes := classes, interned := interned.toArray }
  heap := heap
  slotsUsed := slotsUsed
  threads := #[{ frames := .invoking theMethod args0 :: below }]
def below0 : List Frame := [.native { method := ⟨0, 0⟩, args := #[] }]
def about1 : State := aboutOver below0
def p0 : Program := .bare "" "" ""
def e0 : Env := launch0.env 0 0 0
theorem w_frames : about1.frames = Frame.invoking theMethod args0 :: below0 := rfl
set_option maxRecDepth 65536 in
theorem w_args : argsFit about1.vm theMethod args0 = true := by decide +kernel
set_option maxRecDepth 65536 in
theorem w_heap : heapFits about1 = true := by decide +kernel
set_option maxRecDepth 65536 in
theorem w_runnable : about1.curStatus? = some .runnable := by decide +kernel
set_option maxRecDepth 65536 in
theorem w_alone : about1.alone = true := by decide +kernel
set_option maxRecDepth 65536 in
theorem w_named : about1.methodNamed? x = some theMethod := by decide +kernel
set_option maxRecDepth 65536 in
theorem w_hears : about1.hears theMethod below0 = true := by decide +kernel
set_option maxRecDepth 65536 in
theorem w_ripe : about1.ripe theMethod args0 below0 = true := by decide +kernel
theorem w_running : about1.status = .running := rfl
set_option maxRecDepth 65536 in
theorem w_room : about1.hasRoom e0.platform room_1 = true :=
  launch0.hasRoom_least _ room_1 (by decide +kernel) (by decide +kernel) (by decide +kernel) (by decide +kernel) (by decide +kernel) (by decide +kernel)
theorem allAtoms_all (ts : List Jvm.Cond) (a : Array Jvm.Value) (st : Jvm.State) : (allAtoms ts).before a st = ts.all (fun c => c.before a st) := by
  induction ts with
  | nil => rfl
  | cons c t ih =>
    show (Jvm.Cond.and c (allAtoms t)).before a st = _
    rw [Jvm.Cond.before_and, ih, List.all_cons]
def words1 : List Jvm.Cond := Jvm.Cond.code x code maxLocals ret :: tables_1
/-- a 'code' word, met by the world's own term for the bytes: nothing is compared byte by byte -/
theorem code_word {y : MethodName} {bytes : ByteArray} {mx : Nat} {rt : Option FieldType} {a : Array Value} {s : State} {m : MethodId} {meth : Method} {c : Code} (h1 : s.methodNamed? y = some m) (h2 : s.vm.method? m = some meth) (h3 : meth.code = some c) (h4 : c.code = bytes)
    (h5 : (c.maxLocals == mx && c.exceptionTable.isEmpty && decide (c.maxStack ≤ mostOperands) && decide (meth.sig.returnType = rt) && !meth.locks && decide (parseMethodDescriptor y.desc = some meth.sig)) = true) : (Jvm.Cond.code y bytes mx rt).before a s = true := by
  simp only [Bool.and_eq_true, beq_iff_eq, Bool.not_eq_true', decide_eq_true_eq] at h5
  obtain ⟨⟨⟨⟨⟨g1, g2⟩, g3⟩, g4⟩, g5⟩, g6⟩ := h5
  simp [Cond.before, Cond.holds, Cond.value, h1, h2, h3, h4, g1, g2, g3, g4, g5, g6]
def isCode : Jvm.Cond → Bool
  | .code _ _ _ _ => true
  | _ => false
theorem all_split {L : List Jvm.Cond} {P : Jvm.Cond → Bool} (h1 : L.all (fun c => isCode c || P c) = true) (h2 : ∀ c ∈ L.filter isCode, P c = true) : L.all P = true := by
  refine List.all_eq_true.mpr fun c hc => ?_
  have h := List.all_eq_true.mp h1 c hc
  rcases Bool.eq_false_or_eq_true (isCode c) with hi | hi
  · exact h2 c (List.mem_filter.mpr ⟨hc, hi⟩)
  · simpa [hi] using h
set_option maxRecDepth 65536 in
theorem w_c0 : (Jvm.Cond.code x code maxLocals ret).before args0 about1 = true := code_word (m := ⟨1, 1⟩) (meth := k1m1) (c := k1c1) (by decide +kernel) rfl rfl rfl (by decide +kernel)
set_option maxRecDepth 65536 in
theorem w_c1 : (Jvm.Cond.code ({ cls := "com/example/tessera/tessera/crosswalk/Positions", name := "<init>", desc := "(II)V" } : Jvm.MethodName) prog_8_method_1_code (3 : Nat) (Option.none : Option Jvm.ClassFile.FieldType)).before args0 about1 = true := code_word (m := ⟨3, 0⟩) (meth := k3m0) (c := k3c0) (by decide +kernel) rfl rfl rfl (by decide +kernel)
set_option maxRecDepth 65536 in
theorem w_c2 : (Jvm.Cond.code ({ cls := "java/lang/Record", name := "<init>", desc := "()V" } : Jvm.MethodName) jdk_30_method_1_code (1 : Nat) (Option.none : Option Jvm.ClassFile.FieldType)).before args0 about1 = true := code_word (m := ⟨2, 0⟩) (meth := k2m0) (c := k2c0) (by decide +kernel) rfl rfl rfl (by decide +kernel)
set_option maxRecDepth 65536 in
theorem w_c3 : (Jvm.Cond.code ({ cls := "java/lang/Object", name := "<init>", desc := "()V" } : Jvm.MethodName) object_method_1_code (1 : Nat) (Option.none : Option Jvm.ClassFile.FieldType)).before args0 about1 = true := code_word (m := ⟨0, 0⟩) (meth := k0m0) (c := k0c0) (by decide +kernel) rfl rfl rfl (by decide +kernel)
set_option maxRecDepth 65536 in
theorem w_c4 : (Jvm.Cond.code ({ cls := "com/example/tessera/tessera/crosswalk/Positions", name := "width", desc := "()I" } : Jvm.MethodName) prog_8_method_2_code (1 : Nat) (Option.some Jvm.ClassFile.FieldType.int)).before args0 about1 = true := code_word (m := ⟨3, 1⟩) (meth := k3m1) (c := k3c1) (by decide +kernel) rfl rfl rfl (by decide +kernel)
def codes1 : List Jvm.Cond := [Jvm.Cond.code x code maxLocals ret, Jvm.Cond.code ({ cls := "com/example/tessera/tessera/crosswalk/Positions", name := "<init>", desc := "(II)V" } : Jvm.MethodName) prog_8_method_1_code (3 : Nat) (Option.none : Option Jvm.ClassFile.FieldType), Jvm.Cond.code ({ cls := "java/lang/Record", name := "<init>", desc := "()V" } : Jvm.MethodName) jdk_30_method_1_code (1 : Nat) (Option.none : Option Jvm.ClassFile.FieldType), Jvm.Cond.code ({ cls := "java/lang/Object", name := "<init>", desc := "()V" } : Jvm.MethodName) object_method_1_code (1 : Nat) (Option.none : Option Jvm.ClassFile.FieldType), Jvm.Cond.code ({ cls := "com/example/tessera/tessera/crosswalk/Positions", name := "width", desc := "()I" } : Jvm.MethodName) prog_8_method_2_code (1 : Nat) (Option.some Jvm.ClassFile.FieldType.int)]
set_option maxRecDepth 65536 in
theorem codes_eq : words1.filter isCode = codes1 := rfl
theorem w_codes : ∀ c ∈ words1.filter isCode, c.before args0 about1 = true := by
  rw [codes_eq]
  intro c hc
  simp only [codes1, List.mem_cons, List.not_mem_nil, or_false] at hc
  rcases hc with rfl | rfl | rfl | rfl | rfl
  · exact w_c0
  · exact w_c1
  · exact w_c2
  · exact w_c3
  · exact w_c4
set_option maxRecDepth 65536 in
theorem w_t1 : (words1.take 24).all (fun c => isCode c || c.before args0 about1) = true := by decide +kernel
set_option maxRecDepth 65536 in
theorem w_t2 : (words1.drop 24).all (fun c => isCode c || c.before args0 about1) = true := by decide +kernel
theorem w_tables : (allAtoms (Jvm.Cond.code x code maxLocals ret :: tables_1)).before args0 about1 = true := by
  rw [allAtoms_all]
  show words1.all (fun c => c.before args0 about1) = true
  refine all_split ?_ w_codes
  rw [← List.take_append_drop 24 words1, List.all_append, w_t1, w_t2]
  rfl
set_option maxRecDepth 65536 in
theorem w_case : (Jvm.Cond.and given_1 narrow_1).before args0 about1 = true := by decide +kernel
theorem w_applies : (headSpec (Jvm.Cond.code x code maxLocals ret :: tables_1) room_1).applies x e0.platform about1 = true :=
  (Spec.applies_iff w_frames).mpr ⟨w_running, w_runnable, w_alone, w_named, w_hears, w_ripe, w_room, w_tables⟩
theorem atStart : AtStart classFile x code maxLocals ret World_1 tables_1 room_1 Calls_1 rest_1 Pre_1 launch0 p0 e0 about1 theMethod args0 below0 :=
  ⟨lists_1, trivial, launch0.admits_env _ _ _, launch0.least_env, fairChoices_fair.cas, fairChoices_fair.clock, w_frames, w_args, w_heap, w_applies, trivial, trivial, w_case⟩
end start1
theorem witness_1 : WitnessClaimed_1 := ⟨start1.p0, start1.e0, start1.about1, start1.theMethod, start1.args0, start1.below0, start1.atStart⟩
end Jvm.Pilot.@@N@@
