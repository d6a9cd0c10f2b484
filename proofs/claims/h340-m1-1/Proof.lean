import JvmDerived
import JvmDerived.Pilot.@@N@@Statement
import JvmDerived.Pilot.@@N@@Code
set_option linter.unusedVariables false
set_option linter.unusedSimpArgs false
namespace Jvm.Pilot.@@N@@
open Jvm Jvm.ClassFile Sem Op Lib Jvm.Free Jvm.Stand Jvm.LawKit Jvm.RoadKit Bundle Jvm.Pilot.@@N@@.Jvm.D
section Own
variable {p : Program} {l : Launch} {e : Env} {R : Room} {s : State} {m : MethodId} {args : Array Value} {below : List Frame} {meth : Method} {c : Code} {T : State} {locs : List Loc} {cells slots : Nat} {Z : State} {h h' : Heap} {a b : Addr}
/-- from the state σ the run comes to a return that meets Qk -/
def Go (p : Program) (e : Env) (below : List Frame) (s : State) (Qk : Option Value → Heap → List Loc → Prop) (C S : Nat) (σ : State) : Prop :=
  ∃ s₂ o, Steps p.tables e below σ s₂ ∧ s₂.status = .running ∧ Ended s₂ below o ∧ ∃ v L, o = .returned v ∧ Qk v s₂.heap L ∧ FrameEnd s o s₂ L C S
variable {Qk : Option Value → Heap → List Loc → Prop} {C S : Nat}
theorem Go.step {σ σ' : State} (hs : ∀ t, Steps p.tables e below σ' t → Steps p.tables e below σ t) (k : Go p e below s Qk C S σ') : Go p e below s Qk C S σ := by
  obtain ⟨s₂, o, h1, r⟩ := k
  exact ⟨s₂, o, hs _ h1, r⟩
theorem Go.retV (X : Stand p l e R s m args below meth c T locs cells slots) (hlk : meth.locks = false) (hx : p.tables.exec = Jvm.exec) {pc : Nat} {Ls : Array Slot} (hret : meth.sig.returnType = none) (hd : decode c.code pc = .ok (.return_, 1)) (hc : cells ≤ C) (hs : slots ≤ S) (hQ : Qk none T.heap locs) :
    Go p e below s Qk C S (T.setTop (mkF m pc Ls [])) := by
  obtain ⟨fs, hr, hrun, hended, hW, hsame⟩ := X.leave (v := none) (fun _ => rfl) hlk
  exact ⟨_, _, X.returnOut hx hret hd hr, hrun, hended, _, _, rfl, hQ, ⟨_, rfl⟩, hW, hsame.mono hc hs⟩
theorem Go.retW (X : Stand p l e R s m args below meth c T locs cells slots) (hlk : meth.locks = false) (hx : p.tables.exec = Jvm.exec) {pc : Nat} {Ls : Array Slot} {w : Value} {t : FieldType} {i : Instr} {rest : List Value} (hret : meth.sig.returnType = some t) (hn : narrow t w = w)
    (hi : (i = .ireturn ∧ (t = .int ∨ t = .boolean ∨ t = .byte ∨ t = .char ∨ t = .short) ∧ ∃ z, w = .int z) ∨ (i = .lreturn ∧ t = .long ∧ ∃ z, w = .long z) ∨ (i = .dreturn ∧ t = .double ∧ ∃ z, w = .double z) ∨ (i = .freturn ∧ t = .float ∧ ∃ z, w = .float z) ∨ (i = .areturn ∧ t.isReference = true ∧ w.isRef = true))
    (hd : decode c.code pc = .ok (i, 1)) (hc : cells ≤ C) (hs : slots ≤ S) (hQ : Qk (some w) T.heap locs) :
    Go p e below s Qk C S (T.setTop (mkF m pc Ls (w :: rest))) := by
  obtain ⟨fs, hr, hrun, hended, hW, hsame⟩ := X.leave (v := some w) (fun q => by rw [hret] at q; cases q) hlk
  exact ⟨_, _, retOut X hx hret hn hi hd hr, hrun, hended, _, _, rfl, hQ, ⟨_, rfl⟩, hW, hsame.mono hc hs⟩
theorem Go.retI (X : Stand p l e R s m args below meth c T locs cells slots) (hlk : meth.locks = false) (hx : p.tables.exec = Jvm.exec) {pc : Nat} {Ls : Array Slot} {z : Int32} {rest : List Value} (hret : meth.sig.returnType = some .int) (hd : decode c.code pc = .ok (.ireturn, 1)) (hc : cells ≤ C) (hs : slots ≤ S) (hQ : Qk (some (.int z)) T.heap locs) :
    Go p e below s Qk C S (T.setTop (mkF m pc Ls (.int z :: rest))) :=
  Go.retW X hlk hx hret rfl (Or.inl ⟨rfl, Or.inl rfl, z, rfl⟩) hd hc hs hQ
theorem Go.retJ (X : Stand p l e R s m args below meth c T locs cells slots) (hlk : meth.locks = false) (hx : p.tables.exec = Jvm.exec) {pc : Nat} {Ls : Array Slot} {z : Int64} {rest : List Value} (hret : meth.sig.returnType = some .long) (hd : decode c.code pc = .ok (.lreturn, 1)) (hc : cells ≤ C) (hs : slots ≤ S) (hQ : Qk (some (.long z)) T.heap locs) :
    Go p e below s Qk C S (T.setTop (mkF m pc Ls (.long z :: rest))) :=
  Go.retW X hlk hx hret rfl (Or.inr (Or.inl ⟨rfl, rfl, z, rfl⟩)) hd hc hs hQ
theorem Go.retA (X : Stand p l e R s m args below meth c T locs cells slots) (hlk : meth.locks = false) (hx : p.tables.exec = Jvm.exec) {pc : Nat} {Ls : Array Slot} {w : Value} {t : FieldType} {rest : List Value} (hret : meth.sig.returnType = some t) (hn : narrow t w = w) (ht : t.isReference = true) (hw : w.isRef = true) (hd : decode c.code pc = .ok (.areturn, 1)) (hc : cells ≤ C) (hs : slots ≤ S) (hQ : Qk (some w) T.heap locs) :
    Go p e below s Qk C S (T.setTop (mkF m pc Ls (w :: rest))) :=
  Go.retW X hlk hx hret hn (Or.inr (Or.inr (Or.inr (Or.inr ⟨rfl, ht, hw⟩)))) hd hc hs hQ
theorem Go.retN (X : Stand p l e R s m args below meth c T locs cells slots) (hlk : meth.locks = false) (hx : p.tables.exec = Jvm.exec) {pc : Nat} {Ls : Array Slot} {z : Int32} {t : FieldType} {rest : List Value} (hret : meth.sig.returnType = some t) (ht : t = .boolean ∨ t = .byte ∨ t = .char ∨ t = .short) (hd : decode c.code pc = .ok (.ireturn, 1)) (hc : cells ≤ C) (hs : slots ≤ S) (z' : Int32) (hz : nar t z = z') (hQ : Qk (some (.int z')) T.heap locs) :
    Go p e below s Qk C S (T.setTop (mkF m pc Ls (.int z :: rest))) := by
  subst hz
  obtain ⟨fs, hr, hrun, hended, hW, hsame⟩ := X.leave (v := some (.int (nar t z))) (fun q => by rw [hret] at q; cases q) hlk
  exact ⟨_, _, Jvm.RoadKit.retN X hx hret ht hd hr, hrun, hended, _, _, rfl, hQ, ⟨_, rfl⟩, hW, hsame.mono hc hs⟩
theorem own_narb {P : Prop} [Decidable P] : nar .boolean (if P then (1 : Int32) else (0 : Int32)) = (if P then (1 : Int32) else (0 : Int32)) := by split <;> rfl
theorem own_narb01 {z : Int32} (h : z = 0 ∨ z = 1) : nar .boolean z = z := by rcases h with rfl | rfl <;> rfl
/-- a function turned at one place -/
def up {α : Type} (f : Nat → α) (k : Nat) (v : α) : Nat → α := fun i => if i = k then v else f i
theorem up_same {α : Type} (f : Nat → α) (k : Nat) (v : α) : up f k v k = v := if_pos rfl
theorem up_ne {α : Type} (f : Nat → α) {k i : Nat} (v : α) (q : i ≠ k) : up f k v i = f i := if_neg q
/-- an array of n places; place i holds g i -/
def Ary (Z : State) (h : Heap) (a : Addr) (ty : FieldType) (n : Nat) (g : Nat → Value) : Prop := ∃ c : Cell, Arr Z h a c ty ∧ c.slots.size = n ∧ n < 2 ^ 31 ∧ ∀ i, i < n → c.slots[i]? = some (g i)
variable {ty : FieldType} {n : Nat} {g : Nat → Value}
theorem Ary.lt (F : Ary Z h a ty n g) : a < h.size := by obtain ⟨c, A, -⟩ := F; exact A.lt
theorem Ary.ext (F : Ary Z h a ty n g) (E : Ext h h') : Ary Z h' a ty n g := by obtain ⟨c, A, r⟩ := F; exact ⟨c, A.ext E, r⟩
theorem Ary.other {sl : Nat} {v : Value} (F : Ary Z h b ty n g) (W : Wr h h' a sl v) (q : b ≠ a) : Ary Z h' b ty n g := by obtain ⟨c, A, r⟩ := F; exact ⟨c, A.other W q, r⟩
theorem Ary.keep {ws : List Addr} (F : Ary Z h a ty n g) (K : Keep h h' ws) (q : a ∉ ws) : Ary Z h' a ty n g := by obtain ⟨c, A, r⟩ := F; exact ⟨c, ⟨K.2.1 a c A.1 q, A.2⟩, r⟩
theorem Ary.set {k : Nat} {v : Value} (F : Ary Z h a ty n g) (W : Wr h h' a k v) : Ary Z h' a ty n (up g k v) := by
  obtain ⟨c, A, S, B, H⟩ := F
  refine ⟨_, A.same W, by rw [sz_set]; exact S, B, fun i hi => ?_⟩
  by_cases q : k = i
  · subst q; rw [up_same]; simp [Cell.setSlot, S, hi]
  · rw [up_ne _ _ (Ne.symm q), ← H i hi]; simp only [Cell.setSlot]; rw [Array.getElem?_setIfInBounds_ne q]
theorem Ary.new {k : ClassId} {z : Int32} (A : Arr Z h a (newA k ty z) ty) (q : z.toInt = n) : Ary Z h a ty n (fun _ => defaultValue ty) := by
  have e1 : z.toNatClampNeg = n := by simp only [Int32.toNatClampNeg]; omega
  refine ⟨_, A, by rw [sz_new]; exact e1, ?_, fun i hi => ?_⟩
  · have := Int32.toInt_lt z; omega
  · simp [newA, e1, hi]
theorem Ary.congr {g' : Nat → Value} (F : Ary Z h a ty n g) (q : ∀ i, i < n → g i = g' i) : Ary Z h a ty n g' := by
  obtain ⟨c, A, S, B, H⟩ := F
  exact ⟨c, A, S, B, fun i hi => by rw [← q i hi]; exact H i hi⟩
abbrev AryI (Z : State) (h : Heap) (a : Addr) (ty : FieldType) (n : Nat) (g : Nat → Int32) : Prop := Ary Z h a ty n (fun i => .int (g i))
abbrev AryJ (Z : State) (h : Heap) (a : Addr) (n : Nat) (g : Nat → Int64) : Prop := Ary Z h a .long n (fun i => .long (g i))
theorem own_upI (f : Nat → Int32) (k : Nat) (v : Int32) : up (fun i => Value.int (f i)) k (.int v) = fun i => Value.int (up f k v i) := by funext i; simp only [up]; split <;> rfl
theorem own_upJ (f : Nat → Int64) (k : Nat) (v : Int64) : up (fun i => Value.long (f i)) k (.long v) = fun i => Value.long (up f k v i) := by funext i; simp only [up]; split <;> rfl
theorem Ary.setI {f : Nat → Int32} {k : Nat} {v : Int32} (F : AryI Z h a ty n f) (W : Wr h h' a k (.int v)) : AryI Z h' a ty n (up f k v) := by have r := Ary.set F W; rw [own_upI] at r; exact r
theorem Ary.setJ {f : Nat → Int64} {k : Nat} {v : Int64} (F : AryJ Z h a n f) (W : Wr h h' a k (.long v)) : AryJ Z h' a n (up f k v) := by have r := Ary.set F W; rw [own_upJ] at r; exact r
theorem own_idx {c : Cell} {j : Int32} {k : Nat} (S : c.slots.size = n) (q : j.toInt = k) (hk : k < n) : ¬ (j < 0 ∨ c.slots.size ≤ j.toNatClampNeg) ∧ j.toNatClampNeg = k := by
  have e1 : j.toNatClampNeg = k := by simp only [Int32.toNatClampNeg]; omega
  have e0 : (0 : Int32).toInt = 0 := rfl
  refine ⟨?_, e1⟩
  rw [e1, S, Int32.lt_iff_toInt_lt]; omega
theorem own_ld (X : Stand p l e R s m args below meth c T locs cells slots) (hx : p.tables.exec = Jvm.exec) (hZ : Z.Warmed39 s.vm) (eT : T.heap = h) (F : Ary Z h a ty n g) {j : Int32} (k : Nat) (q : j.toInt = k) (hk : k < n) {v : Value} (hv : g k = v) {i : Instr}
    (hi : (i = .iaload ∧ ty = .int) ∨ (i = .laload ∧ ty = .long) ∨ (i = .caload ∧ ty = .char) ∨ (i = .baload ∧ ty = .byte)) {f : JFrame} (hg : f.method = m) {rest : List Value} (hs : f.stack = .int j :: .ref a :: rest) (hd : decode c.code f.pc = .ok (i, 1)) :
    ∀ target, Steps p.tables e below (T.setTop { f with pc := f.pc + 1, stack := v :: rest }) target → Steps p.tables e below (T.setTop f) target := by
  subst hv
  obtain ⟨cl, A, S, -, H⟩ := F
  obtain ⟨hin, e1⟩ := own_idx S q hk
  have hat : cl.slots[j.toNatClampNeg]? = some (g k) := by rw [e1]; exact H k hk
  intro t kt
  rcases hi with ⟨rfl, rfl⟩ | ⟨rfl, rfl⟩ | ⟨rfl, rfl⟩ | ⟨rfl, rfl⟩
  · exact X.iaload hx (by rw [eT]; exact A.1) (State.isArrayOf_alike hZ.alike A.2.1) A.2.2 hin hat hg hs hd t kt
  · exact X.laload hx (by rw [eT]; exact A.1) (State.isArrayOf_alike hZ.alike A.2.1) A.2.2 hin hat hg hs hd t kt
  · exact X.caload hx (by rw [eT]; exact A.1) (State.isArrayOf_alike hZ.alike A.2.1) A.2.2 hin hat hg hs hd t kt
  · exact X.baloadBytes hx (by rw [eT]; exact A.1) (State.isArrayOf_alike hZ.alike A.2.1) A.2.2 hin hat hg hs hd t kt
theorem own_len (X : Stand p l e R s m args below meth c T locs cells slots) (hx : p.tables.exec = Jvm.exec) (hZ : Z.Warmed39 s.vm) (eT : T.heap = h) (F : Ary Z h a ty n g) {z : Int32} (hz : n.toInt32 = z) {f : JFrame} (hg : f.method = m) {rest : List Value} (hs : f.stack = .ref a :: rest) (hd : decode c.code f.pc = .ok (.arraylength, 1)) :
    ∀ target, Steps p.tables e below (T.setTop { f with pc := f.pc + 1, stack := .int z :: rest }) target → Steps p.tables e below (T.setTop f) target := by
  subst hz
  obtain ⟨cl, A, S, -⟩ := F
  intro t kt
  refine X.arraylength hx (by rw [eT]; exact A.1) (State.isArrayOf_alike hZ.alike A.2.1) hg hs hd t ?_
  rw [S]; exact kt
theorem own_stI (X : Stand p l e R s m args below meth c T locs cells slots) (hx : p.tables.exec = Jvm.exec) (hZ : Z.Warmed39 s.vm) (eT : T.heap = h) (F : Ary Z h a .int n g) {j x : Int32} (k : Nat) (q : j.toInt = k) (hk : k < n) {f : JFrame} (hg : f.method = m) {rest : List Value} (hs : f.stack = .int x :: .int j :: .ref a :: rest) (hd : decode c.code f.pc = .ok (.iastore, 1)) :
    ∃ T' h', Stand p l e R s m args below meth c T' (locs ++ [⟨a, k⟩]) cells slots ∧ T'.heap = h' ∧ Wr h h' a k (.int x) ∧ ∀ target, Steps p.tables e below (T'.setTop { f with pc := f.pc + 1, stack := rest }) target → Steps p.tables e below (T.setTop f) target := by
  obtain ⟨cl, A, S, -, -⟩ := F
  obtain ⟨hin, e1⟩ := own_idx S q hk
  have r := stI X hx hZ eT A hin hg hs hd
  rw [e1] at r; exact r
theorem own_stJ (X : Stand p l e R s m args below meth c T locs cells slots) (hx : p.tables.exec = Jvm.exec) (hZ : Z.Warmed39 s.vm) (eT : T.heap = h) (F : Ary Z h a .long n g) {j : Int32} {x : Int64} (k : Nat) (q : j.toInt = k) (hk : k < n) {f : JFrame} (hg : f.method = m) {rest : List Value} (hs : f.stack = .long x :: .int j :: .ref a :: rest) (hd : decode c.code f.pc = .ok (.lastore, 1)) :
    ∃ T' h', Stand p l e R s m args below meth c T' (locs ++ [⟨a, k⟩]) cells slots ∧ T'.heap = h' ∧ Wr h h' a k (.long x) ∧ ∀ target, Steps p.tables e below (T'.setTop { f with pc := f.pc + 1, stack := rest }) target → Steps p.tables e below (T.setTop f) target := by
  obtain ⟨cl, A, S, -, -⟩ := F
  obtain ⟨hin, e1⟩ := own_idx S q hk
  have r := stJ X hx hZ eT A hin hg hs hd
  rw [e1] at r; exact r
theorem own_stB (X : Stand p l e R s m args below meth c T locs cells slots) (hx : p.tables.exec = Jvm.exec) (hZ : Z.Warmed39 s.vm) (eT : T.heap = h) (F : Ary Z h a .byte n g) {j x : Int32} (k : Nat) (q : j.toInt = k) (hk : k < n) {f : JFrame} (hg : f.method = m) {rest : List Value} (hs : f.stack = .int x :: .int j :: .ref a :: rest) (hd : decode c.code f.pc = .ok (.bastore, 1)) :
    ∃ T' h', Stand p l e R s m args below meth c T' (locs ++ [⟨a, k⟩]) cells slots ∧ T'.heap = h' ∧ Wr h h' a k (.int (nar .byte x)) ∧ ∀ target, Steps p.tables e below (T'.setTop { f with pc := f.pc + 1, stack := rest }) target → Steps p.tables e below (T.setTop f) target := by
  obtain ⟨cl, A, S, -, -⟩ := F
  obtain ⟨hin, e1⟩ := own_idx S q hk
  have r := stB X hx hZ eT A hin hg hs hd
  rw [e1] at r; exact r
theorem own_stC (X : Stand p l e R s m args below meth c T locs cells slots) (hx : p.tables.exec = Jvm.exec) (hZ : Z.Warmed39 s.vm) (eT : T.heap = h) (F : Ary Z h a .char n g) {j x : Int32} (k : Nat) (q : j.toInt = k) (hk : k < n) {f : JFrame} (hg : f.method = m) {rest : List Value} (hs : f.stack = .int x :: .int j :: .ref a :: rest) (hd : decode c.code f.pc = .ok (.castore, 1)) :
    ∃ T' h', Stand p l e R s m args below meth c T' (locs ++ [⟨a, k⟩]) cells slots ∧ T'.heap = h' ∧ Wr h h' a k (.int (nar .char x)) ∧ ∀ target, Steps p.tables e below (T'.setTop { f with pc := f.pc + 1, stack := rest }) target → Steps p.tables e below (T.setTop f) target := by
  obtain ⟨cl, A, S, -, -⟩ := F
  obtain ⟨hin, e1⟩ := own_idx S q hk
  have r := stC X hx hZ eT A hin hg hs hd
  rw [e1] at r; exact r
theorem own_neA {a0 : Array Value} {k : Nat} {K : String} (F : Exa Z h a K) (wi : (Cond.instantiable K k).before a0 Z = true) (G : Ary Z h b ty n g) : a ≠ b := by
  obtain ⟨cl, A, -⟩ := G
  exact ne_arr F wi A
theorem own_selP {y : MethodName} {k : Nat} {a0 as' : Array Value} (hZ : Z.Warmed39 s.vm) (wi : (Cond.instantiable y.cls k).before a0 Z = true) (wn : (Cond.instanceMethod y).before a0 Z = true) (wp : (Cond.privateMethod y).before a0 Z = true) (hy : y.cls ≠ "java/lang/invoke/MethodHandle" ∧ y.cls ≠ "java/lang/invoke/VarHandle") : (Cond.selects y.cls y y).before as' s = true := by
  have wi' : (Cond.instantiable y.cls k).before as' s = true := mvT hZ wi
  obtain ⟨c, kc, h1, h2, -, h4, -⟩ := Cond.instantiable_spec wi'
  refine selects_self_of_private h1 h2 ?_ (Cond.privateMethod_at (mvP hZ wp (args := #[]))) (mvT hZ wn) hy
  cases hi : kc.isInterface with
  | false => rfl
  | true => rw [hi] at h4; simp at h4
/-- long comparisons -/
theorem own_lwlt {x y : Int64} (h : x < y) : lcmpW x y < 0 := (lw_lt x y).mpr h
theorem own_nlwlt {x y : Int64} (h : ¬ x < y) : ¬ lcmpW x y < 0 := fun q => h ((lw_lt x y).mp q)
theorem own_lwgt {x y : Int64} (h : y < x) : 0 < lcmpW x y := (lw_gt x y).mpr h
theorem own_nlwgt {x y : Int64} (h : ¬ y < x) : ¬ 0 < lcmpW x y := fun q => h ((lw_gt x y).mp q)
theorem own_lweq {x y : Int64} (h : x = y) : lcmpW x y = 0 := (lw_eq x y).mpr h
theorem own_nlweq {x y : Int64} (h : ¬ x = y) : ¬ lcmpW x y = 0 := fun q => h ((lw_eq x y).mp q)
end Own
theorem own_lt {x y : Int32} (h : x < y) : x.toInt < y.toInt := Int32.lt_iff_toInt_lt.mp h
theorem own_nlt {x y : Int32} (h : ¬ x < y) : ¬ x.toInt < y.toInt := fun q => h (Int32.lt_iff_toInt_lt.mpr q)
theorem own_eq {x y : Int32} (h : x = y) : x.toInt = y.toInt := by rw [h]
theorem own_neq {x y : Int32} (h : ¬ x = y) : ¬ x.toInt = y.toInt := fun q => h (Int32.toInt_inj.mp q)
theorem own_ltL {x y : Int64} (h : x < y) : x.toInt < y.toInt := Int64.lt_iff_toInt_lt.mp h
theorem own_nltL {x y : Int64} (h : ¬ x < y) : ¬ x.toInt < y.toInt := fun q => h (Int64.lt_iff_toInt_lt.mpr q)
theorem own_eqL {x y : Int64} (h : x = y) : x.toInt = y.toInt := by rw [h]
theorem own_neqL {x y : Int64} (h : ¬ x = y) : ¬ x.toInt = y.toInt := fun q => h (Int64.toInt_inj.mp q)
theorem own_rng32 (x : Int32) : -2147483648 ≤ x.toInt ∧ x.toInt ≤ 2147483647 := by
  have h1 := Int32.le_toInt x
  have h2 := Int32.toInt_lt x
  omega
theorem own_rng64 (x : Int64) : -9223372036854775808 ≤ x.toInt ∧ x.toInt ≤ 9223372036854775807 := by
  have h1 := Int64.le_toInt x
  have h2 := Int64.toInt_lt x
  omega

abbrev own_hit (ro rl of ln : Int64) : Prop := (0 : Int64) < ln ∧ ro < (of + ln) ∧ of < (ro + rl)
theorem own_pos {z : Int32} {P : Prop} (h : (z = 1 ∧ P) ∨ (z = 0 ∧ ¬ P)) (q : ¬ z = (0 : Int32)) : P := by
  rcases h with ⟨-, p⟩ | ⟨r, -⟩
  · exact p
  · exact absurd r q
theorem own_not {z : Int32} {P : Prop} (h : (z = 1 ∧ P) ∨ (z = 0 ∧ ¬ P)) (q : z = (0 : Int32)) : ¬ P := by
  rcases h with ⟨r, p⟩ | ⟨-, p⟩
  · rw [q] at r; exact absurd r (by decide)
  · exact p
theorem own_one {z : Int32} {P : Prop} (h : (z = 1 ∧ P) ∨ (z = 0 ∧ ¬ P)) (p : P) : z = (1 : Int32) := by
  rcases h with ⟨r, -⟩ | ⟨-, q⟩
  · exact r
  · exact absurd p q
theorem own_zero {z : Int32} {P : Prop} (h : (z = 1 ∧ P) ∨ (z = 0 ∧ ¬ P)) (p : ¬ P) : z = (0 : Int32) := by
  rcases h with ⟨-, q⟩ | ⟨r, -⟩
  · exact absurd q p
  · exact r
abbrev own_or1 (o0 l0 of : Int64) : Prop := o0.toInt < (o0 + l0).toInt
abbrev own_or2 (o0 l0 o1 l1 : Int64) : Prop := o0.toInt < (o0 + l0).toInt ∧ (o0 + l0).toInt < o1.toInt ∧ o1.toInt < (o1 + l1).toInt
abbrev own_or3 (o0 l0 o1 l1 o2 l2 : Int64) : Prop := own_or2 o0 l0 o1 l1 ∧ (o1 + l1).toInt < o2.toInt ∧ o2.toInt < (o2 + l2).toInt

theorem own_addL {x y : Int64} (h1 : -4611686018427387904 ≤ x.toInt + y.toInt) (h2 : x.toInt + y.toInt ≤ 4611686018427387904) : (x + y).toInt = x.toInt + y.toInt := by
  have a1 := c_ladd x y
  have a2 := own_rng64 (x + y)
  omega
theorem own_us {q : Int64} : 0 ≤ ((q.toUInt64 >>> ((32 : Int32) &&& 0x3f).toInt64.toUInt64).toInt64).toInt ∧ ((q.toUInt64 >>> ((32 : Int32) &&& 0x3f).toInt64.toUInt64).toInt64).toInt ≤ 4294967295 := by
  have a1 := c_lushr q (32 : Int32) 32 rfl (by decide)
  omega
theorem own_ln {q : Int64} : 1 ≤ ((q &&& (4294967295 : Int64)) + (1 : Int64)).toInt ∧ ((q &&& (4294967295 : Int64)) + (1 : Int64)).toInt ≤ 4294967296 := by
  have a1 := c_maskL q (4294967295 : Int64) 32 (by decide) (by decide)
  have e1 : (1 : Int64).toInt = 1 := rfl
  have a2 := own_addL (x := (q &&& (4294967295 : Int64))) (y := (1 : Int64)) (by omega) (by omega)
  omega
theorem own_nx {o l u : Int64} (h1 : 0 ≤ o.toInt ∧ o.toInt ≤ 100000000000) (h2 : 1 ≤ l.toInt ∧ l.toInt ≤ 4294967296) (h3 : 0 ≤ u.toInt ∧ u.toInt ≤ 4294967295) : o.toInt < (o + l).toInt ∧ (o + l).toInt < (((o + l) + (1 : Int64)) + u).toInt ∧ (((o + l) + (1 : Int64)) + u).toInt ≤ o.toInt + 10000000000 := by
  have e1 : (1 : Int64).toInt = 1 := rfl
  have a1 := own_addL (x := o) (y := l) (by omega) (by omega)
  have a2 := own_addL (x := o + l) (y := (1 : Int64)) (by omega) (by omega)
  have a3 := own_addL (x := (o + l) + (1 : Int64)) (y := u) (by omega) (by omega)
  omega
theorem own_ord {qa qb qc vo0 vl0 vo1 vl1 vo2 vl2 : Int64} (hvo0 : ((qa.toUInt64 >>> ((32 : Int32) &&& 0x3f).toInt64.toUInt64).toInt64) = vo0) (hvl0 : ((qa &&& (4294967295 : Int64)) + (1 : Int64)) = vl0) (hvo1 : (((vo0 + vl0) + (1 : Int64)) + ((qb.toUInt64 >>> ((32 : Int32) &&& 0x3f).toInt64.toUInt64).toInt64)) = vo1) (hvl1 : ((qb &&& (4294967295 : Int64)) + (1 : Int64)) = vl1) (hvo2 : (((vo1 + vl1) + (1 : Int64)) + ((qc.toUInt64 >>> ((32 : Int32) &&& 0x3f).toInt64.toUInt64).toInt64)) = vo2) (hvl2 : ((qc &&& (4294967295 : Int64)) + (1 : Int64)) = vl2) : own_or3 vo0 vl0 vo1 vl1 vo2 vl2 := by
  have u0 := hvo0 ▸ own_us (q := qa)
  have l0 := hvl0 ▸ own_ln (q := qa)
  have l1 := hvl1 ▸ own_ln (q := qb)
  have l2 := hvl2 ▸ own_ln (q := qc)
  have n1 := own_nx (o := vo0) (l := vl0) (u := ((qb.toUInt64 >>> ((32 : Int32) &&& 0x3f).toInt64.toUInt64).toInt64)) (by omega) l0 own_us
  rw [hvo1] at n1
  have n2 := own_nx (o := vo1) (l := vl1) (u := ((qc.toUInt64 >>> ((32 : Int32) &&& 0x3f).toInt64.toUInt64).toInt64)) (by omega) l1 own_us
  rw [hvo2] at n2
  have n3 := own_addL (x := vo2) (y := vl2) (by omega) (by omega)
  simp only [own_or3, own_or2]
  refine ⟨⟨?_, ?_, ?_⟩, ?_, ?_⟩ <;> omega

theorem own_four {nn vk : Int32} (q : (nn &&& (3 : Int32)) = vk) : vk = (0 : Int32) ∨ vk = (1 : Int32) ∨ vk = (2 : Int32) ∨ vk = (3 : Int32) := by
  have a1 := c_mask nn (3 : Int32) 2 (by decide) (by decide)
  have t := congrArg Int32.toInt q
  have e : ∀ {x : Int32} {z : Int32}, x.toInt = z.toInt → x = z := fun h => Int32.toInt_inj.mp h
  rcases (by omega : vk.toInt = 0 ∨ vk.toInt = 1 ∨ vk.toInt = 2 ∨ vk.toInt = 3) with r | r | r | r
  · exact Or.inl (e (z := 0) r)
  · exact Or.inr (Or.inl (e (z := 1) r))
  · exact Or.inr (Or.inr (Or.inl (e (z := 2) r)))
  · exact Or.inr (Or.inr (Or.inr (e (z := 3) r)))
theorem d2_0 : decode method_3_code 0 = .ok (.lload 6, 2) := by decide +kernel
theorem d2_2 : decode method_3_code 2 = .ok (.lconst 0, 1) := by decide +kernel
theorem d2_3 : decode method_3_code 3 = .ok (.lcmp, 1) := by decide +kernel
theorem d2_4 : decode method_3_code 4 = .ok (.ifCond .le 26, 3) := by decide +kernel
theorem d2_7 : decode method_3_code 7 = .ok (.lload_n 0, 1) := by decide +kernel
theorem d2_8 : decode method_3_code 8 = .ok (.lload 4, 2) := by decide +kernel
theorem d2_10 : decode method_3_code 10 = .ok (.lload 6, 2) := by decide +kernel
theorem d2_12 : decode method_3_code 12 = .ok (.ladd, 1) := by decide +kernel
theorem d2_13 : decode method_3_code 13 = .ok (.lcmp, 1) := by decide +kernel
theorem d2_14 : decode method_3_code 14 = .ok (.ifCond .ge 16, 3) := by decide +kernel
theorem d2_17 : decode method_3_code 17 = .ok (.lload_n 0, 1) := by decide +kernel
theorem d2_18 : decode method_3_code 18 = .ok (.lload_n 2, 1) := by decide +kernel
theorem d2_19 : decode method_3_code 19 = .ok (.ladd, 1) := by decide +kernel
theorem d2_20 : decode method_3_code 20 = .ok (.lload 4, 2) := by decide +kernel
theorem d2_22 : decode method_3_code 22 = .ok (.lcmp, 1) := by decide +kernel
theorem d2_23 : decode method_3_code 23 = .ok (.ifCond .le 7, 3) := by decide +kernel
theorem d2_26 : decode method_3_code 26 = .ok (.iconst 1, 1) := by decide +kernel
theorem d2_27 : decode method_3_code 27 = .ok (.goto 4, 3) := by decide +kernel
theorem d2_30 : decode method_3_code 30 = .ok (.iconst 0, 1) := by decide +kernel
theorem d2_31 : decode method_3_code 31 = .ok (.ireturn, 1) := by decide +kernel
theorem pn_2 : plainName "com/example/rootkeep/rootkeep/file/FreeSpaceOverlapsPinLaw" = true := by first | (simp [plainName, overriddenIn]; done) | decide +kernel
theorem ef_2 (m : MethodId) (x0 : Int64) (x1 : Int64) (x2 : Int64) (x3 : Int64) : entryFrame m #[(.long x0), (.long x1), (.long x2), (.long x3)] 8 = mkF m 0 #[.val (.long x0), .second, .val (.long x1), .second, .val (.long x2), .second, .val (.long x3), .second] [] := by first | (simp [entryFrame, mkF, argsToLocals, Value.category]; done) | rfl
def Q2 (Z : State) (ro : Int64) (rl : Int64) (of : Int64) (ln : Int64) (h0 : Heap) (n0 : Nat) (v : Option Value) (h : Heap) (L : List Loc) : Prop := ∃ z : Int32, v = some (.int z) ∧ Fr n0 L ∧ h = h0 ∧ ((z = 1 ∧ own_hit ro rl of ln) ∨ (z = 0 ∧ ¬ own_hit ro rl of ln))
set_option maxRecDepth 65536 in
set_option maxHeartbeats 40000000 in
theorem rm2 (l : Launch) (Z : State) (a0 : Array Value) (hw : ∀ d ∈ tables_1, d.before a0 Z = true) (ws : List Jvm.Cond) (ro : Int64) (rl : Int64) (of : Int64) (ln : Int64) (h0 : Heap) (n0 : Nat) (Z0 : n0 ≤ h0.size) :
    MetFree l (⟨"com/example/rootkeep/rootkeep/file/FreeSpaceOverlapsPinLaw", "hits", "(JJJJ)Z"⟩ : MethodName) (head1 (Jvm.Cond.code (⟨"com/example/rootkeep/rootkeep/file/FreeSpaceOverlapsPinLaw", "hits", "(JJJJ)Z"⟩ : MethodName) method_3_code 8 (some .boolean) :: ws) ({ frames := 0, cells := 0, slots := 0, locals := 0 } : Room)) (fun a U => a = #[(.long ro), (.long rl), (.long of), (.long ln)] ∧ Z.Warmed39 U.vm ∧ U.heap = h0) (fun _ _ _ _ _ => True) (fun _ U o U' => ∃ v L, o = .returned v ∧ Q2 Z ro rl of ln h0 n0 v U'.heap L ∧ FrameEnd U o U' L ({ frames := 0, cells := 0, slots := 0, locals := 0 } : Room).cells ({ frames := 0, cells := 0, slots := 0, locals := 0 } : Room).slots) := by
  refine MetFree.of_bodySF (plainFor_of_name pn_2) hisR ?_
  intro p e s m args below meth c s₁ Bd hml0 hP hK
  obtain ⟨rfl, hZ, hh⟩ := hP
  have hx := Bd.exec
  have hby := Bd.bytes
  have hml : c.maxLocals = 8 := hml0
  have hown : s.vm.findClass "com/example/rootkeep/rootkeep/file/FreeSpaceOverlapsPinLaw" = some m.cls := findClass_of_methodNamed Bd.named
  have hnm := (name_of_methodNamed Bd.named Bd.method).1
  have X0 : Stand p l e ({ frames := 0, cells := 0, slots := 0, locals := 0 } : Room) s m #[(.long ro), (.long rl), (.long of), (.long ln)] below meth c s₁ [] 0 0 := Stand.of_body Bd
  have e0 : s₁.heap = h0 := by rw [← hh, Bd.state]; rfl
  have N0 := Fr.nil n0
  show Go p e below s (Q2 Z ro rl of ln h0 n0) ({ frames := 0, cells := 0, slots := 0, locals := 0 } : Room).cells ({ frames := 0, cells := 0, slots := 0, locals := 0 } : Room).slots (s₁.setTop (entryFrame m #[(.long ro), (.long rl), (.long of), (.long ln)] 8))
  rw [ef_2]
  show Go _ _ _ _ _ _ _ (s₁.setTop (mkF m 0 #[.val (.long ro), .second, .val (.long rl), .second, .val (.long of), .second, .val (.long ln), .second] []))
  refine Go.step (fun t k => XS.lload X0.here hx rfl (hb hby d2_0) rfl k) ?_
  show Go _ _ _ _ _ _ _ (s₁.setTop (mkF m 2 #[.val (.long ro), .second, .val (.long rl), .second, .val (.long of), .second, .val (.long ln), .second] [(.long ln)]))
  refine Go.step (fun t k => XS.lconst X0.here hx rfl (hb hby d2_2) k) ?_
  show Go _ _ _ _ _ _ _ (s₁.setTop (mkF m 3 #[.val (.long ro), .second, .val (.long rl), .second, .val (.long of), .second, .val (.long ln), .second] [(.long (0 : Int64)), (.long ln)]))
  refine Go.step (fun t k => XS.lcmp X0.here hx rfl (hb hby d2_3) rfl k) ?_
  show Go _ _ _ _ _ _ _ (s₁.setTop (mkF m 4 #[.val (.long ro), .second, .val (.long rl), .second, .val (.long of), .second, .val (.long ln), .second] [(.int (lcmpW ln (0 : Int64)))]))
  by_cases hc4_1 : (0 : Int64) < ln
  · refine Go.step (fun t k => XS.ifNo X0.here hx rfl (hb hby d2_4) rfl ((if0 _ _).trans (tlt (own_lwgt hc4_1)).2.2.2) k) ?_
    show Go _ _ _ _ _ _ _ (s₁.setTop (mkF m 7 #[.val (.long ro), .second, .val (.long rl), .second, .val (.long of), .second, .val (.long ln), .second] []))
    refine Go.step (fun t k => XS.lloadN X0.here hx rfl (hb hby d2_7) rfl k) ?_
    show Go _ _ _ _ _ _ _ (s₁.setTop (mkF m 8 #[.val (.long ro), .second, .val (.long rl), .second, .val (.long of), .second, .val (.long ln), .second] [(.long ro)]))
    refine Go.step (fun t k => XS.lload X0.here hx rfl (hb hby d2_8) rfl k) ?_
    show Go _ _ _ _ _ _ _ (s₁.setTop (mkF m 10 #[.val (.long ro), .second, .val (.long rl), .second, .val (.long of), .second, .val (.long ln), .second] [(.long of), (.long ro)]))
    refine Go.step (fun t k => XS.lload X0.here hx rfl (hb hby d2_10) rfl k) ?_
    show Go _ _ _ _ _ _ _ (s₁.setTop (mkF m 12 #[.val (.long ro), .second, .val (.long rl), .second, .val (.long of), .second, .val (.long ln), .second] [(.long ln), (.long of), (.long ro)]))
    refine Go.step (fun t k => XS.ladd X0.here hx rfl (hb hby d2_12) rfl k) ?_
    show Go _ _ _ _ _ _ _ (s₁.setTop (mkF m 13 #[.val (.long ro), .second, .val (.long rl), .second, .val (.long of), .second, .val (.long ln), .second] [(.long (of + ln)), (.long ro)]))
    refine Go.step (fun t k => XS.lcmp X0.here hx rfl (hb hby d2_13) rfl k) ?_
    show Go _ _ _ _ _ _ _ (s₁.setTop (mkF m 14 #[.val (.long ro), .second, .val (.long rl), .second, .val (.long of), .second, .val (.long ln), .second] [(.int (lcmpW ro (of + ln)))]))
    by_cases hc14_2 : ro < (of + ln)
    · refine Go.step (fun t k => XS.ifNo X0.here hx rfl (hb hby d2_14) rfl ((if0 _ _).trans (tlt (own_lwlt hc14_2)).2.1) k) ?_
      show Go _ _ _ _ _ _ _ (s₁.setTop (mkF m 17 #[.val (.long ro), .second, .val (.long rl), .second, .val (.long of), .second, .val (.long ln), .second] []))
      refine Go.step (fun t k => XS.lloadN X0.here hx rfl (hb hby d2_17) rfl k) ?_
      show Go _ _ _ _ _ _ _ (s₁.setTop (mkF m 18 #[.val (.long ro), .second, .val (.long rl), .second, .val (.long of), .second, .val (.long ln), .second] [(.long ro)]))
      refine Go.step (fun t k => XS.lloadN X0.here hx rfl (hb hby d2_18) rfl k) ?_
      show Go _ _ _ _ _ _ _ (s₁.setTop (mkF m 19 #[.val (.long ro), .second, .val (.long rl), .second, .val (.long of), .second, .val (.long ln), .second] [(.long rl), (.long ro)]))
      refine Go.step (fun t k => XS.ladd X0.here hx rfl (hb hby d2_19) rfl k) ?_
      show Go _ _ _ _ _ _ _ (s₁.setTop (mkF m 20 #[.val (.long ro), .second, .val (.long rl), .second, .val (.long of), .second, .val (.long ln), .second] [(.long (ro + rl))]))
      refine Go.step (fun t k => XS.lload X0.here hx rfl (hb hby d2_20) rfl k) ?_
      show Go _ _ _ _ _ _ _ (s₁.setTop (mkF m 22 #[.val (.long ro), .second, .val (.long rl), .second, .val (.long of), .second, .val (.long ln), .second] [(.long of), (.long (ro + rl))]))
      refine Go.step (fun t k => XS.lcmp X0.here hx rfl (hb hby d2_22) rfl k) ?_
      show Go _ _ _ _ _ _ _ (s₁.setTop (mkF m 23 #[.val (.long ro), .second, .val (.long rl), .second, .val (.long of), .second, .val (.long ln), .second] [(.int (lcmpW (ro + rl) of))]))
      by_cases hc23_3 : of < (ro + rl)
      · refine Go.step (fun t k => XS.ifNo X0.here hx rfl (hb hby d2_23) rfl ((if0 _ _).trans (tlt (own_lwgt hc23_3)).2.2.2) k) ?_
        show Go _ _ _ _ _ _ _ (s₁.setTop (mkF m 26 #[.val (.long ro), .second, .val (.long rl), .second, .val (.long of), .second, .val (.long ln), .second] []))
        refine Go.step (fun t k => XS.iconst X0.here hx rfl (hb hby d2_26) k) ?_
        show Go _ _ _ _ _ _ _ (s₁.setTop (mkF m 27 #[.val (.long ro), .second, .val (.long rl), .second, .val (.long of), .second, .val (.long ln), .second] [(.int (1 : Int32))]))
        refine Go.step (fun t k => XS.goto X0.here hx rfl (pc0 := 27) (pc' := 31) rfl (hb hby d2_27) (by decide) (by decide) k) ?_
        show Go _ _ _ _ _ _ _ (s₁.setTop (mkF m 31 #[.val (.long ro), .second, .val (.long rl), .second, .val (.long of), .second, .val (.long ln), .second] [(.int (1 : Int32))]))
        refine Go.retN X0 Bd.notSynchronized hx (t := .boolean) Bd.returns (by simp) (hb hby d2_31) (by decide) (by decide) (1 : Int32) rfl ?_
        rw [e0]
        exact ⟨(1 : Int32), rfl, N0, rfl, (Or.inl ⟨rfl, hc4_1, hc14_2, hc23_3⟩)⟩
      · refine Go.step (fun t k => XS.ifYes X0.here hx rfl (pc0 := 23) (pc' := 30) rfl (hb hby d2_23) rfl ((if0 _ _).trans (flt (own_nlwgt hc23_3)).2.2.2) (by decide) (by decide) k) ?_
        show Go _ _ _ _ _ _ _ (s₁.setTop (mkF m 30 #[.val (.long ro), .second, .val (.long rl), .second, .val (.long of), .second, .val (.long ln), .second] []))
        refine Go.step (fun t k => XS.iconst X0.here hx rfl (hb hby d2_30) k) ?_
        show Go _ _ _ _ _ _ _ (s₁.setTop (mkF m 31 #[.val (.long ro), .second, .val (.long rl), .second, .val (.long of), .second, .val (.long ln), .second] [(.int (0 : Int32))]))
        refine Go.retN X0 Bd.notSynchronized hx (t := .boolean) Bd.returns (by simp) (hb hby d2_31) (by decide) (by decide) (0 : Int32) rfl ?_
        rw [e0]
        exact ⟨(0 : Int32), rfl, N0, rfl, (Or.inr ⟨rfl, fun r => hc23_3 r.2.2⟩)⟩
    · refine Go.step (fun t k => XS.ifYes X0.here hx rfl (pc0 := 14) (pc' := 30) rfl (hb hby d2_14) rfl ((if0 _ _).trans (flt (own_nlwlt hc14_2)).2.1) (by decide) (by decide) k) ?_
      show Go _ _ _ _ _ _ _ (s₁.setTop (mkF m 30 #[.val (.long ro), .second, .val (.long rl), .second, .val (.long of), .second, .val (.long ln), .second] []))
      refine Go.step (fun t k => XS.iconst X0.here hx rfl (hb hby d2_30) k) ?_
      show Go _ _ _ _ _ _ _ (s₁.setTop (mkF m 31 #[.val (.long ro), .second, .val (.long rl), .second, .val (.long of), .second, .val (.long ln), .second] [(.int (0 : Int32))]))
      refine Go.retN X0 Bd.notSynchronized hx (t := .boolean) Bd.returns (by simp) (hb hby d2_31) (by decide) (by decide) (0 : Int32) rfl ?_
      rw [e0]
      exact ⟨(0 : Int32), rfl, N0, rfl, (Or.inr ⟨rfl, fun r => hc14_2 r.2.1⟩)⟩
  · refine Go.step (fun t k => XS.ifYes X0.here hx rfl (pc0 := 4) (pc' := 30) rfl (hb hby d2_4) rfl ((if0 _ _).trans (flt (own_nlwgt hc4_1)).2.2.2) (by decide) (by decide) k) ?_
    show Go _ _ _ _ _ _ _ (s₁.setTop (mkF m 30 #[.val (.long ro), .second, .val (.long rl), .second, .val (.long of), .second, .val (.long ln), .second] []))
    refine Go.step (fun t k => XS.iconst X0.here hx rfl (hb hby d2_30) k) ?_
    show Go _ _ _ _ _ _ _ (s₁.setTop (mkF m 31 #[.val (.long ro), .second, .val (.long rl), .second, .val (.long of), .second, .val (.long ln), .second] [(.int (0 : Int32))]))
    refine Go.retN X0 Bd.notSynchronized hx (t := .boolean) Bd.returns (by simp) (hb hby d2_31) (by decide) (by decide) (0 : Int32) rfl ?_
    rw [e0]
    exact ⟨(0 : Int32), rfl, N0, rfl, (Or.inr ⟨rfl, fun r => hc4_1 r.1⟩)⟩
theorem d1_0 : decode prog_21_method_4_code 0 = .ok (.iconst 0, 1) := by decide +kernel
theorem d1_1 : decode prog_21_method_4_code 1 = .ok (.istore 5, 2) := by decide +kernel
theorem d1_3 : decode prog_21_method_4_code 3 = .ok (.aload_n 0, 1) := by decide +kernel
theorem d1_4 : decode prog_21_method_4_code 4 = .ok (.arraylength, 1) := by decide +kernel
theorem d1_5 : decode prog_21_method_4_code 5 = .ok (.iconst 2, 1) := by decide +kernel
theorem d1_6 : decode prog_21_method_4_code 6 = .ok (.idiv, 1) := by decide +kernel
theorem d1_7 : decode prog_21_method_4_code 7 = .ok (.istore 6, 2) := by decide +kernel
theorem d1_9 : decode prog_21_method_4_code 9 = .ok (.iload 5, 2) := by decide +kernel
theorem d1_11 : decode prog_21_method_4_code 11 = .ok (.iload 6, 2) := by decide +kernel
theorem d1_13 : decode prog_21_method_4_code 13 = .ok (.if_icmp .ge 41, 3) := by decide +kernel
theorem d1_16 : decode prog_21_method_4_code 16 = .ok (.iload 5, 2) := by decide +kernel
theorem d1_18 : decode prog_21_method_4_code 18 = .ok (.iload 6, 2) := by decide +kernel
theorem d1_20 : decode prog_21_method_4_code 20 = .ok (.iadd, 1) := by decide +kernel
theorem d1_21 : decode prog_21_method_4_code 21 = .ok (.iconst 1, 1) := by decide +kernel
theorem d1_22 : decode prog_21_method_4_code 22 = .ok (.iushr, 1) := by decide +kernel
theorem d1_23 : decode prog_21_method_4_code 23 = .ok (.istore 7, 2) := by decide +kernel
theorem d1_25 : decode prog_21_method_4_code 25 = .ok (.aload_n 0, 1) := by decide +kernel
theorem d1_26 : decode prog_21_method_4_code 26 = .ok (.iconst 2, 1) := by decide +kernel
theorem d1_27 : decode prog_21_method_4_code 27 = .ok (.iload 7, 2) := by decide +kernel
theorem d1_29 : decode prog_21_method_4_code 29 = .ok (.imul, 1) := by decide +kernel
theorem d1_30 : decode prog_21_method_4_code 30 = .ok (.laload, 1) := by decide +kernel
theorem d1_31 : decode prog_21_method_4_code 31 = .ok (.lload_n 1, 1) := by decide +kernel
theorem d1_32 : decode prog_21_method_4_code 32 = .ok (.lload_n 3, 1) := by decide +kernel
theorem d1_33 : decode prog_21_method_4_code 33 = .ok (.ladd, 1) := by decide +kernel
theorem d1_34 : decode prog_21_method_4_code 34 = .ok (.lcmp, 1) := by decide +kernel
theorem d1_35 : decode prog_21_method_4_code 35 = .ok (.ifCond .ge 12, 3) := by decide +kernel
theorem d1_38 : decode prog_21_method_4_code 38 = .ok (.iload 7, 2) := by decide +kernel
theorem d1_40 : decode prog_21_method_4_code 40 = .ok (.iconst 1, 1) := by decide +kernel
theorem d1_41 : decode prog_21_method_4_code 41 = .ok (.iadd, 1) := by decide +kernel
theorem d1_42 : decode prog_21_method_4_code 42 = .ok (.istore 5, 2) := by decide +kernel
theorem d1_44 : decode prog_21_method_4_code 44 = .ok (.goto 7, 3) := by decide +kernel
theorem d1_47 : decode prog_21_method_4_code 47 = .ok (.iload 7, 2) := by decide +kernel
theorem d1_49 : decode prog_21_method_4_code 49 = .ok (.istore 6, 2) := by decide +kernel
theorem d1_51 : decode prog_21_method_4_code 51 = .ok (.goto (-42), 3) := by decide +kernel
theorem d1_54 : decode prog_21_method_4_code 54 = .ok (.iload 5, 2) := by decide +kernel
theorem d1_56 : decode prog_21_method_4_code 56 = .ok (.iconst 1, 1) := by decide +kernel
theorem d1_57 : decode prog_21_method_4_code 57 = .ok (.isub, 1) := by decide +kernel
theorem d1_58 : decode prog_21_method_4_code 58 = .ok (.istore 7, 2) := by decide +kernel
theorem d1_60 : decode prog_21_method_4_code 60 = .ok (.lload_n 3, 1) := by decide +kernel
theorem d1_61 : decode prog_21_method_4_code 61 = .ok (.lconst 0, 1) := by decide +kernel
theorem d1_62 : decode prog_21_method_4_code 62 = .ok (.lcmp, 1) := by decide +kernel
theorem d1_63 : decode prog_21_method_4_code 63 = .ok (.ifCond .le 32, 3) := by decide +kernel
theorem d1_66 : decode prog_21_method_4_code 66 = .ok (.iload 7, 2) := by decide +kernel
theorem d1_68 : decode prog_21_method_4_code 68 = .ok (.ifCond .lt 27, 3) := by decide +kernel
theorem d1_71 : decode prog_21_method_4_code 71 = .ok (.aload_n 0, 1) := by decide +kernel
theorem d1_72 : decode prog_21_method_4_code 72 = .ok (.iconst 2, 1) := by decide +kernel
theorem d1_73 : decode prog_21_method_4_code 73 = .ok (.iload 7, 2) := by decide +kernel
theorem d1_75 : decode prog_21_method_4_code 75 = .ok (.imul, 1) := by decide +kernel
theorem d1_76 : decode prog_21_method_4_code 76 = .ok (.laload, 1) := by decide +kernel
theorem d1_77 : decode prog_21_method_4_code 77 = .ok (.aload_n 0, 1) := by decide +kernel
theorem d1_78 : decode prog_21_method_4_code 78 = .ok (.iconst 2, 1) := by decide +kernel
theorem d1_79 : decode prog_21_method_4_code 79 = .ok (.iload 7, 2) := by decide +kernel
theorem d1_81 : decode prog_21_method_4_code 81 = .ok (.imul, 1) := by decide +kernel
theorem d1_82 : decode prog_21_method_4_code 82 = .ok (.iconst 1, 1) := by decide +kernel
theorem d1_83 : decode prog_21_method_4_code 83 = .ok (.iadd, 1) := by decide +kernel
theorem d1_84 : decode prog_21_method_4_code 84 = .ok (.laload, 1) := by decide +kernel
theorem d1_85 : decode prog_21_method_4_code 85 = .ok (.ladd, 1) := by decide +kernel
theorem d1_86 : decode prog_21_method_4_code 86 = .ok (.lload_n 1, 1) := by decide +kernel
theorem d1_87 : decode prog_21_method_4_code 87 = .ok (.lcmp, 1) := by decide +kernel
theorem d1_88 : decode prog_21_method_4_code 88 = .ok (.ifCond .le 7, 3) := by decide +kernel
theorem d1_91 : decode prog_21_method_4_code 91 = .ok (.iconst 1, 1) := by decide +kernel
theorem d1_92 : decode prog_21_method_4_code 92 = .ok (.goto 4, 3) := by decide +kernel
theorem d1_95 : decode prog_21_method_4_code 95 = .ok (.iconst 0, 1) := by decide +kernel
theorem d1_96 : decode prog_21_method_4_code 96 = .ok (.ireturn, 1) := by decide +kernel
theorem pn_1_0 : plainName "com/example/rootkeep/rootkeep/file/FreeSpace" = true := by first | (simp [plainName, overriddenIn]; done) | decide +kernel
theorem ef_1_0 (m : MethodId) (x0 : Addr) (x1 : Int64) (x2 : Int64) : entryFrame m #[(.ref x0), (.long x1), (.long x2)] 8 = mkF m 0 #[.val (.ref x0), .val (.long x1), .second, .val (.long x2), .second, .unset, .unset, .unset] [] := by first | (simp [entryFrame, mkF, argsToLocals, Value.category]; done) | rfl
def Q1_0 (Z : State) (rn : Addr) (of : Int64) (ln : Int64) (h0 : Heap) (n0 : Nat) (v : Option Value) (h : Heap) (L : List Loc) : Prop := ∃ z : Int32, v = some (.int z) ∧ Fr n0 L ∧ h = h0 ∧ ((z = 1 ∧ (False)) ∨ (z = 0 ∧ ¬ (False)))
set_option maxRecDepth 65536 in
set_option maxHeartbeats 40000000 in
theorem rm1_0 (l : Launch) (Z : State) (a0 : Array Value) (hw : ∀ d ∈ tables_1, d.before a0 Z = true) (ws : List Jvm.Cond) (rn : Addr) (of : Int64) (ln : Int64) (h0 : Heap) (n0 : Nat) (Z0 : n0 ≤ h0.size) (A_rn : AryJ Z h0 rn 0 (fun _ => (0 : Int64))) :
    MetFree l (⟨"com/example/rootkeep/rootkeep/file/FreeSpace", "overlaps", "([JJJ)Z"⟩ : MethodName) (head1 (Jvm.Cond.code (⟨"com/example/rootkeep/rootkeep/file/FreeSpace", "overlaps", "([JJJ)Z"⟩ : MethodName) prog_21_method_4_code 8 (some .boolean) :: ws) ({ frames := 0, cells := 0, slots := 0, locals := 0 } : Room)) (fun a U => a = #[(.ref rn), (.long of), (.long ln)] ∧ Z.Warmed39 U.vm ∧ U.heap = h0) (fun _ _ _ _ _ => True) (fun _ U o U' => ∃ v L, o = .returned v ∧ Q1_0 Z rn of ln h0 n0 v U'.heap L ∧ FrameEnd U o U' L ({ frames := 0, cells := 0, slots := 0, locals := 0 } : Room).cells ({ frames := 0, cells := 0, slots := 0, locals := 0 } : Room).slots) := by
  refine MetFree.of_bodySF (plainFor_of_name pn_1_0) hisR ?_
  intro p e s m args below meth c s₁ Bd hml0 hP hK
  obtain ⟨rfl, hZ, hh⟩ := hP
  have hx := Bd.exec
  have hby := Bd.bytes
  have hml : c.maxLocals = 8 := hml0
  have hown : s.vm.findClass "com/example/rootkeep/rootkeep/file/FreeSpace" = some m.cls := findClass_of_methodNamed Bd.named
  have hnm := (name_of_methodNamed Bd.named Bd.method).1
  have X0 : Stand p l e ({ frames := 0, cells := 0, slots := 0, locals := 0 } : Room) s m #[(.ref rn), (.long of), (.long ln)] below meth c s₁ [] 0 0 := Stand.of_body Bd
  have e0 : s₁.heap = h0 := by rw [← hh, Bd.state]; rfl
  have N0 := Fr.nil n0
  show Go p e below s (Q1_0 Z rn of ln h0 n0) ({ frames := 0, cells := 0, slots := 0, locals := 0 } : Room).cells ({ frames := 0, cells := 0, slots := 0, locals := 0 } : Room).slots (s₁.setTop (entryFrame m #[(.ref rn), (.long of), (.long ln)] 8))
  rw [ef_1_0]
  show Go _ _ _ _ _ _ _ (s₁.setTop (mkF m 0 #[.val (.ref rn), .val (.long of), .second, .val (.long ln), .second, .unset, .unset, .unset] []))
  refine Go.step (fun t k => XS.iconst X0.here hx rfl (hb hby d1_0) k) ?_
  show Go _ _ _ _ _ _ _ (s₁.setTop (mkF m 1 #[.val (.ref rn), .val (.long of), .second, .val (.long ln), .second, .unset, .unset, .unset] [(.int (0 : Int32))]))
  refine Go.step (fun t k => XS.istore X0.here hx rfl (hb hby d1_1) rfl (l' := #[.val (.ref rn), .val (.long of), .second, .val (.long ln), .second, .val (.int (0 : Int32)), .unset, .unset]) rfl k) ?_
  show Go _ _ _ _ _ _ _ (s₁.setTop (mkF m 3 #[.val (.ref rn), .val (.long of), .second, .val (.long ln), .second, .val (.int (0 : Int32)), .unset, .unset] []))
  refine Go.step (fun t k => XS.aloadN X0.here hx rfl (hb hby d1_3) rfl rfl k) ?_
  show Go _ _ _ _ _ _ _ (s₁.setTop (mkF m 4 #[.val (.ref rn), .val (.long of), .second, .val (.long ln), .second, .val (.int (0 : Int32)), .unset, .unset] [(.ref rn)]))
  refine Go.step (own_len X0 hx hZ e0 A_rn (z := (0 : Int32)) rfl (f := (mkF m 4 #[.val (.ref rn), .val (.long of), .second, .val (.long ln), .second, .val (.int (0 : Int32)), .unset, .unset] [(.ref rn)])) rfl rfl (hb hby d1_4)) ?_
  show Go _ _ _ _ _ _ _ (s₁.setTop (mkF m 5 #[.val (.ref rn), .val (.long of), .second, .val (.long ln), .second, .val (.int (0 : Int32)), .unset, .unset] [(.int (0 : Int32))]))
  refine Go.step (fun t k => XS.iconst X0.here hx rfl (hb hby d1_5) k) ?_
  show Go _ _ _ _ _ _ _ (s₁.setTop (mkF m 6 #[.val (.ref rn), .val (.long of), .second, .val (.long ln), .second, .val (.int (0 : Int32)), .unset, .unset] [(.int (2 : Int32)), (.int (0 : Int32))]))
  refine Go.step (fun t k => XS.idiv X0.here hx rfl (hb hby d1_6) rfl (by decide) k) ?_
  show Go _ _ _ _ _ _ _ (s₁.setTop (mkF m 7 #[.val (.ref rn), .val (.long of), .second, .val (.long ln), .second, .val (.int (0 : Int32)), .unset, .unset] [(.int (0 : Int32))]))
  refine Go.step (fun t k => XS.istore X0.here hx rfl (hb hby d1_7) rfl (l' := #[.val (.ref rn), .val (.long of), .second, .val (.long ln), .second, .val (.int (0 : Int32)), .val (.int (0 : Int32)), .unset]) rfl k) ?_
  show Go _ _ _ _ _ _ _ (s₁.setTop (mkF m 9 #[.val (.ref rn), .val (.long of), .second, .val (.long ln), .second, .val (.int (0 : Int32)), .val (.int (0 : Int32)), .unset] []))
  refine Go.step (fun t k => XS.iload X0.here hx rfl (hb hby d1_9) rfl k) ?_
  show Go _ _ _ _ _ _ _ (s₁.setTop (mkF m 11 #[.val (.ref rn), .val (.long of), .second, .val (.long ln), .second, .val (.int (0 : Int32)), .val (.int (0 : Int32)), .unset] [(.int (0 : Int32))]))
  refine Go.step (fun t k => XS.iload X0.here hx rfl (hb hby d1_11) rfl k) ?_
  show Go _ _ _ _ _ _ _ (s₁.setTop (mkF m 13 #[.val (.ref rn), .val (.long of), .second, .val (.long ln), .second, .val (.int (0 : Int32)), .val (.int (0 : Int32)), .unset] [(.int (0 : Int32)), (.int (0 : Int32))]))
  refine Go.step (fun t k => XS.icmpYes X0.here hx rfl (pc0 := 13) (pc' := 54) rfl (hb hby d1_13) rfl (flt (by decide : ¬ (0 : Int32) < (0 : Int32))).2.1 (by decide) (by decide) k) ?_
  show Go _ _ _ _ _ _ _ (s₁.setTop (mkF m 54 #[.val (.ref rn), .val (.long of), .second, .val (.long ln), .second, .val (.int (0 : Int32)), .val (.int (0 : Int32)), .unset] []))
  refine Go.step (fun t k => XS.iload X0.here hx rfl (hb hby d1_54) rfl k) ?_
  show Go _ _ _ _ _ _ _ (s₁.setTop (mkF m 56 #[.val (.ref rn), .val (.long of), .second, .val (.long ln), .second, .val (.int (0 : Int32)), .val (.int (0 : Int32)), .unset] [(.int (0 : Int32))]))
  refine Go.step (fun t k => XS.iconst X0.here hx rfl (hb hby d1_56) k) ?_
  show Go _ _ _ _ _ _ _ (s₁.setTop (mkF m 57 #[.val (.ref rn), .val (.long of), .second, .val (.long ln), .second, .val (.int (0 : Int32)), .val (.int (0 : Int32)), .unset] [(.int (1 : Int32)), (.int (0 : Int32))]))
  refine Go.step (fun t k => XS.isub X0.here hx rfl (hb hby d1_57) rfl k) ?_
  show Go _ _ _ _ _ _ _ (s₁.setTop (mkF m 58 #[.val (.ref rn), .val (.long of), .second, .val (.long ln), .second, .val (.int (0 : Int32)), .val (.int (0 : Int32)), .unset] [(.int (-1 : Int32))]))
  refine Go.step (fun t k => XS.istore X0.here hx rfl (hb hby d1_58) rfl (l' := #[.val (.ref rn), .val (.long of), .second, .val (.long ln), .second, .val (.int (0 : Int32)), .val (.int (0 : Int32)), .val (.int (-1 : Int32))]) rfl k) ?_
  show Go _ _ _ _ _ _ _ (s₁.setTop (mkF m 60 #[.val (.ref rn), .val (.long of), .second, .val (.long ln), .second, .val (.int (0 : Int32)), .val (.int (0 : Int32)), .val (.int (-1 : Int32))] []))
  refine Go.step (fun t k => XS.lloadN X0.here hx rfl (hb hby d1_60) rfl k) ?_
  show Go _ _ _ _ _ _ _ (s₁.setTop (mkF m 61 #[.val (.ref rn), .val (.long of), .second, .val (.long ln), .second, .val (.int (0 : Int32)), .val (.int (0 : Int32)), .val (.int (-1 : Int32))] [(.long ln)]))
  refine Go.step (fun t k => XS.lconst X0.here hx rfl (hb hby d1_61) k) ?_
  show Go _ _ _ _ _ _ _ (s₁.setTop (mkF m 62 #[.val (.ref rn), .val (.long of), .second, .val (.long ln), .second, .val (.int (0 : Int32)), .val (.int (0 : Int32)), .val (.int (-1 : Int32))] [(.long (0 : Int64)), (.long ln)]))
  refine Go.step (fun t k => XS.lcmp X0.here hx rfl (hb hby d1_62) rfl k) ?_
  show Go _ _ _ _ _ _ _ (s₁.setTop (mkF m 63 #[.val (.ref rn), .val (.long of), .second, .val (.long ln), .second, .val (.int (0 : Int32)), .val (.int (0 : Int32)), .val (.int (-1 : Int32))] [(.int (lcmpW ln (0 : Int64)))]))
  by_cases hc63_2 : (0 : Int64) < ln
  · refine Go.step (fun t k => XS.ifNo X0.here hx rfl (hb hby d1_63) rfl ((if0 _ _).trans (tlt (own_lwgt hc63_2)).2.2.2) k) ?_
    show Go _ _ _ _ _ _ _ (s₁.setTop (mkF m 66 #[.val (.ref rn), .val (.long of), .second, .val (.long ln), .second, .val (.int (0 : Int32)), .val (.int (0 : Int32)), .val (.int (-1 : Int32))] []))
    refine Go.step (fun t k => XS.iload X0.here hx rfl (hb hby d1_66) rfl k) ?_
    show Go _ _ _ _ _ _ _ (s₁.setTop (mkF m 68 #[.val (.ref rn), .val (.long of), .second, .val (.long ln), .second, .val (.int (0 : Int32)), .val (.int (0 : Int32)), .val (.int (-1 : Int32))] [(.int (-1 : Int32))]))
    refine Go.step (fun t k => XS.ifYes X0.here hx rfl (pc0 := 68) (pc' := 95) rfl (hb hby d1_68) rfl ((if0 _ _).trans (tlt (by decide : (-1 : Int32) < (0 : Int32))).1) (by decide) (by decide) k) ?_
    show Go _ _ _ _ _ _ _ (s₁.setTop (mkF m 95 #[.val (.ref rn), .val (.long of), .second, .val (.long ln), .second, .val (.int (0 : Int32)), .val (.int (0 : Int32)), .val (.int (-1 : Int32))] []))
    refine Go.step (fun t k => XS.iconst X0.here hx rfl (hb hby d1_95) k) ?_
    show Go _ _ _ _ _ _ _ (s₁.setTop (mkF m 96 #[.val (.ref rn), .val (.long of), .second, .val (.long ln), .second, .val (.int (0 : Int32)), .val (.int (0 : Int32)), .val (.int (-1 : Int32))] [(.int (0 : Int32))]))
    refine Go.retN X0 Bd.notSynchronized hx (t := .boolean) Bd.returns (by simp) (hb hby d1_96) (by decide) (by decide) (0 : Int32) rfl ?_
    rw [e0]
    have ihc63_2 := own_ltL hc63_2
    have e0L : (0 : Int64).toInt = 0 := rfl
    exact ⟨(0 : Int32), rfl, N0, rfl, (Or.inr ⟨rfl, id⟩)⟩
  · refine Go.step (fun t k => XS.ifYes X0.here hx rfl (pc0 := 63) (pc' := 95) rfl (hb hby d1_63) rfl ((if0 _ _).trans (flt (own_nlwgt hc63_2)).2.2.2) (by decide) (by decide) k) ?_
    show Go _ _ _ _ _ _ _ (s₁.setTop (mkF m 95 #[.val (.ref rn), .val (.long of), .second, .val (.long ln), .second, .val (.int (0 : Int32)), .val (.int (0 : Int32)), .val (.int (-1 : Int32))] []))
    refine Go.step (fun t k => XS.iconst X0.here hx rfl (hb hby d1_95) k) ?_
    show Go _ _ _ _ _ _ _ (s₁.setTop (mkF m 96 #[.val (.ref rn), .val (.long of), .second, .val (.long ln), .second, .val (.int (0 : Int32)), .val (.int (0 : Int32)), .val (.int (-1 : Int32))] [(.int (0 : Int32))]))
    refine Go.retN X0 Bd.notSynchronized hx (t := .boolean) Bd.returns (by simp) (hb hby d1_96) (by decide) (by decide) (0 : Int32) rfl ?_
    rw [e0]
    have ihc63_2 := own_nltL hc63_2
    have e0L : (0 : Int64).toInt = 0 := rfl
    exact ⟨(0 : Int32), rfl, N0, rfl, (Or.inr ⟨rfl, id⟩)⟩
theorem pn_1_1 : plainName "com/example/rootkeep/rootkeep/file/FreeSpace" = true := by first | (simp [plainName, overriddenIn]; done) | decide +kernel
theorem ef_1_1 (m : MethodId) (x0 : Addr) (x1 : Int64) (x2 : Int64) : entryFrame m #[(.ref x0), (.long x1), (.long x2)] 8 = mkF m 0 #[.val (.ref x0), .val (.long x1), .second, .val (.long x2), .second, .unset, .unset, .unset] [] := by first | (simp [entryFrame, mkF, argsToLocals, Value.category]; done) | rfl
def Q1_1 (Z : State) (rn : Addr) (of : Int64) (ln : Int64) (o0 : Int64) (l0 : Int64) (h0 : Heap) (n0 : Nat) (v : Option Value) (h : Heap) (L : List Loc) : Prop := ∃ z : Int32, v = some (.int z) ∧ Fr n0 L ∧ h = h0 ∧ ((z = 1 ∧ (own_hit o0 l0 of ln)) ∨ (z = 0 ∧ ¬ (own_hit o0 l0 of ln)))
set_option maxRecDepth 65536 in
set_option maxHeartbeats 40000000 in
theorem rm1_1 (l : Launch) (Z : State) (a0 : Array Value) (hw : ∀ d ∈ tables_1, d.before a0 Z = true) (ws : List Jvm.Cond) (rn : Addr) (of : Int64) (ln : Int64) (o0 : Int64) (l0 : Int64) (h0 : Heap) (n0 : Nat) (Z0 : n0 ≤ h0.size) (A_rn : AryJ Z h0 rn 2 (up (up (fun _ => (0 : Int64)) 0 o0) 1 l0)) (hord : (own_or1 o0 l0 of)) :
    MetFree l (⟨"com/example/rootkeep/rootkeep/file/FreeSpace", "overlaps", "([JJJ)Z"⟩ : MethodName) (head1 (Jvm.Cond.code (⟨"com/example/rootkeep/rootkeep/file/FreeSpace", "overlaps", "([JJJ)Z"⟩ : MethodName) prog_21_method_4_code 8 (some .boolean) :: ws) ({ frames := 0, cells := 0, slots := 0, locals := 0 } : Room)) (fun a U => a = #[(.ref rn), (.long of), (.long ln)] ∧ Z.Warmed39 U.vm ∧ U.heap = h0) (fun _ _ _ _ _ => True) (fun _ U o U' => ∃ v L, o = .returned v ∧ Q1_1 Z rn of ln o0 l0 h0 n0 v U'.heap L ∧ FrameEnd U o U' L ({ frames := 0, cells := 0, slots := 0, locals := 0 } : Room).cells ({ frames := 0, cells := 0, slots := 0, locals := 0 } : Room).slots) := by
  refine MetFree.of_bodySF (plainFor_of_name pn_1_1) hisR ?_
  intro p e s m args below meth c s₁ Bd hml0 hP hK
  obtain ⟨rfl, hZ, hh⟩ := hP
  have hx := Bd.exec
  have hby := Bd.bytes
  have hml : c.maxLocals = 8 := hml0
  have hown : s.vm.findClass "com/example/rootkeep/rootkeep/file/FreeSpace" = some m.cls := findClass_of_methodNamed Bd.named
  have hnm := (name_of_methodNamed Bd.named Bd.method).1
  have X0 : Stand p l e ({ frames := 0, cells := 0, slots := 0, locals := 0 } : Room) s m #[(.ref rn), (.long of), (.long ln)] below meth c s₁ [] 0 0 := Stand.of_body Bd
  have e0 : s₁.heap = h0 := by rw [← hh, Bd.state]; rfl
  have N0 := Fr.nil n0
  show Go p e below s (Q1_1 Z rn of ln o0 l0 h0 n0) ({ frames := 0, cells := 0, slots := 0, locals := 0 } : Room).cells ({ frames := 0, cells := 0, slots := 0, locals := 0 } : Room).slots (s₁.setTop (entryFrame m #[(.ref rn), (.long of), (.long ln)] 8))
  rw [ef_1_1]
  show Go _ _ _ _ _ _ _ (s₁.setTop (mkF m 0 #[.val (.ref rn), .val (.long of), .second, .val (.long ln), .second, .unset, .unset, .unset] []))
  refine Go.step (fun t k => XS.iconst X0.here hx rfl (hb hby d1_0) k) ?_
  show Go _ _ _ _ _ _ _ (s₁.setTop (mkF m 1 #[.val (.ref rn), .val (.long of), .second, .val (.long ln), .second, .unset, .unset, .unset] [(.int (0 : Int32))]))
  refine Go.step (fun t k => XS.istore X0.here hx rfl (hb hby d1_1) rfl (l' := #[.val (.ref rn), .val (.long of), .second, .val (.long ln), .second, .val (.int (0 : Int32)), .unset, .unset]) rfl k) ?_
  show Go _ _ _ _ _ _ _ (s₁.setTop (mkF m 3 #[.val (.ref rn), .val (.long of), .second, .val (.long ln), .second, .val (.int (0 : Int32)), .unset, .unset] []))
  refine Go.step (fun t k => XS.aloadN X0.here hx rfl (hb hby d1_3) rfl rfl k) ?_
  show Go _ _ _ _ _ _ _ (s₁.setTop (mkF m 4 #[.val (.ref rn), .val (.long of), .second, .val (.long ln), .second, .val (.int (0 : Int32)), .unset, .unset] [(.ref rn)]))
  refine Go.step (own_len X0 hx hZ e0 A_rn (z := (2 : Int32)) rfl (f := (mkF m 4 #[.val (.ref rn), .val (.long of), .second, .val (.long ln), .second, .val (.int (0 : Int32)), .unset, .unset] [(.ref rn)])) rfl rfl (hb hby d1_4)) ?_
  show Go _ _ _ _ _ _ _ (s₁.setTop (mkF m 5 #[.val (.ref rn), .val (.long of), .second, .val (.long ln), .second, .val (.int (0 : Int32)), .unset, .unset] [(.int (2 : Int32))]))
  refine Go.step (fun t k => XS.iconst X0.here hx rfl (hb hby d1_5) k) ?_
  show Go _ _ _ _ _ _ _ (s₁.setTop (mkF m 6 #[.val (.ref rn), .val (.long of), .second, .val (.long ln), .second, .val (.int (0 : Int32)), .unset, .unset] [(.int (2 : Int32)), (.int (2 : Int32))]))
  refine Go.step (fun t k => XS.idiv X0.here hx rfl (hb hby d1_6) rfl (by decide) k) ?_
  show Go _ _ _ _ _ _ _ (s₁.setTop (mkF m 7 #[.val (.ref rn), .val (.long of), .second, .val (.long ln), .second, .val (.int (0 : Int32)), .unset, .unset] [(.int (1 : Int32))]))
  refine Go.step (fun t k => XS.istore X0.here hx rfl (hb hby d1_7) rfl (l' := #[.val (.ref rn), .val (.long of), .second, .val (.long ln), .second, .val (.int (0 : Int32)), .val (.int (1 : Int32)), .unset]) rfl k) ?_
  show Go _ _ _ _ _ _ _ (s₁.setTop (mkF m 9 #[.val (.ref rn), .val (.long of), .second, .val (.long ln), .second, .val (.int (0 : Int32)), .val (.int (1 : Int32)), .unset] []))
  refine Go.step (fun t k => XS.iload X0.here hx rfl (hb hby d1_9) rfl k) ?_
  show Go _ _ _ _ _ _ _ (s₁.setTop (mkF m 11 #[.val (.ref rn), .val (.long of), .second, .val (.long ln), .second, .val (.int (0 : Int32)), .val (.int (1 : Int32)), .unset] [(.int (0 : Int32))]))
  refine Go.step (fun t k => XS.iload X0.here hx rfl (hb hby d1_11) rfl k) ?_
  show Go _ _ _ _ _ _ _ (s₁.setTop (mkF m 13 #[.val (.ref rn), .val (.long of), .second, .val (.long ln), .second, .val (.int (0 : Int32)), .val (.int (1 : Int32)), .unset] [(.int (1 : Int32)), (.int (0 : Int32))]))
  refine Go.step (fun t k => XS.icmpNo X0.here hx rfl (hb hby d1_13) rfl (tlt (by decide : (0 : Int32) < (1 : Int32))).2.1 k) ?_
  show Go _ _ _ _ _ _ _ (s₁.setTop (mkF m 16 #[.val (.ref rn), .val (.long of), .second, .val (.long ln), .second, .val (.int (0 : Int32)), .val (.int (1 : Int32)), .unset] []))
  refine Go.step (fun t k => XS.iload X0.here hx rfl (hb hby d1_16) rfl k) ?_
  show Go _ _ _ _ _ _ _ (s₁.setTop (mkF m 18 #[.val (.ref rn), .val (.long of), .second, .val (.long ln), .second, .val (.int (0 : Int32)), .val (.int (1 : Int32)), .unset] [(.int (0 : Int32))]))
  refine Go.step (fun t k => XS.iload X0.here hx rfl (hb hby d1_18) rfl k) ?_
  show Go _ _ _ _ _ _ _ (s₁.setTop (mkF m 20 #[.val (.ref rn), .val (.long of), .second, .val (.long ln), .second, .val (.int (0 : Int32)), .val (.int (1 : Int32)), .unset] [(.int (1 : Int32)), (.int (0 : Int32))]))
  refine Go.step (fun t k => XS.iadd X0.here hx rfl (hb hby d1_20) rfl k) ?_
  show Go _ _ _ _ _ _ _ (s₁.setTop (mkF m 21 #[.val (.ref rn), .val (.long of), .second, .val (.long ln), .second, .val (.int (0 : Int32)), .val (.int (1 : Int32)), .unset] [(.int (1 : Int32))]))
  refine Go.step (fun t k => XS.iconst X0.here hx rfl (hb hby d1_21) k) ?_
  show Go _ _ _ _ _ _ _ (s₁.setTop (mkF m 22 #[.val (.ref rn), .val (.long of), .second, .val (.long ln), .second, .val (.int (0 : Int32)), .val (.int (1 : Int32)), .unset] [(.int (1 : Int32)), (.int (1 : Int32))]))
  refine Go.step (fun t k => XS.iushr X0.here hx rfl (hb hby d1_22) rfl k) ?_
  show Go _ _ _ _ _ _ _ (s₁.setTop (mkF m 23 #[.val (.ref rn), .val (.long of), .second, .val (.long ln), .second, .val (.int (0 : Int32)), .val (.int (1 : Int32)), .unset] [(.int (0 : Int32))]))
  refine Go.step (fun t k => XS.istore X0.here hx rfl (hb hby d1_23) rfl (l' := #[.val (.ref rn), .val (.long of), .second, .val (.long ln), .second, .val (.int (0 : Int32)), .val (.int (1 : Int32)), .val (.int (0 : Int32))]) rfl k) ?_
  show Go _ _ _ _ _ _ _ (s₁.setTop (mkF m 25 #[.val (.ref rn), .val (.long of), .second, .val (.long ln), .second, .val (.int (0 : Int32)), .val (.int (1 : Int32)), .val (.int (0 : Int32))] []))
  refine Go.step (fun t k => XS.aloadN X0.here hx rfl (hb hby d1_25) rfl rfl k) ?_
  show Go _ _ _ _ _ _ _ (s₁.setTop (mkF m 26 #[.val (.ref rn), .val (.long of), .second, .val (.long ln), .second, .val (.int (0 : Int32)), .val (.int (1 : Int32)), .val (.int (0 : Int32))] [(.ref rn)]))
  refine Go.step (fun t k => XS.iconst X0.here hx rfl (hb hby d1_26) k) ?_
  show Go _ _ _ _ _ _ _ (s₁.setTop (mkF m 27 #[.val (.ref rn), .val (.long of), .second, .val (.long ln), .second, .val (.int (0 : Int32)), .val (.int (1 : Int32)), .val (.int (0 : Int32))] [(.int (2 : Int32)), (.ref rn)]))
  refine Go.step (fun t k => XS.iload X0.here hx rfl (hb hby d1_27) rfl k) ?_
  show Go _ _ _ _ _ _ _ (s₁.setTop (mkF m 29 #[.val (.ref rn), .val (.long of), .second, .val (.long ln), .second, .val (.int (0 : Int32)), .val (.int (1 : Int32)), .val (.int (0 : Int32))] [(.int (0 : Int32)), (.int (2 : Int32)), (.ref rn)]))
  refine Go.step (fun t k => XS.imul X0.here hx rfl (hb hby d1_29) rfl k) ?_
  show Go _ _ _ _ _ _ _ (s₁.setTop (mkF m 30 #[.val (.ref rn), .val (.long of), .second, .val (.long ln), .second, .val (.int (0 : Int32)), .val (.int (1 : Int32)), .val (.int (0 : Int32))] [(.int (0 : Int32)), (.ref rn)]))
  refine Go.step (own_ld X0 hx hZ e0 A_rn (j := (0 : Int32)) 0 rfl (by decide) (v := (.long o0)) rfl (Or.inr (Or.inl ⟨rfl, rfl⟩)) (f := (mkF m 30 #[.val (.ref rn), .val (.long of), .second, .val (.long ln), .second, .val (.int (0 : Int32)), .val (.int (1 : Int32)), .val (.int (0 : Int32))] [(.int (0 : Int32)), (.ref rn)])) rfl rfl (hb hby d1_30)) ?_
  show Go _ _ _ _ _ _ _ (s₁.setTop (mkF m 31 #[.val (.ref rn), .val (.long of), .second, .val (.long ln), .second, .val (.int (0 : Int32)), .val (.int (1 : Int32)), .val (.int (0 : Int32))] [(.long o0)]))
  refine Go.step (fun t k => XS.lloadN X0.here hx rfl (hb hby d1_31) rfl k) ?_
  show Go _ _ _ _ _ _ _ (s₁.setTop (mkF m 32 #[.val (.ref rn), .val (.long of), .second, .val (.long ln), .second, .val (.int (0 : Int32)), .val (.int (1 : Int32)), .val (.int (0 : Int32))] [(.long of), (.long o0)]))
  refine Go.step (fun t k => XS.lloadN X0.here hx rfl (hb hby d1_32) rfl k) ?_
  show Go _ _ _ _ _ _ _ (s₁.setTop (mkF m 33 #[.val (.ref rn), .val (.long of), .second, .val (.long ln), .second, .val (.int (0 : Int32)), .val (.int (1 : Int32)), .val (.int (0 : Int32))] [(.long ln), (.long of), (.long o0)]))
  refine Go.step (fun t k => XS.ladd X0.here hx rfl (hb hby d1_33) rfl k) ?_
  show Go _ _ _ _ _ _ _ (s₁.setTop (mkF m 34 #[.val (.ref rn), .val (.long of), .second, .val (.long ln), .second, .val (.int (0 : Int32)), .val (.int (1 : Int32)), .val (.int (0 : Int32))] [(.long (of + ln)), (.long o0)]))
  refine Go.step (fun t k => XS.lcmp X0.here hx rfl (hb hby d1_34) rfl k) ?_
  show Go _ _ _ _ _ _ _ (s₁.setTop (mkF m 35 #[.val (.ref rn), .val (.long of), .second, .val (.long ln), .second, .val (.int (0 : Int32)), .val (.int (1 : Int32)), .val (.int (0 : Int32))] [(.int (lcmpW o0 (of + ln)))]))
  by_cases hc35_3 : o0 < (of + ln)
  · refine Go.step (fun t k => XS.ifNo X0.here hx rfl (hb hby d1_35) rfl ((if0 _ _).trans (tlt (own_lwlt hc35_3)).2.1) k) ?_
    show Go _ _ _ _ _ _ _ (s₁.setTop (mkF m 38 #[.val (.ref rn), .val (.long of), .second, .val (.long ln), .second, .val (.int (0 : Int32)), .val (.int (1 : Int32)), .val (.int (0 : Int32))] []))
    refine Go.step (fun t k => XS.iload X0.here hx rfl (hb hby d1_38) rfl k) ?_
    show Go _ _ _ _ _ _ _ (s₁.setTop (mkF m 40 #[.val (.ref rn), .val (.long of), .second, .val (.long ln), .second, .val (.int (0 : Int32)), .val (.int (1 : Int32)), .val (.int (0 : Int32))] [(.int (0 : Int32))]))
    refine Go.step (fun t k => XS.iconst X0.here hx rfl (hb hby d1_40) k) ?_
    show Go _ _ _ _ _ _ _ (s₁.setTop (mkF m 41 #[.val (.ref rn), .val (.long of), .second, .val (.long ln), .second, .val (.int (0 : Int32)), .val (.int (1 : Int32)), .val (.int (0 : Int32))] [(.int (1 : Int32)), (.int (0 : Int32))]))
    refine Go.step (fun t k => XS.iadd X0.here hx rfl (hb hby d1_41) rfl k) ?_
    show Go _ _ _ _ _ _ _ (s₁.setTop (mkF m 42 #[.val (.ref rn), .val (.long of), .second, .val (.long ln), .second, .val (.int (0 : Int32)), .val (.int (1 : Int32)), .val (.int (0 : Int32))] [(.int (1 : Int32))]))
    refine Go.step (fun t k => XS.istore X0.here hx rfl (hb hby d1_42) rfl (l' := #[.val (.ref rn), .val (.long of), .second, .val (.long ln), .second, .val (.int (1 : Int32)), .val (.int (1 : Int32)), .val (.int (0 : Int32))]) rfl k) ?_
    show Go _ _ _ _ _ _ _ (s₁.setTop (mkF m 44 #[.val (.ref rn), .val (.long of), .second, .val (.long ln), .second, .val (.int (1 : Int32)), .val (.int (1 : Int32)), .val (.int (0 : Int32))] []))
    refine Go.step (fun t k => XS.goto X0.here hx rfl (pc0 := 44) (pc' := 51) rfl (hb hby d1_44) (by decide) (by decide) k) ?_
    show Go _ _ _ _ _ _ _ (s₁.setTop (mkF m 51 #[.val (.ref rn), .val (.long of), .second, .val (.long ln), .second, .val (.int (1 : Int32)), .val (.int (1 : Int32)), .val (.int (0 : Int32))] []))
    refine Go.step (fun t k => XS.goto X0.here hx rfl (pc0 := 51) (pc' := 9) rfl (hb hby d1_51) (by decide) (by decide) k) ?_
    show Go _ _ _ _ _ _ _ (s₁.setTop (mkF m 9 #[.val (.ref rn), .val (.long of), .second, .val (.long ln), .second, .val (.int (1 : Int32)), .val (.int (1 : Int32)), .val (.int (0 : Int32))] []))
    refine Go.step (fun t k => XS.iload X0.here hx rfl (hb hby d1_9) rfl k) ?_
    show Go _ _ _ _ _ _ _ (s₁.setTop (mkF m 11 #[.val (.ref rn), .val (.long of), .second, .val (.long ln), .second, .val (.int (1 : Int32)), .val (.int (1 : Int32)), .val (.int (0 : Int32))] [(.int (1 : Int32))]))
    refine Go.step (fun t k => XS.iload X0.here hx rfl (hb hby d1_11) rfl k) ?_
    show Go _ _ _ _ _ _ _ (s₁.setTop (mkF m 13 #[.val (.ref rn), .val (.long of), .second, .val (.long ln), .second, .val (.int (1 : Int32)), .val (.int (1 : Int32)), .val (.int (0 : Int32))] [(.int (1 : Int32)), (.int (1 : Int32))]))
    refine Go.step (fun t k => XS.icmpYes X0.here hx rfl (pc0 := 13) (pc' := 54) rfl (hb hby d1_13) rfl (flt (by decide : ¬ (1 : Int32) < (1 : Int32))).2.1 (by decide) (by decide) k) ?_
    show Go _ _ _ _ _ _ _ (s₁.setTop (mkF m 54 #[.val (.ref rn), .val (.long of), .second, .val (.long ln), .second, .val (.int (1 : Int32)), .val (.int (1 : Int32)), .val (.int (0 : Int32))] []))
    refine Go.step (fun t k => XS.iload X0.here hx rfl (hb hby d1_54) rfl k) ?_
    show Go _ _ _ _ _ _ _ (s₁.setTop (mkF m 56 #[.val (.ref rn), .val (.long of), .second, .val (.long ln), .second, .val (.int (1 : Int32)), .val (.int (1 : Int32)), .val (.int (0 : Int32))] [(.int (1 : Int32))]))
    refine Go.step (fun t k => XS.iconst X0.here hx rfl (hb hby d1_56) k) ?_
    show Go _ _ _ _ _ _ _ (s₁.setTop (mkF m 57 #[.val (.ref rn), .val (.long of), .second, .val (.long ln), .second, .val (.int (1 : Int32)), .val (.int (1 : Int32)), .val (.int (0 : Int32))] [(.int (1 : Int32)), (.int (1 : Int32))]))
    refine Go.step (fun t k => XS.isub X0.here hx rfl (hb hby d1_57) rfl k) ?_
    show Go _ _ _ _ _ _ _ (s₁.setTop (mkF m 58 #[.val (.ref rn), .val (.long of), .second, .val (.long ln), .second, .val (.int (1 : Int32)), .val (.int (1 : Int32)), .val (.int (0 : Int32))] [(.int (0 : Int32))]))
    refine Go.step (fun t k => XS.istore X0.here hx rfl (hb hby d1_58) rfl (l' := #[.val (.ref rn), .val (.long of), .second, .val (.long ln), .second, .val (.int (1 : Int32)), .val (.int (1 : Int32)), .val (.int (0 : Int32))]) rfl k) ?_
    show Go _ _ _ _ _ _ _ (s₁.setTop (mkF m 60 #[.val (.ref rn), .val (.long of), .second, .val (.long ln), .second, .val (.int (1 : Int32)), .val (.int (1 : Int32)), .val (.int (0 : Int32))] []))
    refine Go.step (fun t k => XS.lloadN X0.here hx rfl (hb hby d1_60) rfl k) ?_
    show Go _ _ _ _ _ _ _ (s₁.setTop (mkF m 61 #[.val (.ref rn), .val (.long of), .second, .val (.long ln), .second, .val (.int (1 : Int32)), .val (.int (1 : Int32)), .val (.int (0 : Int32))] [(.long ln)]))
    refine Go.step (fun t k => XS.lconst X0.here hx rfl (hb hby d1_61) k) ?_
    show Go _ _ _ _ _ _ _ (s₁.setTop (mkF m 62 #[.val (.ref rn), .val (.long of), .second, .val (.long ln), .second, .val (.int (1 : Int32)), .val (.int (1 : Int32)), .val (.int (0 : Int32))] [(.long (0 : Int64)), (.long ln)]))
    refine Go.step (fun t k => XS.lcmp X0.here hx rfl (hb hby d1_62) rfl k) ?_
    show Go _ _ _ _ _ _ _ (s₁.setTop (mkF m 63 #[.val (.ref rn), .val (.long of), .second, .val (.long ln), .second, .val (.int (1 : Int32)), .val (.int (1 : Int32)), .val (.int (0 : Int32))] [(.int (lcmpW ln (0 : Int64)))]))
    by_cases hc63_4 : (0 : Int64) < ln
    · refine Go.step (fun t k => XS.ifNo X0.here hx rfl (hb hby d1_63) rfl ((if0 _ _).trans (tlt (own_lwgt hc63_4)).2.2.2) k) ?_
      show Go _ _ _ _ _ _ _ (s₁.setTop (mkF m 66 #[.val (.ref rn), .val (.long of), .second, .val (.long ln), .second, .val (.int (1 : Int32)), .val (.int (1 : Int32)), .val (.int (0 : Int32))] []))
      refine Go.step (fun t k => XS.iload X0.here hx rfl (hb hby d1_66) rfl k) ?_
      show Go _ _ _ _ _ _ _ (s₁.setTop (mkF m 68 #[.val (.ref rn), .val (.long of), .second, .val (.long ln), .second, .val (.int (1 : Int32)), .val (.int (1 : Int32)), .val (.int (0 : Int32))] [(.int (0 : Int32))]))
      refine Go.step (fun t k => XS.ifNo X0.here hx rfl (hb hby d1_68) rfl ((if0 _ _).trans (flt (by decide : ¬ (0 : Int32) < (0 : Int32))).1) k) ?_
      show Go _ _ _ _ _ _ _ (s₁.setTop (mkF m 71 #[.val (.ref rn), .val (.long of), .second, .val (.long ln), .second, .val (.int (1 : Int32)), .val (.int (1 : Int32)), .val (.int (0 : Int32))] []))
      refine Go.step (fun t k => XS.aloadN X0.here hx rfl (hb hby d1_71) rfl rfl k) ?_
      show Go _ _ _ _ _ _ _ (s₁.setTop (mkF m 72 #[.val (.ref rn), .val (.long of), .second, .val (.long ln), .second, .val (.int (1 : Int32)), .val (.int (1 : Int32)), .val (.int (0 : Int32))] [(.ref rn)]))
      refine Go.step (fun t k => XS.iconst X0.here hx rfl (hb hby d1_72) k) ?_
      show Go _ _ _ _ _ _ _ (s₁.setTop (mkF m 73 #[.val (.ref rn), .val (.long of), .second, .val (.long ln), .second, .val (.int (1 : Int32)), .val (.int (1 : Int32)), .val (.int (0 : Int32))] [(.int (2 : Int32)), (.ref rn)]))
      refine Go.step (fun t k => XS.iload X0.here hx rfl (hb hby d1_73) rfl k) ?_
      show Go _ _ _ _ _ _ _ (s₁.setTop (mkF m 75 #[.val (.ref rn), .val (.long of), .second, .val (.long ln), .second, .val (.int (1 : Int32)), .val (.int (1 : Int32)), .val (.int (0 : Int32))] [(.int (0 : Int32)), (.int (2 : Int32)), (.ref rn)]))
      refine Go.step (fun t k => XS.imul X0.here hx rfl (hb hby d1_75) rfl k) ?_
      show Go _ _ _ _ _ _ _ (s₁.setTop (mkF m 76 #[.val (.ref rn), .val (.long of), .second, .val (.long ln), .second, .val (.int (1 : Int32)), .val (.int (1 : Int32)), .val (.int (0 : Int32))] [(.int (0 : Int32)), (.ref rn)]))
      refine Go.step (own_ld X0 hx hZ e0 A_rn (j := (0 : Int32)) 0 rfl (by decide) (v := (.long o0)) rfl (Or.inr (Or.inl ⟨rfl, rfl⟩)) (f := (mkF m 76 #[.val (.ref rn), .val (.long of), .second, .val (.long ln), .second, .val (.int (1 : Int32)), .val (.int (1 : Int32)), .val (.int (0 : Int32))] [(.int (0 : Int32)), (.ref rn)])) rfl rfl (hb hby d1_76)) ?_
      show Go _ _ _ _ _ _ _ (s₁.setTop (mkF m 77 #[.val (.ref rn), .val (.long of), .second, .val (.long ln), .second, .val (.int (1 : Int32)), .val (.int (1 : Int32)), .val (.int (0 : Int32))] [(.long o0)]))
      refine Go.step (fun t k => XS.aloadN X0.here hx rfl (hb hby d1_77) rfl rfl k) ?_
      show Go _ _ _ _ _ _ _ (s₁.setTop (mkF m 78 #[.val (.ref rn), .val (.long of), .second, .val (.long ln), .second, .val (.int (1 : Int32)), .val (.int (1 : Int32)), .val (.int (0 : Int32))] [(.ref rn), (.long o0)]))
      refine Go.step (fun t k => XS.iconst X0.here hx rfl (hb hby d1_78) k) ?_
      show Go _ _ _ _ _ _ _ (s₁.setTop (mkF m 79 #[.val (.ref rn), .val (.long of), .second, .val (.long ln), .second, .val (.int (1 : Int32)), .val (.int (1 : Int32)), .val (.int (0 : Int32))] [(.int (2 : Int32)), (.ref rn), (.long o0)]))
      refine Go.step (fun t k => XS.iload X0.here hx rfl (hb hby d1_79) rfl k) ?_
      show Go _ _ _ _ _ _ _ (s₁.setTop (mkF m 81 #[.val (.ref rn), .val (.long of), .second, .val (.long ln), .second, .val (.int (1 : Int32)), .val (.int (1 : Int32)), .val (.int (0 : Int32))] [(.int (0 : Int32)), (.int (2 : Int32)), (.ref rn), (.long o0)]))
      refine Go.step (fun t k => XS.imul X0.here hx rfl (hb hby d1_81) rfl k) ?_
      show Go _ _ _ _ _ _ _ (s₁.setTop (mkF m 82 #[.val (.ref rn), .val (.long of), .second, .val (.long ln), .second, .val (.int (1 : Int32)), .val (.int (1 : Int32)), .val (.int (0 : Int32))] [(.int (0 : Int32)), (.ref rn), (.long o0)]))
      refine Go.step (fun t k => XS.iconst X0.here hx rfl (hb hby d1_82) k) ?_
      show Go _ _ _ _ _ _ _ (s₁.setTop (mkF m 83 #[.val (.ref rn), .val (.long of), .second, .val (.long ln), .second, .val (.int (1 : Int32)), .val (.int (1 : Int32)), .val (.int (0 : Int32))] [(.int (1 : Int32)), (.int (0 : Int32)), (.ref rn), (.long o0)]))
      refine Go.step (fun t k => XS.iadd X0.here hx rfl (hb hby d1_83) rfl k) ?_
      show Go _ _ _ _ _ _ _ (s₁.setTop (mkF m 84 #[.val (.ref rn), .val (.long of), .second, .val (.long ln), .second, .val (.int (1 : Int32)), .val (.int (1 : Int32)), .val (.int (0 : Int32))] [(.int (1 : Int32)), (.ref rn), (.long o0)]))
      refine Go.step (own_ld X0 hx hZ e0 A_rn (j := (1 : Int32)) 1 rfl (by decide) (v := (.long l0)) rfl (Or.inr (Or.inl ⟨rfl, rfl⟩)) (f := (mkF m 84 #[.val (.ref rn), .val (.long of), .second, .val (.long ln), .second, .val (.int (1 : Int32)), .val (.int (1 : Int32)), .val (.int (0 : Int32))] [(.int (1 : Int32)), (.ref rn), (.long o0)])) rfl rfl (hb hby d1_84)) ?_
      show Go _ _ _ _ _ _ _ (s₁.setTop (mkF m 85 #[.val (.ref rn), .val (.long of), .second, .val (.long ln), .second, .val (.int (1 : Int32)), .val (.int (1 : Int32)), .val (.int (0 : Int32))] [(.long l0), (.long o0)]))
      refine Go.step (fun t k => XS.ladd X0.here hx rfl (hb hby d1_85) rfl k) ?_
      show Go _ _ _ _ _ _ _ (s₁.setTop (mkF m 86 #[.val (.ref rn), .val (.long of), .second, .val (.long ln), .second, .val (.int (1 : Int32)), .val (.int (1 : Int32)), .val (.int (0 : Int32))] [(.long (o0 + l0))]))
      refine Go.step (fun t k => XS.lloadN X0.here hx rfl (hb hby d1_86) rfl k) ?_
      show Go _ _ _ _ _ _ _ (s₁.setTop (mkF m 87 #[.val (.ref rn), .val (.long of), .second, .val (.long ln), .second, .val (.int (1 : Int32)), .val (.int (1 : Int32)), .val (.int (0 : Int32))] [(.long of), (.long (o0 + l0))]))
      refine Go.step (fun t k => XS.lcmp X0.here hx rfl (hb hby d1_87) rfl k) ?_
      show Go _ _ _ _ _ _ _ (s₁.setTop (mkF m 88 #[.val (.ref rn), .val (.long of), .second, .val (.long ln), .second, .val (.int (1 : Int32)), .val (.int (1 : Int32)), .val (.int (0 : Int32))] [(.int (lcmpW (o0 + l0) of))]))
      by_cases hc88_7 : of < (o0 + l0)
      · refine Go.step (fun t k => XS.ifNo X0.here hx rfl (hb hby d1_88) rfl ((if0 _ _).trans (tlt (own_lwgt hc88_7)).2.2.2) k) ?_
        show Go _ _ _ _ _ _ _ (s₁.setTop (mkF m 91 #[.val (.ref rn), .val (.long of), .second, .val (.long ln), .second, .val (.int (1 : Int32)), .val (.int (1 : Int32)), .val (.int (0 : Int32))] []))
        refine Go.step (fun t k => XS.iconst X0.here hx rfl (hb hby d1_91) k) ?_
        show Go _ _ _ _ _ _ _ (s₁.setTop (mkF m 92 #[.val (.ref rn), .val (.long of), .second, .val (.long ln), .second, .val (.int (1 : Int32)), .val (.int (1 : Int32)), .val (.int (0 : Int32))] [(.int (1 : Int32))]))
        refine Go.step (fun t k => XS.goto X0.here hx rfl (pc0 := 92) (pc' := 96) rfl (hb hby d1_92) (by decide) (by decide) k) ?_
        show Go _ _ _ _ _ _ _ (s₁.setTop (mkF m 96 #[.val (.ref rn), .val (.long of), .second, .val (.long ln), .second, .val (.int (1 : Int32)), .val (.int (1 : Int32)), .val (.int (0 : Int32))] [(.int (1 : Int32))]))
        refine Go.retN X0 Bd.notSynchronized hx (t := .boolean) Bd.returns (by simp) (hb hby d1_96) (by decide) (by decide) (1 : Int32) rfl ?_
        rw [e0]
        have ihc35_3 := own_ltL hc35_3
        have ihc63_4 := own_ltL hc63_4
        have ihc88_7 := own_ltL hc88_7
        have e0L : (0 : Int64).toInt = 0 := rfl
        have ho := hord
        simp only [own_or1, own_or2, own_or3] at ho
        exact ⟨(1 : Int32), rfl, N0, rfl, (Or.inl ⟨rfl, (by simp only [own_hit, Int64.lt_iff_toInt_lt, e0L]; omega)⟩)⟩
      · refine Go.step (fun t k => XS.ifYes X0.here hx rfl (pc0 := 88) (pc' := 95) rfl (hb hby d1_88) rfl ((if0 _ _).trans (flt (own_nlwgt hc88_7)).2.2.2) (by decide) (by decide) k) ?_
        show Go _ _ _ _ _ _ _ (s₁.setTop (mkF m 95 #[.val (.ref rn), .val (.long of), .second, .val (.long ln), .second, .val (.int (1 : Int32)), .val (.int (1 : Int32)), .val (.int (0 : Int32))] []))
        refine Go.step (fun t k => XS.iconst X0.here hx rfl (hb hby d1_95) k) ?_
        show Go _ _ _ _ _ _ _ (s₁.setTop (mkF m 96 #[.val (.ref rn), .val (.long of), .second, .val (.long ln), .second, .val (.int (1 : Int32)), .val (.int (1 : Int32)), .val (.int (0 : Int32))] [(.int (0 : Int32))]))
        refine Go.retN X0 Bd.notSynchronized hx (t := .boolean) Bd.returns (by simp) (hb hby d1_96) (by decide) (by decide) (0 : Int32) rfl ?_
        rw [e0]
        have ihc35_3 := own_ltL hc35_3
        have ihc63_4 := own_ltL hc63_4
        have ihc88_7 := own_nltL hc88_7
        have e0L : (0 : Int64).toInt = 0 := rfl
        have ho := hord
        simp only [own_or1, own_or2, own_or3] at ho
        exact ⟨(0 : Int32), rfl, N0, rfl, (Or.inr ⟨rfl, (by simp only [own_hit, Int64.lt_iff_toInt_lt, e0L]; omega)⟩)⟩
    · refine Go.step (fun t k => XS.ifYes X0.here hx rfl (pc0 := 63) (pc' := 95) rfl (hb hby d1_63) rfl ((if0 _ _).trans (flt (own_nlwgt hc63_4)).2.2.2) (by decide) (by decide) k) ?_
      show Go _ _ _ _ _ _ _ (s₁.setTop (mkF m 95 #[.val (.ref rn), .val (.long of), .second, .val (.long ln), .second, .val (.int (1 : Int32)), .val (.int (1 : Int32)), .val (.int (0 : Int32))] []))
      refine Go.step (fun t k => XS.iconst X0.here hx rfl (hb hby d1_95) k) ?_
      show Go _ _ _ _ _ _ _ (s₁.setTop (mkF m 96 #[.val (.ref rn), .val (.long of), .second, .val (.long ln), .second, .val (.int (1 : Int32)), .val (.int (1 : Int32)), .val (.int (0 : Int32))] [(.int (0 : Int32))]))
      refine Go.retN X0 Bd.notSynchronized hx (t := .boolean) Bd.returns (by simp) (hb hby d1_96) (by decide) (by decide) (0 : Int32) rfl ?_
      rw [e0]
      have ihc35_3 := own_ltL hc35_3
      have ihc63_4 := own_nltL hc63_4
      have e0L : (0 : Int64).toInt = 0 := rfl
      have ho := hord
      simp only [own_or1, own_or2, own_or3] at ho
      exact ⟨(0 : Int32), rfl, N0, rfl, (Or.inr ⟨rfl, (by simp only [own_hit, Int64.lt_iff_toInt_lt, e0L]; omega)⟩)⟩
  · refine Go.step (fun t k => XS.ifYes X0.here hx rfl (pc0 := 35) (pc' := 47) rfl (hb hby d1_35) rfl ((if0 _ _).trans (flt (own_nlwlt hc35_3)).2.1) (by decide) (by decide) k) ?_
    show Go _ _ _ _ _ _ _ (s₁.setTop (mkF m 47 #[.val (.ref rn), .val (.long of), .second, .val (.long ln), .second, .val (.int (0 : Int32)), .val (.int (1 : Int32)), .val (.int (0 : Int32))] []))
    refine Go.step (fun t k => XS.iload X0.here hx rfl (hb hby d1_47) rfl k) ?_
    show Go _ _ _ _ _ _ _ (s₁.setTop (mkF m 49 #[.val (.ref rn), .val (.long of), .second, .val (.long ln), .second, .val (.int (0 : Int32)), .val (.int (1 : Int32)), .val (.int (0 : Int32))] [(.int (0 : Int32))]))
    refine Go.step (fun t k => XS.istore X0.here hx rfl (hb hby d1_49) rfl (l' := #[.val (.ref rn), .val (.long of), .second, .val (.long ln), .second, .val (.int (0 : Int32)), .val (.int (0 : Int32)), .val (.int (0 : Int32))]) rfl k) ?_
    show Go _ _ _ _ _ _ _ (s₁.setTop (mkF m 51 #[.val (.ref rn), .val (.long of), .second, .val (.long ln), .second, .val (.int (0 : Int32)), .val (.int (0 : Int32)), .val (.int (0 : Int32))] []))
    refine Go.step (fun t k => XS.goto X0.here hx rfl (pc0 := 51) (pc' := 9) rfl (hb hby d1_51) (by decide) (by decide) k) ?_
    show Go _ _ _ _ _ _ _ (s₁.setTop (mkF m 9 #[.val (.ref rn), .val (.long of), .second, .val (.long ln), .second, .val (.int (0 : Int32)), .val (.int (0 : Int32)), .val (.int (0 : Int32))] []))
    refine Go.step (fun t k => XS.iload X0.here hx rfl (hb hby d1_9) rfl k) ?_
    show Go _ _ _ _ _ _ _ (s₁.setTop (mkF m 11 #[.val (.ref rn), .val (.long of), .second, .val (.long ln), .second, .val (.int (0 : Int32)), .val (.int (0 : Int32)), .val (.int (0 : Int32))] [(.int (0 : Int32))]))
    refine Go.step (fun t k => XS.iload X0.here hx rfl (hb hby d1_11) rfl k) ?_
    show Go _ _ _ _ _ _ _ (s₁.setTop (mkF m 13 #[.val (.ref rn), .val (.long of), .second, .val (.long ln), .second, .val (.int (0 : Int32)), .val (.int (0 : Int32)), .val (.int (0 : Int32))] [(.int (0 : Int32)), (.int (0 : Int32))]))
    refine Go.step (fun t k => XS.icmpYes X0.here hx rfl (pc0 := 13) (pc' := 54) rfl (hb hby d1_13) rfl (flt (by decide : ¬ (0 : Int32) < (0 : Int32))).2.1 (by decide) (by decide) k) ?_
    show Go _ _ _ _ _ _ _ (s₁.setTop (mkF m 54 #[.val (.ref rn), .val (.long of), .second, .val (.long ln), .second, .val (.int (0 : Int32)), .val (.int (0 : Int32)), .val (.int (0 : Int32))] []))
    refine Go.step (fun t k => XS.iload X0.here hx rfl (hb hby d1_54) rfl k) ?_
    show Go _ _ _ _ _ _ _ (s₁.setTop (mkF m 56 #[.val (.ref rn), .val (.long of), .second, .val (.long ln), .second, .val (.int (0 : Int32)), .val (.int (0 : Int32)), .val (.int (0 : Int32))] [(.int (0 : Int32))]))
    refine Go.step (fun t k => XS.iconst X0.here hx rfl (hb hby d1_56) k) ?_
    show Go _ _ _ _ _ _ _ (s₁.setTop (mkF m 57 #[.val (.ref rn), .val (.long of), .second, .val (.long ln), .second, .val (.int (0 : Int32)), .val (.int (0 : Int32)), .val (.int (0 : Int32))] [(.int (1 : Int32)), (.int (0 : Int32))]))
    refine Go.step (fun t k => XS.isub X0.here hx rfl (hb hby d1_57) rfl k) ?_
    show Go _ _ _ _ _ _ _ (s₁.setTop (mkF m 58 #[.val (.ref rn), .val (.long of), .second, .val (.long ln), .second, .val (.int (0 : Int32)), .val (.int (0 : Int32)), .val (.int (0 : Int32))] [(.int (-1 : Int32))]))
    refine Go.step (fun t k => XS.istore X0.here hx rfl (hb hby d1_58) rfl (l' := #[.val (.ref rn), .val (.long of), .second, .val (.long ln), .second, .val (.int (0 : Int32)), .val (.int (0 : Int32)), .val (.int (-1 : Int32))]) rfl k) ?_
    show Go _ _ _ _ _ _ _ (s₁.setTop (mkF m 60 #[.val (.ref rn), .val (.long of), .second, .val (.long ln), .second, .val (.int (0 : Int32)), .val (.int (0 : Int32)), .val (.int (-1 : Int32))] []))
    refine Go.step (fun t k => XS.lloadN X0.here hx rfl (hb hby d1_60) rfl k) ?_
    show Go _ _ _ _ _ _ _ (s₁.setTop (mkF m 61 #[.val (.ref rn), .val (.long of), .second, .val (.long ln), .second, .val (.int (0 : Int32)), .val (.int (0 : Int32)), .val (.int (-1 : Int32))] [(.long ln)]))
    refine Go.step (fun t k => XS.lconst X0.here hx rfl (hb hby d1_61) k) ?_
    show Go _ _ _ _ _ _ _ (s₁.setTop (mkF m 62 #[.val (.ref rn), .val (.long of), .second, .val (.long ln), .second, .val (.int (0 : Int32)), .val (.int (0 : Int32)), .val (.int (-1 : Int32))] [(.long (0 : Int64)), (.long ln)]))
    refine Go.step (fun t k => XS.lcmp X0.here hx rfl (hb hby d1_62) rfl k) ?_
    show Go _ _ _ _ _ _ _ (s₁.setTop (mkF m 63 #[.val (.ref rn), .val (.long of), .second, .val (.long ln), .second, .val (.int (0 : Int32)), .val (.int (0 : Int32)), .val (.int (-1 : Int32))] [(.int (lcmpW ln (0 : Int64)))]))
    by_cases hc63_8 : (0 : Int64) < ln
    · refine Go.step (fun t k => XS.ifNo X0.here hx rfl (hb hby d1_63) rfl ((if0 _ _).trans (tlt (own_lwgt hc63_8)).2.2.2) k) ?_
      show Go _ _ _ _ _ _ _ (s₁.setTop (mkF m 66 #[.val (.ref rn), .val (.long of), .second, .val (.long ln), .second, .val (.int (0 : Int32)), .val (.int (0 : Int32)), .val (.int (-1 : Int32))] []))
      refine Go.step (fun t k => XS.iload X0.here hx rfl (hb hby d1_66) rfl k) ?_
      show Go _ _ _ _ _ _ _ (s₁.setTop (mkF m 68 #[.val (.ref rn), .val (.long of), .second, .val (.long ln), .second, .val (.int (0 : Int32)), .val (.int (0 : Int32)), .val (.int (-1 : Int32))] [(.int (-1 : Int32))]))
      refine Go.step (fun t k => XS.ifYes X0.here hx rfl (pc0 := 68) (pc' := 95) rfl (hb hby d1_68) rfl ((if0 _ _).trans (tlt (by decide : (-1 : Int32) < (0 : Int32))).1) (by decide) (by decide) k) ?_
      show Go _ _ _ _ _ _ _ (s₁.setTop (mkF m 95 #[.val (.ref rn), .val (.long of), .second, .val (.long ln), .second, .val (.int (0 : Int32)), .val (.int (0 : Int32)), .val (.int (-1 : Int32))] []))
      refine Go.step (fun t k => XS.iconst X0.here hx rfl (hb hby d1_95) k) ?_
      show Go _ _ _ _ _ _ _ (s₁.setTop (mkF m 96 #[.val (.ref rn), .val (.long of), .second, .val (.long ln), .second, .val (.int (0 : Int32)), .val (.int (0 : Int32)), .val (.int (-1 : Int32))] [(.int (0 : Int32))]))
      refine Go.retN X0 Bd.notSynchronized hx (t := .boolean) Bd.returns (by simp) (hb hby d1_96) (by decide) (by decide) (0 : Int32) rfl ?_
      rw [e0]
      have ihc35_3 := own_nltL hc35_3
      have ihc63_8 := own_ltL hc63_8
      have e0L : (0 : Int64).toInt = 0 := rfl
      have ho := hord
      simp only [own_or1, own_or2, own_or3] at ho
      exact ⟨(0 : Int32), rfl, N0, rfl, (Or.inr ⟨rfl, (by simp only [own_hit, Int64.lt_iff_toInt_lt, e0L]; omega)⟩)⟩
    · refine Go.step (fun t k => XS.ifYes X0.here hx rfl (pc0 := 63) (pc' := 95) rfl (hb hby d1_63) rfl ((if0 _ _).trans (flt (own_nlwgt hc63_8)).2.2.2) (by decide) (by decide) k) ?_
      show Go _ _ _ _ _ _ _ (s₁.setTop (mkF m 95 #[.val (.ref rn), .val (.long of), .second, .val (.long ln), .second, .val (.int (0 : Int32)), .val (.int (0 : Int32)), .val (.int (-1 : Int32))] []))
      refine Go.step (fun t k => XS.iconst X0.here hx rfl (hb hby d1_95) k) ?_
      show Go _ _ _ _ _ _ _ (s₁.setTop (mkF m 96 #[.val (.ref rn), .val (.long of), .second, .val (.long ln), .second, .val (.int (0 : Int32)), .val (.int (0 : Int32)), .val (.int (-1 : Int32))] [(.int (0 : Int32))]))
      refine Go.retN X0 Bd.notSynchronized hx (t := .boolean) Bd.returns (by simp) (hb hby d1_96) (by decide) (by decide) (0 : Int32) rfl ?_
      rw [e0]
      have ihc35_3 := own_nltL hc35_3
      have ihc63_8 := own_nltL hc63_8
      have e0L : (0 : Int64).toInt = 0 := rfl
      have ho := hord
      simp only [own_or1, own_or2, own_or3] at ho
      exact ⟨(0 : Int32), rfl, N0, rfl, (Or.inr ⟨rfl, (by simp only [own_hit, Int64.lt_iff_toInt_lt, e0L]; omega)⟩)⟩
theorem pn_1_2 : plainName "com/example/rootkeep/rootkeep/file/FreeSpace" = true := by first | (simp [plainName, overriddenIn]; done) | decide +kernel
theorem ef_1_2 (m : MethodId) (x0 : Addr) (x1 : Int64) (x2 : Int64) : entryFrame m #[(.ref x0), (.long x1), (.long x2)] 8 = mkF m 0 #[.val (.ref x0), .val (.long x1), .second, .val (.long x2), .second, .unset, .unset, .unset] [] := by first | (simp [entryFrame, mkF, argsToLocals, Value.category]; done) | rfl
def Q1_2 (Z : State) (rn : Addr) (of : Int64) (ln : Int64) (o0 : Int64) (l0 : Int64) (o1 : Int64) (l1 : Int64) (h0 : Heap) (n0 : Nat) (v : Option Value) (h : Heap) (L : List Loc) : Prop := ∃ z : Int32, v = some (.int z) ∧ Fr n0 L ∧ h = h0 ∧ ((z = 1 ∧ (own_hit o0 l0 of ln ∨ own_hit o1 l1 of ln)) ∨ (z = 0 ∧ ¬ (own_hit o0 l0 of ln ∨ own_hit o1 l1 of ln)))
set_option maxRecDepth 65536 in
set_option maxHeartbeats 40000000 in
theorem rm1_2 (l : Launch) (Z : State) (a0 : Array Value) (hw : ∀ d ∈ tables_1, d.before a0 Z = true) (ws : List Jvm.Cond) (rn : Addr) (of : Int64) (ln : Int64) (o0 : Int64) (l0 : Int64) (o1 : Int64) (l1 : Int64) (h0 : Heap) (n0 : Nat) (Z0 : n0 ≤ h0.size) (A_rn : AryJ Z h0 rn 4 (up (up (up (up (fun _ => (0 : Int64)) 0 o0) 1 l0) 2 o1) 3 l1)) (hord : (own_or2 o0 l0 o1 l1)) :
    MetFree l (⟨"com/example/rootkeep/rootkeep/file/FreeSpace", "overlaps", "([JJJ)Z"⟩ : MethodName) (head1 (Jvm.Cond.code (⟨"com/example/rootkeep/rootkeep/file/FreeSpace", "overlaps", "([JJJ)Z"⟩ : MethodName) prog_21_method_4_code 8 (some .boolean) :: ws) ({ frames := 0, cells := 0, slots := 0, locals := 0 } : Room)) (fun a U => a = #[(.ref rn), (.long of), (.long ln)] ∧ Z.Warmed39 U.vm ∧ U.heap = h0) (fun _ _ _ _ _ => True) (fun _ U o U' => ∃ v L, o = .returned v ∧ Q1_2 Z rn of ln o0 l0 o1 l1 h0 n0 v U'.heap L ∧ FrameEnd U o U' L ({ frames := 0, cells := 0, slots := 0, locals := 0 } : Room).cells ({ frames := 0, cells := 0, slots := 0, locals := 0 } : Room).slots) := by
  refine MetFree.of_bodySF (plainFor_of_name pn_1_2) hisR ?_
  intro p e s m args below meth c s₁ Bd hml0 hP hK
  obtain ⟨rfl, hZ, hh⟩ := hP
  have hx := Bd.exec
  have hby := Bd.bytes
  have hml : c.maxLocals = 8 := hml0
  have hown : s.vm.findClass "com/example/rootkeep/rootkeep/file/FreeSpace" = some m.cls := findClass_of_methodNamed Bd.named
  have hnm := (name_of_methodNamed Bd.named Bd.method).1
  have X0 : Stand p l e ({ frames := 0, cells := 0, slots := 0, locals := 0 } : Room) s m #[(.ref rn), (.long of), (.long ln)] below meth c s₁ [] 0 0 := Stand.of_body Bd
  have e0 : s₁.heap = h0 := by rw [← hh, Bd.state]; rfl
  have N0 := Fr.nil n0
  show Go p e below s (Q1_2 Z rn of ln o0 l0 o1 l1 h0 n0) ({ frames := 0, cells := 0, slots := 0, locals := 0 } : Room).cells ({ frames := 0, cells := 0, slots := 0, locals := 0 } : Room).slots (s₁.setTop (entryFrame m #[(.ref rn), (.long of), (.long ln)] 8))
  rw [ef_1_2]
  show Go _ _ _ _ _ _ _ (s₁.setTop (mkF m 0 #[.val (.ref rn), .val (.long of), .second, .val (.long ln), .second, .unset, .unset, .unset] []))
  refine Go.step (fun t k => XS.iconst X0.here hx rfl (hb hby d1_0) k) ?_
  show Go _ _ _ _ _ _ _ (s₁.setTop (mkF m 1 #[.val (.ref rn), .val (.long of), .second, .val (.long ln), .second, .unset, .unset, .unset] [(.int (0 : Int32))]))
  refine Go.step (fun t k => XS.istore X0.here hx rfl (hb hby d1_1) rfl (l' := #[.val (.ref rn), .val (.long of), .second, .val (.long ln), .second, .val (.int (0 : Int32)), .unset, .unset]) rfl k) ?_
  show Go _ _ _ _ _ _ _ (s₁.setTop (mkF m 3 #[.val (.ref rn), .val (.long of), .second, .val (.long ln), .second, .val (.int (0 : Int32)), .unset, .unset] []))
  refine Go.step (fun t k => XS.aloadN X0.here hx rfl (hb hby d1_3) rfl rfl k) ?_
  show Go _ _ _ _ _ _ _ (s₁.setTop (mkF m 4 #[.val (.ref rn), .val (.long of), .second, .val (.long ln), .second, .val (.int (0 : Int32)), .unset, .unset] [(.ref rn)]))
  refine Go.step (own_len X0 hx hZ e0 A_rn (z := (4 : Int32)) rfl (f := (mkF m 4 #[.val (.ref rn), .val (.long of), .second, .val (.long ln), .second, .val (.int (0 : Int32)), .unset, .unset] [(.ref rn)])) rfl rfl (hb hby d1_4)) ?_
  show Go _ _ _ _ _ _ _ (s₁.setTop (mkF m 5 #[.val (.ref rn), .val (.long of), .second, .val (.long ln), .second, .val (.int (0 : Int32)), .unset, .unset] [(.int (4 : Int32))]))
  refine Go.step (fun t k => XS.iconst X0.here hx rfl (hb hby d1_5) k) ?_
  show Go _ _ _ _ _ _ _ (s₁.setTop (mkF m 6 #[.val (.ref rn), .val (.long of), .second, .val (.long ln), .second, .val (.int (0 : Int32)), .unset, .unset] [(.int (2 : Int32)), (.int (4 : Int32))]))
  refine Go.step (fun t k => XS.idiv X0.here hx rfl (hb hby d1_6) rfl (by decide) k) ?_
  show Go _ _ _ _ _ _ _ (s₁.setTop (mkF m 7 #[.val (.ref rn), .val (.long of), .second, .val (.long ln), .second, .val (.int (0 : Int32)), .unset, .unset] [(.int (2 : Int32))]))
  refine Go.step (fun t k => XS.istore X0.here hx rfl (hb hby d1_7) rfl (l' := #[.val (.ref rn), .val (.long of), .second, .val (.long ln), .second, .val (.int (0 : Int32)), .val (.int (2 : Int32)), .unset]) rfl k) ?_
  show Go _ _ _ _ _ _ _ (s₁.setTop (mkF m 9 #[.val (.ref rn), .val (.long of), .second, .val (.long ln), .second, .val (.int (0 : Int32)), .val (.int (2 : Int32)), .unset] []))
  refine Go.step (fun t k => XS.iload X0.here hx rfl (hb hby d1_9) rfl k) ?_
  show Go _ _ _ _ _ _ _ (s₁.setTop (mkF m 11 #[.val (.ref rn), .val (.long of), .second, .val (.long ln), .second, .val (.int (0 : Int32)), .val (.int (2 : Int32)), .unset] [(.int (0 : Int32))]))
  refine Go.step (fun t k => XS.iload X0.here hx rfl (hb hby d1_11) rfl k) ?_
  show Go _ _ _ _ _ _ _ (s₁.setTop (mkF m 13 #[.val (.ref rn), .val (.long of), .second, .val (.long ln), .second, .val (.int (0 : Int32)), .val (.int (2 : Int32)), .unset] [(.int (2 : Int32)), (.int (0 : Int32))]))
  refine Go.step (fun t k => XS.icmpNo X0.here hx rfl (hb hby d1_13) rfl (tlt (by decide : (0 : Int32) < (2 : Int32))).2.1 k) ?_
  show Go _ _ _ _ _ _ _ (s₁.setTop (mkF m 16 #[.val (.ref rn), .val (.long of), .second, .val (.long ln), .second, .val (.int (0 : Int32)), .val (.int (2 : Int32)), .unset] []))
  refine Go.step (fun t k => XS.iload X0.here hx rfl (hb hby d1_16) rfl k) ?_
  show Go _ _ _ _ _ _ _ (s₁.setTop (mkF m 18 #[.val (.ref rn), .val (.long of), .second, .val (.long ln), .second, .val (.int (0 : Int32)), .val (.int (2 : Int32)), .unset] [(.int (0 : Int32))]))
  refine Go.step (fun t k => XS.iload X0.here hx rfl (hb hby d1_18) rfl k) ?_
  show Go _ _ _ _ _ _ _ (s₁.setTop (mkF m 20 #[.val (.ref rn), .val (.long of), .second, .val (.long ln), .second, .val (.int (0 : Int32)), .val (.int (2 : Int32)), .unset] [(.int (2 : Int32)), (.int (0 : Int32))]))
  refine Go.step (fun t k => XS.iadd X0.here hx rfl (hb hby d1_20) rfl k) ?_
  show Go _ _ _ _ _ _ _ (s₁.setTop (mkF m 21 #[.val (.ref rn), .val (.long of), .second, .val (.long ln), .second, .val (.int (0 : Int32)), .val (.int (2 : Int32)), .unset] [(.int (2 : Int32))]))
  refine Go.step (fun t k => XS.iconst X0.here hx rfl (hb hby d1_21) k) ?_
  show Go _ _ _ _ _ _ _ (s₁.setTop (mkF m 22 #[.val (.ref rn), .val (.long of), .second, .val (.long ln), .second, .val (.int (0 : Int32)), .val (.int (2 : Int32)), .unset] [(.int (1 : Int32)), (.int (2 : Int32))]))
  refine Go.step (fun t k => XS.iushr X0.here hx rfl (hb hby d1_22) rfl k) ?_
  show Go _ _ _ _ _ _ _ (s₁.setTop (mkF m 23 #[.val (.ref rn), .val (.long of), .second, .val (.long ln), .second, .val (.int (0 : Int32)), .val (.int (2 : Int32)), .unset] [(.int (1 : Int32))]))
  refine Go.step (fun t k => XS.istore X0.here hx rfl (hb hby d1_23) rfl (l' := #[.val (.ref rn), .val (.long of), .second, .val (.long ln), .second, .val (.int (0 : Int32)), .val (.int (2 : Int32)), .val (.int (1 : Int32))]) rfl k) ?_
  show Go _ _ _ _ _ _ _ (s₁.setTop (mkF m 25 #[.val (.ref rn), .val (.long of), .second, .val (.long ln), .second, .val (.int (0 : Int32)), .val (.int (2 : Int32)), .val (.int (1 : Int32))] []))
  refine Go.step (fun t k => XS.aloadN X0.here hx rfl (hb hby d1_25) rfl rfl k) ?_
  show Go _ _ _ _ _ _ _ (s₁.setTop (mkF m 26 #[.val (.ref rn), .val (.long of), .second, .val (.long ln), .second, .val (.int (0 : Int32)), .val (.int (2 : Int32)), .val (.int (1 : Int32))] [(.ref rn)]))
  refine Go.step (fun t k => XS.iconst X0.here hx rfl (hb hby d1_26) k) ?_
  show Go _ _ _ _ _ _ _ (s₁.setTop (mkF m 27 #[.val (.ref rn), .val (.long of), .second, .val (.long ln), .second, .val (.int (0 : Int32)), .val (.int (2 : Int32)), .val (.int (1 : Int32))] [(.int (2 : Int32)), (.ref rn)]))
  refine Go.step (fun t k => XS.iload X0.here hx rfl (hb hby d1_27) rfl k) ?_
  show Go _ _ _ _ _ _ _ (s₁.setTop (mkF m 29 #[.val (.ref rn), .val (.long of), .second, .val (.long ln), .second, .val (.int (0 : Int32)), .val (.int (2 : Int32)), .val (.int (1 : Int32))] [(.int (1 : Int32)), (.int (2 : Int32)), (.ref rn)]))
  refine Go.step (fun t k => XS.imul X0.here hx rfl (hb hby d1_29) rfl k) ?_
  show Go _ _ _ _ _ _ _ (s₁.setTop (mkF m 30 #[.val (.ref rn), .val (.long of), .second, .val (.long ln), .second, .val (.int (0 : Int32)), .val (.int (2 : Int32)), .val (.int (1 : Int32))] [(.int (2 : Int32)), (.ref rn)]))
  refine Go.step (own_ld X0 hx hZ e0 A_rn (j := (2 : Int32)) 2 rfl (by decide) (v := (.long o1)) rfl (Or.inr (Or.inl ⟨rfl, rfl⟩)) (f := (mkF m 30 #[.val (.ref rn), .val (.long of), .second, .val (.long ln), .second, .val (.int (0 : Int32)), .val (.int (2 : Int32)), .val (.int (1 : Int32))] [(.int (2 : Int32)), (.ref rn)])) rfl rfl (hb hby d1_30)) ?_
  show Go _ _ _ _ _ _ _ (s₁.setTop (mkF m 31 #[.val (.ref rn), .val (.long of), .second, .val (.long ln), .second, .val (.int (0 : Int32)), .val (.int (2 : Int32)), .val (.int (1 : Int32))] [(.long o1)]))
  refine Go.step (fun t k => XS.lloadN X0.here hx rfl (hb hby d1_31) rfl k) ?_
  show Go _ _ _ _ _ _ _ (s₁.setTop (mkF m 32 #[.val (.ref rn), .val (.long of), .second, .val (.long ln), .second, .val (.int (0 : Int32)), .val (.int (2 : Int32)), .val (.int (1 : Int32))] [(.long of), (.long o1)]))
  refine Go.step (fun t k => XS.lloadN X0.here hx rfl (hb hby d1_32) rfl k) ?_
  show Go _ _ _ _ _ _ _ (s₁.setTop (mkF m 33 #[.val (.ref rn), .val (.long of), .second, .val (.long ln), .second, .val (.int (0 : Int32)), .val (.int (2 : Int32)), .val (.int (1 : Int32))] [(.long ln), (.long of), (.long o1)]))
  refine Go.step (fun t k => XS.ladd X0.here hx rfl (hb hby d1_33) rfl k) ?_
  show Go _ _ _ _ _ _ _ (s₁.setTop (mkF m 34 #[.val (.ref rn), .val (.long of), .second, .val (.long ln), .second, .val (.int (0 : Int32)), .val (.int (2 : Int32)), .val (.int (1 : Int32))] [(.long (of + ln)), (.long o1)]))
  refine Go.step (fun t k => XS.lcmp X0.here hx rfl (hb hby d1_34) rfl k) ?_
  show Go _ _ _ _ _ _ _ (s₁.setTop (mkF m 35 #[.val (.ref rn), .val (.long of), .second, .val (.long ln), .second, .val (.int (0 : Int32)), .val (.int (2 : Int32)), .val (.int (1 : Int32))] [(.int (lcmpW o1 (of + ln)))]))
  by_cases hc35_3 : o1 < (of + ln)
  · refine Go.step (fun t k => XS.ifNo X0.here hx rfl (hb hby d1_35) rfl ((if0 _ _).trans (tlt (own_lwlt hc35_3)).2.1) k) ?_
    show Go _ _ _ _ _ _ _ (s₁.setTop (mkF m 38 #[.val (.ref rn), .val (.long of), .second, .val (.long ln), .second, .val (.int (0 : Int32)), .val (.int (2 : Int32)), .val (.int (1 : Int32))] []))
    refine Go.step (fun t k => XS.iload X0.here hx rfl (hb hby d1_38) rfl k) ?_
    show Go _ _ _ _ _ _ _ (s₁.setTop (mkF m 40 #[.val (.ref rn), .val (.long of), .second, .val (.long ln), .second, .val (.int (0 : Int32)), .val (.int (2 : Int32)), .val (.int (1 : Int32))] [(.int (1 : Int32))]))
    refine Go.step (fun t k => XS.iconst X0.here hx rfl (hb hby d1_40) k) ?_
    show Go _ _ _ _ _ _ _ (s₁.setTop (mkF m 41 #[.val (.ref rn), .val (.long of), .second, .val (.long ln), .second, .val (.int (0 : Int32)), .val (.int (2 : Int32)), .val (.int (1 : Int32))] [(.int (1 : Int32)), (.int (1 : Int32))]))
    refine Go.step (fun t k => XS.iadd X0.here hx rfl (hb hby d1_41) rfl k) ?_
    show Go _ _ _ _ _ _ _ (s₁.setTop (mkF m 42 #[.val (.ref rn), .val (.long of), .second, .val (.long ln), .second, .val (.int (0 : Int32)), .val (.int (2 : Int32)), .val (.int (1 : Int32))] [(.int (2 : Int32))]))
    refine Go.step (fun t k => XS.istore X0.here hx rfl (hb hby d1_42) rfl (l' := #[.val (.ref rn), .val (.long of), .second, .val (.long ln), .second, .val (.int (2 : Int32)), .val (.int (2 : Int32)), .val (.int (1 : Int32))]) rfl k) ?_
    show Go _ _ _ _ _ _ _ (s₁.setTop (mkF m 44 #[.val (.ref rn), .val (.long of), .second, .val (.long ln), .second, .val (.int (2 : Int32)), .val (.int (2 : Int32)), .val (.int (1 : Int32))] []))
    refine Go.step (fun t k => XS.goto X0.here hx rfl (pc0 := 44) (pc' := 51) rfl (hb hby d1_44) (by decide) (by decide) k) ?_
    show Go _ _ _ _ _ _ _ (s₁.setTop (mkF m 51 #[.val (.ref rn), .val (.long of), .second, .val (.long ln), .second, .val (.int (2 : Int32)), .val (.int (2 : Int32)), .val (.int (1 : Int32))] []))
    refine Go.step (fun t k => XS.goto X0.here hx rfl (pc0 := 51) (pc' := 9) rfl (hb hby d1_51) (by decide) (by decide) k) ?_
    show Go _ _ _ _ _ _ _ (s₁.setTop (mkF m 9 #[.val (.ref rn), .val (.long of), .second, .val (.long ln), .second, .val (.int (2 : Int32)), .val (.int (2 : Int32)), .val (.int (1 : Int32))] []))
    refine Go.step (fun t k => XS.iload X0.here hx rfl (hb hby d1_9) rfl k) ?_
    show Go _ _ _ _ _ _ _ (s₁.setTop (mkF m 11 #[.val (.ref rn), .val (.long of), .second, .val (.long ln), .second, .val (.int (2 : Int32)), .val (.int (2 : Int32)), .val (.int (1 : Int32))] [(.int (2 : Int32))]))
    refine Go.step (fun t k => XS.iload X0.here hx rfl (hb hby d1_11) rfl k) ?_
    show Go _ _ _ _ _ _ _ (s₁.setTop (mkF m 13 #[.val (.ref rn), .val (.long of), .second, .val (.long ln), .second, .val (.int (2 : Int32)), .val (.int (2 : Int32)), .val (.int (1 : Int32))] [(.int (2 : Int32)), (.int (2 : Int32))]))
    refine Go.step (fun t k => XS.icmpYes X0.here hx rfl (pc0 := 13) (pc' := 54) rfl (hb hby d1_13) rfl (flt (by decide : ¬ (2 : Int32) < (2 : Int32))).2.1 (by decide) (by decide) k) ?_
    show Go _ _ _ _ _ _ _ (s₁.setTop (mkF m 54 #[.val (.ref rn), .val (.long of), .second, .val (.long ln), .second, .val (.int (2 : Int32)), .val (.int (2 : Int32)), .val (.int (1 : Int32))] []))
    refine Go.step (fun t k => XS.iload X0.here hx rfl (hb hby d1_54) rfl k) ?_
    show Go _ _ _ _ _ _ _ (s₁.setTop (mkF m 56 #[.val (.ref rn), .val (.long of), .second, .val (.long ln), .second, .val (.int (2 : Int32)), .val (.int (2 : Int32)), .val (.int (1 : Int32))] [(.int (2 : Int32))]))
    refine Go.step (fun t k => XS.iconst X0.here hx rfl (hb hby d1_56) k) ?_
    show Go _ _ _ _ _ _ _ (s₁.setTop (mkF m 57 #[.val (.ref rn), .val (.long of), .second, .val (.long ln), .second, .val (.int (2 : Int32)), .val (.int (2 : Int32)), .val (.int (1 : Int32))] [(.int (1 : Int32)), (.int (2 : Int32))]))
    refine Go.step (fun t k => XS.isub X0.here hx rfl (hb hby d1_57) rfl k) ?_
    show Go _ _ _ _ _ _ _ (s₁.setTop (mkF m 58 #[.val (.ref rn), .val (.long of), .second, .val (.long ln), .second, .val (.int (2 : Int32)), .val (.int (2 : Int32)), .val (.int (1 : Int32))] [(.int (1 : Int32))]))
    refine Go.step (fun t k => XS.istore X0.here hx rfl (hb hby d1_58) rfl (l' := #[.val (.ref rn), .val (.long of), .second, .val (.long ln), .second, .val (.int (2 : Int32)), .val (.int (2 : Int32)), .val (.int (1 : Int32))]) rfl k) ?_
    show Go _ _ _ _ _ _ _ (s₁.setTop (mkF m 60 #[.val (.ref rn), .val (.long of), .second, .val (.long ln), .second, .val (.int (2 : Int32)), .val (.int (2 : Int32)), .val (.int (1 : Int32))] []))
    refine Go.step (fun t k => XS.lloadN X0.here hx rfl (hb hby d1_60) rfl k) ?_
    show Go _ _ _ _ _ _ _ (s₁.setTop (mkF m 61 #[.val (.ref rn), .val (.long of), .second, .val (.long ln), .second, .val (.int (2 : Int32)), .val (.int (2 : Int32)), .val (.int (1 : Int32))] [(.long ln)]))
    refine Go.step (fun t k => XS.lconst X0.here hx rfl (hb hby d1_61) k) ?_
    show Go _ _ _ _ _ _ _ (s₁.setTop (mkF m 62 #[.val (.ref rn), .val (.long of), .second, .val (.long ln), .second, .val (.int (2 : Int32)), .val (.int (2 : Int32)), .val (.int (1 : Int32))] [(.long (0 : Int64)), (.long ln)]))
    refine Go.step (fun t k => XS.lcmp X0.here hx rfl (hb hby d1_62) rfl k) ?_
    show Go _ _ _ _ _ _ _ (s₁.setTop (mkF m 63 #[.val (.ref rn), .val (.long of), .second, .val (.long ln), .second, .val (.int (2 : Int32)), .val (.int (2 : Int32)), .val (.int (1 : Int32))] [(.int (lcmpW ln (0 : Int64)))]))
    by_cases hc63_4 : (0 : Int64) < ln
    · refine Go.step (fun t k => XS.ifNo X0.here hx rfl (hb hby d1_63) rfl ((if0 _ _).trans (tlt (own_lwgt hc63_4)).2.2.2) k) ?_
      show Go _ _ _ _ _ _ _ (s₁.setTop (mkF m 66 #[.val (.ref rn), .val (.long of), .second, .val (.long ln), .second, .val (.int (2 : Int32)), .val (.int (2 : Int32)), .val (.int (1 : Int32))] []))
      refine Go.step (fun t k => XS.iload X0.here hx rfl (hb hby d1_66) rfl k) ?_
      show Go _ _ _ _ _ _ _ (s₁.setTop (mkF m 68 #[.val (.ref rn), .val (.long of), .second, .val (.long ln), .second, .val (.int (2 : Int32)), .val (.int (2 : Int32)), .val (.int (1 : Int32))] [(.int (1 : Int32))]))
      refine Go.step (fun t k => XS.ifNo X0.here hx rfl (hb hby d1_68) rfl ((if0 _ _).trans (flt (by decide : ¬ (1 : Int32) < (0 : Int32))).1) k) ?_
      show Go _ _ _ _ _ _ _ (s₁.setTop (mkF m 71 #[.val (.ref rn), .val (.long of), .second, .val (.long ln), .second, .val (.int (2 : Int32)), .val (.int (2 : Int32)), .val (.int (1 : Int32))] []))
      refine Go.step (fun t k => XS.aloadN X0.here hx rfl (hb hby d1_71) rfl rfl k) ?_
      show Go _ _ _ _ _ _ _ (s₁.setTop (mkF m 72 #[.val (.ref rn), .val (.long of), .second, .val (.long ln), .second, .val (.int (2 : Int32)), .val (.int (2 : Int32)), .val (.int (1 : Int32))] [(.ref rn)]))
      refine Go.step (fun t k => XS.iconst X0.here hx rfl (hb hby d1_72) k) ?_
      show Go _ _ _ _ _ _ _ (s₁.setTop (mkF m 73 #[.val (.ref rn), .val (.long of), .second, .val (.long ln), .second, .val (.int (2 : Int32)), .val (.int (2 : Int32)), .val (.int (1 : Int32))] [(.int (2 : Int32)), (.ref rn)]))
      refine Go.step (fun t k => XS.iload X0.here hx rfl (hb hby d1_73) rfl k) ?_
      show Go _ _ _ _ _ _ _ (s₁.setTop (mkF m 75 #[.val (.ref rn), .val (.long of), .second, .val (.long ln), .second, .val (.int (2 : Int32)), .val (.int (2 : Int32)), .val (.int (1 : Int32))] [(.int (1 : Int32)), (.int (2 : Int32)), (.ref rn)]))
      refine Go.step (fun t k => XS.imul X0.here hx rfl (hb hby d1_75) rfl k) ?_
      show Go _ _ _ _ _ _ _ (s₁.setTop (mkF m 76 #[.val (.ref rn), .val (.long of), .second, .val (.long ln), .second, .val (.int (2 : Int32)), .val (.int (2 : Int32)), .val (.int (1 : Int32))] [(.int (2 : Int32)), (.ref rn)]))
      refine Go.step (own_ld X0 hx hZ e0 A_rn (j := (2 : Int32)) 2 rfl (by decide) (v := (.long o1)) rfl (Or.inr (Or.inl ⟨rfl, rfl⟩)) (f := (mkF m 76 #[.val (.ref rn), .val (.long of), .second, .val (.long ln), .second, .val (.int (2 : Int32)), .val (.int (2 : Int32)), .val (.int (1 : Int32))] [(.int (2 : Int32)), (.ref rn)])) rfl rfl (hb hby d1_76)) ?_
      show Go _ _ _ _ _ _ _ (s₁.setTop (mkF m 77 #[.val (.ref rn), .val (.long of), .second, .val (.long ln), .second, .val (.int (2 : Int32)), .val (.int (2 : Int32)), .val (.int (1 : Int32))] [(.long o1)]))
      refine Go.step (fun t k => XS.aloadN X0.here hx rfl (hb hby d1_77) rfl rfl k) ?_
      show Go _ _ _ _ _ _ _ (s₁.setTop (mkF m 78 #[.val (.ref rn), .val (.long of), .second, .val (.long ln), .second, .val (.int (2 : Int32)), .val (.int (2 : Int32)), .val (.int (1 : Int32))] [(.ref rn), (.long o1)]))
      refine Go.step (fun t k => XS.iconst X0.here hx rfl (hb hby d1_78) k) ?_
      show Go _ _ _ _ _ _ _ (s₁.setTop (mkF m 79 #[.val (.ref rn), .val (.long of), .second, .val (.long ln), .second, .val (.int (2 : Int32)), .val (.int (2 : Int32)), .val (.int (1 : Int32))] [(.int (2 : Int32)), (.ref rn), (.long o1)]))
      refine Go.step (fun t k => XS.iload X0.here hx rfl (hb hby d1_79) rfl k) ?_
      show Go _ _ _ _ _ _ _ (s₁.setTop (mkF m 81 #[.val (.ref rn), .val (.long of), .second, .val (.long ln), .second, .val (.int (2 : Int32)), .val (.int (2 : Int32)), .val (.int (1 : Int32))] [(.int (1 : Int32)), (.int (2 : Int32)), (.ref rn), (.long o1)]))
      refine Go.step (fun t k => XS.imul X0.here hx rfl (hb hby d1_81) rfl k) ?_
      show Go _ _ _ _ _ _ _ (s₁.setTop (mkF m 82 #[.val (.ref rn), .val (.long of), .second, .val (.long ln), .second, .val (.int (2 : Int32)), .val (.int (2 : Int32)), .val (.int (1 : Int32))] [(.int (2 : Int32)), (.ref rn), (.long o1)]))
      refine Go.step (fun t k => XS.iconst X0.here hx rfl (hb hby d1_82) k) ?_
      show Go _ _ _ _ _ _ _ (s₁.setTop (mkF m 83 #[.val (.ref rn), .val (.long of), .second, .val (.long ln), .second, .val (.int (2 : Int32)), .val (.int (2 : Int32)), .val (.int (1 : Int32))] [(.int (1 : Int32)), (.int (2 : Int32)), (.ref rn), (.long o1)]))
      refine Go.step (fun t k => XS.iadd X0.here hx rfl (hb hby d1_83) rfl k) ?_
      show Go _ _ _ _ _ _ _ (s₁.setTop (mkF m 84 #[.val (.ref rn), .val (.long of), .second, .val (.long ln), .second, .val (.int (2 : Int32)), .val (.int (2 : Int32)), .val (.int (1 : Int32))] [(.int (3 : Int32)), (.ref rn), (.long o1)]))
      refine Go.step (own_ld X0 hx hZ e0 A_rn (j := (3 : Int32)) 3 rfl (by decide) (v := (.long l1)) rfl (Or.inr (Or.inl ⟨rfl, rfl⟩)) (f := (mkF m 84 #[.val (.ref rn), .val (.long of), .second, .val (.long ln), .second, .val (.int (2 : Int32)), .val (.int (2 : Int32)), .val (.int (1 : Int32))] [(.int (3 : Int32)), (.ref rn), (.long o1)])) rfl rfl (hb hby d1_84)) ?_
      show Go _ _ _ _ _ _ _ (s₁.setTop (mkF m 85 #[.val (.ref rn), .val (.long of), .second, .val (.long ln), .second, .val (.int (2 : Int32)), .val (.int (2 : Int32)), .val (.int (1 : Int32))] [(.long l1), (.long o1)]))
      refine Go.step (fun t k => XS.ladd X0.here hx rfl (hb hby d1_85) rfl k) ?_
      show Go _ _ _ _ _ _ _ (s₁.setTop (mkF m 86 #[.val (.ref rn), .val (.long of), .second, .val (.long ln), .second, .val (.int (2 : Int32)), .val (.int (2 : Int32)), .val (.int (1 : Int32))] [(.long (o1 + l1))]))
      refine Go.step (fun t k => XS.lloadN X0.here hx rfl (hb hby d1_86) rfl k) ?_
      show Go _ _ _ _ _ _ _ (s₁.setTop (mkF m 87 #[.val (.ref rn), .val (.long of), .second, .val (.long ln), .second, .val (.int (2 : Int32)), .val (.int (2 : Int32)), .val (.int (1 : Int32))] [(.long of), (.long (o1 + l1))]))
      refine Go.step (fun t k => XS.lcmp X0.here hx rfl (hb hby d1_87) rfl k) ?_
      show Go _ _ _ _ _ _ _ (s₁.setTop (mkF m 88 #[.val (.ref rn), .val (.long of), .second, .val (.long ln), .second, .val (.int (2 : Int32)), .val (.int (2 : Int32)), .val (.int (1 : Int32))] [(.int (lcmpW (o1 + l1) of))]))
      by_cases hc88_7 : of < (o1 + l1)
      · refine Go.step (fun t k => XS.ifNo X0.here hx rfl (hb hby d1_88) rfl ((if0 _ _).trans (tlt (own_lwgt hc88_7)).2.2.2) k) ?_
        show Go _ _ _ _ _ _ _ (s₁.setTop (mkF m 91 #[.val (.ref rn), .val (.long of), .second, .val (.long ln), .second, .val (.int (2 : Int32)), .val (.int (2 : Int32)), .val (.int (1 : Int32))] []))
        refine Go.step (fun t k => XS.iconst X0.here hx rfl (hb hby d1_91) k) ?_
        show Go _ _ _ _ _ _ _ (s₁.setTop (mkF m 92 #[.val (.ref rn), .val (.long of), .second, .val (.long ln), .second, .val (.int (2 : Int32)), .val (.int (2 : Int32)), .val (.int (1 : Int32))] [(.int (1 : Int32))]))
        refine Go.step (fun t k => XS.goto X0.here hx rfl (pc0 := 92) (pc' := 96) rfl (hb hby d1_92) (by decide) (by decide) k) ?_
        show Go _ _ _ _ _ _ _ (s₁.setTop (mkF m 96 #[.val (.ref rn), .val (.long of), .second, .val (.long ln), .second, .val (.int (2 : Int32)), .val (.int (2 : Int32)), .val (.int (1 : Int32))] [(.int (1 : Int32))]))
        refine Go.retN X0 Bd.notSynchronized hx (t := .boolean) Bd.returns (by simp) (hb hby d1_96) (by decide) (by decide) (1 : Int32) rfl ?_
        rw [e0]
        have ihc35_3 := own_ltL hc35_3
        have ihc63_4 := own_ltL hc63_4
        have ihc88_7 := own_ltL hc88_7
        have e0L : (0 : Int64).toInt = 0 := rfl
        have ho := hord
        simp only [own_or1, own_or2, own_or3] at ho
        exact ⟨(1 : Int32), rfl, N0, rfl, (Or.inl ⟨rfl, (by simp only [own_hit, Int64.lt_iff_toInt_lt, e0L]; omega)⟩)⟩
      · refine Go.step (fun t k => XS.ifYes X0.here hx rfl (pc0 := 88) (pc' := 95) rfl (hb hby d1_88) rfl ((if0 _ _).trans (flt (own_nlwgt hc88_7)).2.2.2) (by decide) (by decide) k) ?_
        show Go _ _ _ _ _ _ _ (s₁.setTop (mkF m 95 #[.val (.ref rn), .val (.long of), .second, .val (.long ln), .second, .val (.int (2 : Int32)), .val (.int (2 : Int32)), .val (.int (1 : Int32))] []))
        refine Go.step (fun t k => XS.iconst X0.here hx rfl (hb hby d1_95) k) ?_
        show Go _ _ _ _ _ _ _ (s₁.setTop (mkF m 96 #[.val (.ref rn), .val (.long of), .second, .val (.long ln), .second, .val (.int (2 : Int32)), .val (.int (2 : Int32)), .val (.int (1 : Int32))] [(.int (0 : Int32))]))
        refine Go.retN X0 Bd.notSynchronized hx (t := .boolean) Bd.returns (by simp) (hb hby d1_96) (by decide) (by decide) (0 : Int32) rfl ?_
        rw [e0]
        have ihc35_3 := own_ltL hc35_3
        have ihc63_4 := own_ltL hc63_4
        have ihc88_7 := own_nltL hc88_7
        have e0L : (0 : Int64).toInt = 0 := rfl
        have ho := hord
        simp only [own_or1, own_or2, own_or3] at ho
        exact ⟨(0 : Int32), rfl, N0, rfl, (Or.inr ⟨rfl, (by simp only [own_hit, Int64.lt_iff_toInt_lt, e0L]; omega)⟩)⟩
    · refine Go.step (fun t k => XS.ifYes X0.here hx rfl (pc0 := 63) (pc' := 95) rfl (hb hby d1_63) rfl ((if0 _ _).trans (flt (own_nlwgt hc63_4)).2.2.2) (by decide) (by decide) k) ?_
      show Go _ _ _ _ _ _ _ (s₁.setTop (mkF m 95 #[.val (.ref rn), .val (.long of), .second, .val (.long ln), .second, .val (.int (2 : Int32)), .val (.int (2 : Int32)), .val (.int (1 : Int32))] []))
      refine Go.step (fun t k => XS.iconst X0.here hx rfl (hb hby d1_95) k) ?_
      show Go _ _ _ _ _ _ _ (s₁.setTop (mkF m 96 #[.val (.ref rn), .val (.long of), .second, .val (.long ln), .second, .val (.int (2 : Int32)), .val (.int (2 : Int32)), .val (.int (1 : Int32))] [(.int (0 : Int32))]))
      refine Go.retN X0 Bd.notSynchronized hx (t := .boolean) Bd.returns (by simp) (hb hby d1_96) (by decide) (by decide) (0 : Int32) rfl ?_
      rw [e0]
      have ihc35_3 := own_ltL hc35_3
      have ihc63_4 := own_nltL hc63_4
      have e0L : (0 : Int64).toInt = 0 := rfl
      have ho := hord
      simp only [own_or1, own_or2, own_or3] at ho
      exact ⟨(0 : Int32), rfl, N0, rfl, (Or.inr ⟨rfl, (by simp only [own_hit, Int64.lt_iff_toInt_lt, e0L]; omega)⟩)⟩
  · refine Go.step (fun t k => XS.ifYes X0.here hx rfl (pc0 := 35) (pc' := 47) rfl (hb hby d1_35) rfl ((if0 _ _).trans (flt (own_nlwlt hc35_3)).2.1) (by decide) (by decide) k) ?_
    show Go _ _ _ _ _ _ _ (s₁.setTop (mkF m 47 #[.val (.ref rn), .val (.long of), .second, .val (.long ln), .second, .val (.int (0 : Int32)), .val (.int (2 : Int32)), .val (.int (1 : Int32))] []))
    refine Go.step (fun t k => XS.iload X0.here hx rfl (hb hby d1_47) rfl k) ?_
    show Go _ _ _ _ _ _ _ (s₁.setTop (mkF m 49 #[.val (.ref rn), .val (.long of), .second, .val (.long ln), .second, .val (.int (0 : Int32)), .val (.int (2 : Int32)), .val (.int (1 : Int32))] [(.int (1 : Int32))]))
    refine Go.step (fun t k => XS.istore X0.here hx rfl (hb hby d1_49) rfl (l' := #[.val (.ref rn), .val (.long of), .second, .val (.long ln), .second, .val (.int (0 : Int32)), .val (.int (1 : Int32)), .val (.int (1 : Int32))]) rfl k) ?_
    show Go _ _ _ _ _ _ _ (s₁.setTop (mkF m 51 #[.val (.ref rn), .val (.long of), .second, .val (.long ln), .second, .val (.int (0 : Int32)), .val (.int (1 : Int32)), .val (.int (1 : Int32))] []))
    refine Go.step (fun t k => XS.goto X0.here hx rfl (pc0 := 51) (pc' := 9) rfl (hb hby d1_51) (by decide) (by decide) k) ?_
    show Go _ _ _ _ _ _ _ (s₁.setTop (mkF m 9 #[.val (.ref rn), .val (.long of), .second, .val (.long ln), .second, .val (.int (0 : Int32)), .val (.int (1 : Int32)), .val (.int (1 : Int32))] []))
    refine Go.step (fun t k => XS.iload X0.here hx rfl (hb hby d1_9) rfl k) ?_
    show Go _ _ _ _ _ _ _ (s₁.setTop (mkF m 11 #[.val (.ref rn), .val (.long of), .second, .val (.long ln), .second, .val (.int (0 : Int32)), .val (.int (1 : Int32)), .val (.int (1 : Int32))] [(.int (0 : Int32))]))
    refine Go.step (fun t k => XS.iload X0.here hx rfl (hb hby d1_11) rfl k) ?_
    show Go _ _ _ _ _ _ _ (s₁.setTop (mkF m 13 #[.val (.ref rn), .val (.long of), .second, .val (.long ln), .second, .val (.int (0 : Int32)), .val (.int (1 : Int32)), .val (.int (1 : Int32))] [(.int (1 : Int32)), (.int (0 : Int32))]))
    refine Go.step (fun t k => XS.icmpNo X0.here hx rfl (hb hby d1_13) rfl (tlt (by decide : (0 : Int32) < (1 : Int32))).2.1 k) ?_
    show Go _ _ _ _ _ _ _ (s₁.setTop (mkF m 16 #[.val (.ref rn), .val (.long of), .second, .val (.long ln), .second, .val (.int (0 : Int32)), .val (.int (1 : Int32)), .val (.int (1 : Int32))] []))
    refine Go.step (fun t k => XS.iload X0.here hx rfl (hb hby d1_16) rfl k) ?_
    show Go _ _ _ _ _ _ _ (s₁.setTop (mkF m 18 #[.val (.ref rn), .val (.long of), .second, .val (.long ln), .second, .val (.int (0 : Int32)), .val (.int (1 : Int32)), .val (.int (1 : Int32))] [(.int (0 : Int32))]))
    refine Go.step (fun t k => XS.iload X0.here hx rfl (hb hby d1_18) rfl k) ?_
    show Go _ _ _ _ _ _ _ (s₁.setTop (mkF m 20 #[.val (.ref rn), .val (.long of), .second, .val (.long ln), .second, .val (.int (0 : Int32)), .val (.int (1 : Int32)), .val (.int (1 : Int32))] [(.int (1 : Int32)), (.int (0 : Int32))]))
    refine Go.step (fun t k => XS.iadd X0.here hx rfl (hb hby d1_20) rfl k) ?_
    show Go _ _ _ _ _ _ _ (s₁.setTop (mkF m 21 #[.val (.ref rn), .val (.long of), .second, .val (.long ln), .second, .val (.int (0 : Int32)), .val (.int (1 : Int32)), .val (.int (1 : Int32))] [(.int (1 : Int32))]))
    refine Go.step (fun t k => XS.iconst X0.here hx rfl (hb hby d1_21) k) ?_
    show Go _ _ _ _ _ _ _ (s₁.setTop (mkF m 22 #[.val (.ref rn), .val (.long of), .second, .val (.long ln), .second, .val (.int (0 : Int32)), .val (.int (1 : Int32)), .val (.int (1 : Int32))] [(.int (1 : Int32)), (.int (1 : Int32))]))
    refine Go.step (fun t k => XS.iushr X0.here hx rfl (hb hby d1_22) rfl k) ?_
    show Go _ _ _ _ _ _ _ (s₁.setTop (mkF m 23 #[.val (.ref rn), .val (.long of), .second, .val (.long ln), .second, .val (.int (0 : Int32)), .val (.int (1 : Int32)), .val (.int (1 : Int32))] [(.int (0 : Int32))]))
    refine Go.step (fun t k => XS.istore X0.here hx rfl (hb hby d1_23) rfl (l' := #[.val (.ref rn), .val (.long of), .second, .val (.long ln), .second, .val (.int (0 : Int32)), .val (.int (1 : Int32)), .val (.int (0 : Int32))]) rfl k) ?_
    show Go _ _ _ _ _ _ _ (s₁.setTop (mkF m 25 #[.val (.ref rn), .val (.long of), .second, .val (.long ln), .second, .val (.int (0 : Int32)), .val (.int (1 : Int32)), .val (.int (0 : Int32))] []))
    refine Go.step (fun t k => XS.aloadN X0.here hx rfl (hb hby d1_25) rfl rfl k) ?_
    show Go _ _ _ _ _ _ _ (s₁.setTop (mkF m 26 #[.val (.ref rn), .val (.long of), .second, .val (.long ln), .second, .val (.int (0 : Int32)), .val (.int (1 : Int32)), .val (.int (0 : Int32))] [(.ref rn)]))
    refine Go.step (fun t k => XS.iconst X0.here hx rfl (hb hby d1_26) k) ?_
    show Go _ _ _ _ _ _ _ (s₁.setTop (mkF m 27 #[.val (.ref rn), .val (.long of), .second, .val (.long ln), .second, .val (.int (0 : Int32)), .val (.int (1 : Int32)), .val (.int (0 : Int32))] [(.int (2 : Int32)), (.ref rn)]))
    refine Go.step (fun t k => XS.iload X0.here hx rfl (hb hby d1_27) rfl k) ?_
    show Go _ _ _ _ _ _ _ (s₁.setTop (mkF m 29 #[.val (.ref rn), .val (.long of), .second, .val (.long ln), .second, .val (.int (0 : Int32)), .val (.int (1 : Int32)), .val (.int (0 : Int32))] [(.int (0 : Int32)), (.int (2 : Int32)), (.ref rn)]))
    refine Go.step (fun t k => XS.imul X0.here hx rfl (hb hby d1_29) rfl k) ?_
    show Go _ _ _ _ _ _ _ (s₁.setTop (mkF m 30 #[.val (.ref rn), .val (.long of), .second, .val (.long ln), .second, .val (.int (0 : Int32)), .val (.int (1 : Int32)), .val (.int (0 : Int32))] [(.int (0 : Int32)), (.ref rn)]))
    refine Go.step (own_ld X0 hx hZ e0 A_rn (j := (0 : Int32)) 0 rfl (by decide) (v := (.long o0)) rfl (Or.inr (Or.inl ⟨rfl, rfl⟩)) (f := (mkF m 30 #[.val (.ref rn), .val (.long of), .second, .val (.long ln), .second, .val (.int (0 : Int32)), .val (.int (1 : Int32)), .val (.int (0 : Int32))] [(.int (0 : Int32)), (.ref rn)])) rfl rfl (hb hby d1_30)) ?_
    show Go _ _ _ _ _ _ _ (s₁.setTop (mkF m 31 #[.val (.ref rn), .val (.long of), .second, .val (.long ln), .second, .val (.int (0 : Int32)), .val (.int (1 : Int32)), .val (.int (0 : Int32))] [(.long o0)]))
    refine Go.step (fun t k => XS.lloadN X0.here hx rfl (hb hby d1_31) rfl k) ?_
    show Go _ _ _ _ _ _ _ (s₁.setTop (mkF m 32 #[.val (.ref rn), .val (.long of), .second, .val (.long ln), .second, .val (.int (0 : Int32)), .val (.int (1 : Int32)), .val (.int (0 : Int32))] [(.long of), (.long o0)]))
    refine Go.step (fun t k => XS.lloadN X0.here hx rfl (hb hby d1_32) rfl k) ?_
    show Go _ _ _ _ _ _ _ (s₁.setTop (mkF m 33 #[.val (.ref rn), .val (.long of), .second, .val (.long ln), .second, .val (.int (0 : Int32)), .val (.int (1 : Int32)), .val (.int (0 : Int32))] [(.long ln), (.long of), (.long o0)]))
    refine Go.step (fun t k => XS.ladd X0.here hx rfl (hb hby d1_33) rfl k) ?_
    show Go _ _ _ _ _ _ _ (s₁.setTop (mkF m 34 #[.val (.ref rn), .val (.long of), .second, .val (.long ln), .second, .val (.int (0 : Int32)), .val (.int (1 : Int32)), .val (.int (0 : Int32))] [(.long (of + ln)), (.long o0)]))
    refine Go.step (fun t k => XS.lcmp X0.here hx rfl (hb hby d1_34) rfl k) ?_
    show Go _ _ _ _ _ _ _ (s₁.setTop (mkF m 35 #[.val (.ref rn), .val (.long of), .second, .val (.long ln), .second, .val (.int (0 : Int32)), .val (.int (1 : Int32)), .val (.int (0 : Int32))] [(.int (lcmpW o0 (of + ln)))]))
    by_cases hc35_9 : o0 < (of + ln)
    · refine Go.step (fun t k => XS.ifNo X0.here hx rfl (hb hby d1_35) rfl ((if0 _ _).trans (tlt (own_lwlt hc35_9)).2.1) k) ?_
      show Go _ _ _ _ _ _ _ (s₁.setTop (mkF m 38 #[.val (.ref rn), .val (.long of), .second, .val (.long ln), .second, .val (.int (0 : Int32)), .val (.int (1 : Int32)), .val (.int (0 : Int32))] []))
      refine Go.step (fun t k => XS.iload X0.here hx rfl (hb hby d1_38) rfl k) ?_
      show Go _ _ _ _ _ _ _ (s₁.setTop (mkF m 40 #[.val (.ref rn), .val (.long of), .second, .val (.long ln), .second, .val (.int (0 : Int32)), .val (.int (1 : Int32)), .val (.int (0 : Int32))] [(.int (0 : Int32))]))
      refine Go.step (fun t k => XS.iconst X0.here hx rfl (hb hby d1_40) k) ?_
      show Go _ _ _ _ _ _ _ (s₁.setTop (mkF m 41 #[.val (.ref rn), .val (.long of), .second, .val (.long ln), .second, .val (.int (0 : Int32)), .val (.int (1 : Int32)), .val (.int (0 : Int32))] [(.int (1 : Int32)), (.int (0 : Int32))]))
      refine Go.step (fun t k => XS.iadd X0.here hx rfl (hb hby d1_41) rfl k) ?_
      show Go _ _ _ _ _ _ _ (s₁.setTop (mkF m 42 #[.val (.ref rn), .val (.long of), .second, .val (.long ln), .second, .val (.int (0 : Int32)), .val (.int (1 : Int32)), .val (.int (0 : Int32))] [(.int (1 : Int32))]))
      refine Go.step (fun t k => XS.istore X0.here hx rfl (hb hby d1_42) rfl (l' := #[.val (.ref rn), .val (.long of), .second, .val (.long ln), .second, .val (.int (1 : Int32)), .val (.int (1 : Int32)), .val (.int (0 : Int32))]) rfl k) ?_
      show Go _ _ _ _ _ _ _ (s₁.setTop (mkF m 44 #[.val (.ref rn), .val (.long of), .second, .val (.long ln), .second, .val (.int (1 : Int32)), .val (.int (1 : Int32)), .val (.int (0 : Int32))] []))
      refine Go.step (fun t k => XS.goto X0.here hx rfl (pc0 := 44) (pc' := 51) rfl (hb hby d1_44) (by decide) (by decide) k) ?_
      show Go _ _ _ _ _ _ _ (s₁.setTop (mkF m 51 #[.val (.ref rn), .val (.long of), .second, .val (.long ln), .second, .val (.int (1 : Int32)), .val (.int (1 : Int32)), .val (.int (0 : Int32))] []))
      refine Go.step (fun t k => XS.goto X0.here hx rfl (pc0 := 51) (pc' := 9) rfl (hb hby d1_51) (by decide) (by decide) k) ?_
      show Go _ _ _ _ _ _ _ (s₁.setTop (mkF m 9 #[.val (.ref rn), .val (.long of), .second, .val (.long ln), .second, .val (.int (1 : Int32)), .val (.int (1 : Int32)), .val (.int (0 : Int32))] []))
      refine Go.step (fun t k => XS.iload X0.here hx rfl (hb hby d1_9) rfl k) ?_
      show Go _ _ _ _ _ _ _ (s₁.setTop (mkF m 11 #[.val (.ref rn), .val (.long of), .second, .val (.long ln), .second, .val (.int (1 : Int32)), .val (.int (1 : Int32)), .val (.int (0 : Int32))] [(.int (1 : Int32))]))
      refine Go.step (fun t k => XS.iload X0.here hx rfl (hb hby d1_11) rfl k) ?_
      show Go _ _ _ _ _ _ _ (s₁.setTop (mkF m 13 #[.val (.ref rn), .val (.long of), .second, .val (.long ln), .second, .val (.int (1 : Int32)), .val (.int (1 : Int32)), .val (.int (0 : Int32))] [(.int (1 : Int32)), (.int (1 : Int32))]))
      refine Go.step (fun t k => XS.icmpYes X0.here hx rfl (pc0 := 13) (pc' := 54) rfl (hb hby d1_13) rfl (flt (by decide : ¬ (1 : Int32) < (1 : Int32))).2.1 (by decide) (by decide) k) ?_
      show Go _ _ _ _ _ _ _ (s₁.setTop (mkF m 54 #[.val (.ref rn), .val (.long of), .second, .val (.long ln), .second, .val (.int (1 : Int32)), .val (.int (1 : Int32)), .val (.int (0 : Int32))] []))
      refine Go.step (fun t k => XS.iload X0.here hx rfl (hb hby d1_54) rfl k) ?_
      show Go _ _ _ _ _ _ _ (s₁.setTop (mkF m 56 #[.val (.ref rn), .val (.long of), .second, .val (.long ln), .second, .val (.int (1 : Int32)), .val (.int (1 : Int32)), .val (.int (0 : Int32))] [(.int (1 : Int32))]))
      refine Go.step (fun t k => XS.iconst X0.here hx rfl (hb hby d1_56) k) ?_
      show Go _ _ _ _ _ _ _ (s₁.setTop (mkF m 57 #[.val (.ref rn), .val (.long of), .second, .val (.long ln), .second, .val (.int (1 : Int32)), .val (.int (1 : Int32)), .val (.int (0 : Int32))] [(.int (1 : Int32)), (.int (1 : Int32))]))
      refine Go.step (fun t k => XS.isub X0.here hx rfl (hb hby d1_57) rfl k) ?_
      show Go _ _ _ _ _ _ _ (s₁.setTop (mkF m 58 #[.val (.ref rn), .val (.long of), .second, .val (.long ln), .second, .val (.int (1 : Int32)), .val (.int (1 : Int32)), .val (.int (0 : Int32))] [(.int (0 : Int32))]))
      refine Go.step (fun t k => XS.istore X0.here hx rfl (hb hby d1_58) rfl (l' := #[.val (.ref rn), .val (.long of), .second, .val (.long ln), .second, .val (.int (1 : Int32)), .val (.int (1 : Int32)), .val (.int (0 : Int32))]) rfl k) ?_
      show Go _ _ _ _ _ _ _ (s₁.setTop (mkF m 60 #[.val (.ref rn), .val (.long of), .second, .val (.long ln), .second, .val (.int (1 : Int32)), .val (.int (1 : Int32)), .val (.int (0 : Int32))] []))
      refine Go.step (fun t k => XS.lloadN X0.here hx rfl (hb hby d1_60) rfl k) ?_
      show Go _ _ _ _ _ _ _ (s₁.setTop (mkF m 61 #[.val (.ref rn), .val (.long of), .second, .val (.long ln), .second, .val (.int (1 : Int32)), .val (.int (1 : Int32)), .val (.int (0 : Int32))] [(.long ln)]))
      refine Go.step (fun t k => XS.lconst X0.here hx rfl (hb hby d1_61) k) ?_
      show Go _ _ _ _ _ _ _ (s₁.setTop (mkF m 62 #[.val (.ref rn), .val (.long of), .second, .val (.long ln), .second, .val (.int (1 : Int32)), .val (.int (1 : Int32)), .val (.int (0 : Int32))] [(.long (0 : Int64)), (.long ln)]))
      refine Go.step (fun t k => XS.lcmp X0.here hx rfl (hb hby d1_62) rfl k) ?_
      show Go _ _ _ _ _ _ _ (s₁.setTop (mkF m 63 #[.val (.ref rn), .val (.long of), .second, .val (.long ln), .second, .val (.int (1 : Int32)), .val (.int (1 : Int32)), .val (.int (0 : Int32))] [(.int (lcmpW ln (0 : Int64)))]))
      by_cases hc63_10 : (0 : Int64) < ln
      · refine Go.step (fun t k => XS.ifNo X0.here hx rfl (hb hby d1_63) rfl ((if0 _ _).trans (tlt (own_lwgt hc63_10)).2.2.2) k) ?_
        show Go _ _ _ _ _ _ _ (s₁.setTop (mkF m 66 #[.val (.ref rn), .val (.long of), .second, .val (.long ln), .second, .val (.int (1 : Int32)), .val (.int (1 : Int32)), .val (.int (0 : Int32))] []))
        refine Go.step (fun t k => XS.iload X0.here hx rfl (hb hby d1_66) rfl k) ?_
        show Go _ _ _ _ _ _ _ (s₁.setTop (mkF m 68 #[.val (.ref rn), .val (.long of), .second, .val (.long ln), .second, .val (.int (1 : Int32)), .val (.int (1 : Int32)), .val (.int (0 : Int32))] [(.int (0 : Int32))]))
        refine Go.step (fun t k => XS.ifNo X0.here hx rfl (hb hby d1_68) rfl ((if0 _ _).trans (flt (by decide : ¬ (0 : Int32) < (0 : Int32))).1) k) ?_
        show Go _ _ _ _ _ _ _ (s₁.setTop (mkF m 71 #[.val (.ref rn), .val (.long of), .second, .val (.long ln), .second, .val (.int (1 : Int32)), .val (.int (1 : Int32)), .val (.int (0 : Int32))] []))
        refine Go.step (fun t k => XS.aloadN X0.here hx rfl (hb hby d1_71) rfl rfl k) ?_
        show Go _ _ _ _ _ _ _ (s₁.setTop (mkF m 72 #[.val (.ref rn), .val (.long of), .second, .val (.long ln), .second, .val (.int (1 : Int32)), .val (.int (1 : Int32)), .val (.int (0 : Int32))] [(.ref rn)]))
        refine Go.step (fun t k => XS.iconst X0.here hx rfl (hb hby d1_72) k) ?_
        show Go _ _ _ _ _ _ _ (s₁.setTop (mkF m 73 #[.val (.ref rn), .val (.long of), .second, .val (.long ln), .second, .val (.int (1 : Int32)), .val (.int (1 : Int32)), .val (.int (0 : Int32))] [(.int (2 : Int32)), (.ref rn)]))
        refine Go.step (fun t k => XS.iload X0.here hx rfl (hb hby d1_73) rfl k) ?_
        show Go _ _ _ _ _ _ _ (s₁.setTop (mkF m 75 #[.val (.ref rn), .val (.long of), .second, .val (.long ln), .second, .val (.int (1 : Int32)), .val (.int (1 : Int32)), .val (.int (0 : Int32))] [(.int (0 : Int32)), (.int (2 : Int32)), (.ref rn)]))
        refine Go.step (fun t k => XS.imul X0.here hx rfl (hb hby d1_75) rfl k) ?_
        show Go _ _ _ _ _ _ _ (s₁.setTop (mkF m 76 #[.val (.ref rn), .val (.long of), .second, .val (.long ln), .second, .val (.int (1 : Int32)), .val (.int (1 : Int32)), .val (.int (0 : Int32))] [(.int (0 : Int32)), (.ref rn)]))
        refine Go.step (own_ld X0 hx hZ e0 A_rn (j := (0 : Int32)) 0 rfl (by decide) (v := (.long o0)) rfl (Or.inr (Or.inl ⟨rfl, rfl⟩)) (f := (mkF m 76 #[.val (.ref rn), .val (.long of), .second, .val (.long ln), .second, .val (.int (1 : Int32)), .val (.int (1 : Int32)), .val (.int (0 : Int32))] [(.int (0 : Int32)), (.ref rn)])) rfl rfl (hb hby d1_76)) ?_
        show Go _ _ _ _ _ _ _ (s₁.setTop (mkF m 77 #[.val (.ref rn), .val (.long of), .second, .val (.long ln), .second, .val (.int (1 : Int32)), .val (.int (1 : Int32)), .val (.int (0 : Int32))] [(.long o0)]))
        refine Go.step (fun t k => XS.aloadN X0.here hx rfl (hb hby d1_77) rfl rfl k) ?_
        show Go _ _ _ _ _ _ _ (s₁.setTop (mkF m 78 #[.val (.ref rn), .val (.long of), .second, .val (.long ln), .second, .val (.int (1 : Int32)), .val (.int (1 : Int32)), .val (.int (0 : Int32))] [(.ref rn), (.long o0)]))
        refine Go.step (fun t k => XS.iconst X0.here hx rfl (hb hby d1_78) k) ?_
        show Go _ _ _ _ _ _ _ (s₁.setTop (mkF m 79 #[.val (.ref rn), .val (.long of), .second, .val (.long ln), .second, .val (.int (1 : Int32)), .val (.int (1 : Int32)), .val (.int (0 : Int32))] [(.int (2 : Int32)), (.ref rn), (.long o0)]))
        refine Go.step (fun t k => XS.iload X0.here hx rfl (hb hby d1_79) rfl k) ?_
        show Go _ _ _ _ _ _ _ (s₁.setTop (mkF m 81 #[.val (.ref rn), .val (.long of), .second, .val (.long ln), .second, .val (.int (1 : Int32)), .val (.int (1 : Int32)), .val (.int (0 : Int32))] [(.int (0 : Int32)), (.int (2 : Int32)), (.ref rn), (.long o0)]))
        refine Go.step (fun t k => XS.imul X0.here hx rfl (hb hby d1_81) rfl k) ?_
        show Go _ _ _ _ _ _ _ (s₁.setTop (mkF m 82 #[.val (.ref rn), .val (.long of), .second, .val (.long ln), .second, .val (.int (1 : Int32)), .val (.int (1 : Int32)), .val (.int (0 : Int32))] [(.int (0 : Int32)), (.ref rn), (.long o0)]))
        refine Go.step (fun t k => XS.iconst X0.here hx rfl (hb hby d1_82) k) ?_
        show Go _ _ _ _ _ _ _ (s₁.setTop (mkF m 83 #[.val (.ref rn), .val (.long of), .second, .val (.long ln), .second, .val (.int (1 : Int32)), .val (.int (1 : Int32)), .val (.int (0 : Int32))] [(.int (1 : Int32)), (.int (0 : Int32)), (.ref rn), (.long o0)]))
        refine Go.step (fun t k => XS.iadd X0.here hx rfl (hb hby d1_83) rfl k) ?_
        show Go _ _ _ _ _ _ _ (s₁.setTop (mkF m 84 #[.val (.ref rn), .val (.long of), .second, .val (.long ln), .second, .val (.int (1 : Int32)), .val (.int (1 : Int32)), .val (.int (0 : Int32))] [(.int (1 : Int32)), (.ref rn), (.long o0)]))
        refine Go.step (own_ld X0 hx hZ e0 A_rn (j := (1 : Int32)) 1 rfl (by decide) (v := (.long l0)) rfl (Or.inr (Or.inl ⟨rfl, rfl⟩)) (f := (mkF m 84 #[.val (.ref rn), .val (.long of), .second, .val (.long ln), .second, .val (.int (1 : Int32)), .val (.int (1 : Int32)), .val (.int (0 : Int32))] [(.int (1 : Int32)), (.ref rn), (.long o0)])) rfl rfl (hb hby d1_84)) ?_
        show Go _ _ _ _ _ _ _ (s₁.setTop (mkF m 85 #[.val (.ref rn), .val (.long of), .second, .val (.long ln), .second, .val (.int (1 : Int32)), .val (.int (1 : Int32)), .val (.int (0 : Int32))] [(.long l0), (.long o0)]))
        refine Go.step (fun t k => XS.ladd X0.here hx rfl (hb hby d1_85) rfl k) ?_
        show Go _ _ _ _ _ _ _ (s₁.setTop (mkF m 86 #[.val (.ref rn), .val (.long of), .second, .val (.long ln), .second, .val (.int (1 : Int32)), .val (.int (1 : Int32)), .val (.int (0 : Int32))] [(.long (o0 + l0))]))
        refine Go.step (fun t k => XS.lloadN X0.here hx rfl (hb hby d1_86) rfl k) ?_
        show Go _ _ _ _ _ _ _ (s₁.setTop (mkF m 87 #[.val (.ref rn), .val (.long of), .second, .val (.long ln), .second, .val (.int (1 : Int32)), .val (.int (1 : Int32)), .val (.int (0 : Int32))] [(.long of), (.long (o0 + l0))]))
        refine Go.step (fun t k => XS.lcmp X0.here hx rfl (hb hby d1_87) rfl k) ?_
        show Go _ _ _ _ _ _ _ (s₁.setTop (mkF m 88 #[.val (.ref rn), .val (.long of), .second, .val (.long ln), .second, .val (.int (1 : Int32)), .val (.int (1 : Int32)), .val (.int (0 : Int32))] [(.int (lcmpW (o0 + l0) of))]))
        by_cases hc88_13 : of < (o0 + l0)
        · refine Go.step (fun t k => XS.ifNo X0.here hx rfl (hb hby d1_88) rfl ((if0 _ _).trans (tlt (own_lwgt hc88_13)).2.2.2) k) ?_
          show Go _ _ _ _ _ _ _ (s₁.setTop (mkF m 91 #[.val (.ref rn), .val (.long of), .second, .val (.long ln), .second, .val (.int (1 : Int32)), .val (.int (1 : Int32)), .val (.int (0 : Int32))] []))
          refine Go.step (fun t k => XS.iconst X0.here hx rfl (hb hby d1_91) k) ?_
          show Go _ _ _ _ _ _ _ (s₁.setTop (mkF m 92 #[.val (.ref rn), .val (.long of), .second, .val (.long ln), .second, .val (.int (1 : Int32)), .val (.int (1 : Int32)), .val (.int (0 : Int32))] [(.int (1 : Int32))]))
          refine Go.step (fun t k => XS.goto X0.here hx rfl (pc0 := 92) (pc' := 96) rfl (hb hby d1_92) (by decide) (by decide) k) ?_
          show Go _ _ _ _ _ _ _ (s₁.setTop (mkF m 96 #[.val (.ref rn), .val (.long of), .second, .val (.long ln), .second, .val (.int (1 : Int32)), .val (.int (1 : Int32)), .val (.int (0 : Int32))] [(.int (1 : Int32))]))
          refine Go.retN X0 Bd.notSynchronized hx (t := .boolean) Bd.returns (by simp) (hb hby d1_96) (by decide) (by decide) (1 : Int32) rfl ?_
          rw [e0]
          have ihc35_3 := own_nltL hc35_3
          have ihc35_9 := own_ltL hc35_9
          have ihc63_10 := own_ltL hc63_10
          have ihc88_13 := own_ltL hc88_13
          have e0L : (0 : Int64).toInt = 0 := rfl
          have ho := hord
          simp only [own_or1, own_or2, own_or3] at ho
          exact ⟨(1 : Int32), rfl, N0, rfl, (Or.inl ⟨rfl, (by simp only [own_hit, Int64.lt_iff_toInt_lt, e0L]; omega)⟩)⟩
        · refine Go.step (fun t k => XS.ifYes X0.here hx rfl (pc0 := 88) (pc' := 95) rfl (hb hby d1_88) rfl ((if0 _ _).trans (flt (own_nlwgt hc88_13)).2.2.2) (by decide) (by decide) k) ?_
          show Go _ _ _ _ _ _ _ (s₁.setTop (mkF m 95 #[.val (.ref rn), .val (.long of), .second, .val (.long ln), .second, .val (.int (1 : Int32)), .val (.int (1 : Int32)), .val (.int (0 : Int32))] []))
          refine Go.step (fun t k => XS.iconst X0.here hx rfl (hb hby d1_95) k) ?_
          show Go _ _ _ _ _ _ _ (s₁.setTop (mkF m 96 #[.val (.ref rn), .val (.long of), .second, .val (.long ln), .second, .val (.int (1 : Int32)), .val (.int (1 : Int32)), .val (.int (0 : Int32))] [(.int (0 : Int32))]))
          refine Go.retN X0 Bd.notSynchronized hx (t := .boolean) Bd.returns (by simp) (hb hby d1_96) (by decide) (by decide) (0 : Int32) rfl ?_
          rw [e0]
          have ihc35_3 := own_nltL hc35_3
          have ihc35_9 := own_ltL hc35_9
          have ihc63_10 := own_ltL hc63_10
          have ihc88_13 := own_nltL hc88_13
          have e0L : (0 : Int64).toInt = 0 := rfl
          have ho := hord
          simp only [own_or1, own_or2, own_or3] at ho
          exact ⟨(0 : Int32), rfl, N0, rfl, (Or.inr ⟨rfl, (by simp only [own_hit, Int64.lt_iff_toInt_lt, e0L]; omega)⟩)⟩
      · refine Go.step (fun t k => XS.ifYes X0.here hx rfl (pc0 := 63) (pc' := 95) rfl (hb hby d1_63) rfl ((if0 _ _).trans (flt (own_nlwgt hc63_10)).2.2.2) (by decide) (by decide) k) ?_
        show Go _ _ _ _ _ _ _ (s₁.setTop (mkF m 95 #[.val (.ref rn), .val (.long of), .second, .val (.long ln), .second, .val (.int (1 : Int32)), .val (.int (1 : Int32)), .val (.int (0 : Int32))] []))
        refine Go.step (fun t k => XS.iconst X0.here hx rfl (hb hby d1_95) k) ?_
        show Go _ _ _ _ _ _ _ (s₁.setTop (mkF m 96 #[.val (.ref rn), .val (.long of), .second, .val (.long ln), .second, .val (.int (1 : Int32)), .val (.int (1 : Int32)), .val (.int (0 : Int32))] [(.int (0 : Int32))]))
        refine Go.retN X0 Bd.notSynchronized hx (t := .boolean) Bd.returns (by simp) (hb hby d1_96) (by decide) (by decide) (0 : Int32) rfl ?_
        rw [e0]
        have ihc35_3 := own_nltL hc35_3
        have ihc35_9 := own_ltL hc35_9
        have ihc63_10 := own_nltL hc63_10
        have e0L : (0 : Int64).toInt = 0 := rfl
        have ho := hord
        simp only [own_or1, own_or2, own_or3] at ho
        exact ⟨(0 : Int32), rfl, N0, rfl, (Or.inr ⟨rfl, (by simp only [own_hit, Int64.lt_iff_toInt_lt, e0L]; omega)⟩)⟩
    · refine Go.step (fun t k => XS.ifYes X0.here hx rfl (pc0 := 35) (pc' := 47) rfl (hb hby d1_35) rfl ((if0 _ _).trans (flt (own_nlwlt hc35_9)).2.1) (by decide) (by decide) k) ?_
      show Go _ _ _ _ _ _ _ (s₁.setTop (mkF m 47 #[.val (.ref rn), .val (.long of), .second, .val (.long ln), .second, .val (.int (0 : Int32)), .val (.int (1 : Int32)), .val (.int (0 : Int32))] []))
      refine Go.step (fun t k => XS.iload X0.here hx rfl (hb hby d1_47) rfl k) ?_
      show Go _ _ _ _ _ _ _ (s₁.setTop (mkF m 49 #[.val (.ref rn), .val (.long of), .second, .val (.long ln), .second, .val (.int (0 : Int32)), .val (.int (1 : Int32)), .val (.int (0 : Int32))] [(.int (0 : Int32))]))
      refine Go.step (fun t k => XS.istore X0.here hx rfl (hb hby d1_49) rfl (l' := #[.val (.ref rn), .val (.long of), .second, .val (.long ln), .second, .val (.int (0 : Int32)), .val (.int (0 : Int32)), .val (.int (0 : Int32))]) rfl k) ?_
      show Go _ _ _ _ _ _ _ (s₁.setTop (mkF m 51 #[.val (.ref rn), .val (.long of), .second, .val (.long ln), .second, .val (.int (0 : Int32)), .val (.int (0 : Int32)), .val (.int (0 : Int32))] []))
      refine Go.step (fun t k => XS.goto X0.here hx rfl (pc0 := 51) (pc' := 9) rfl (hb hby d1_51) (by decide) (by decide) k) ?_
      show Go _ _ _ _ _ _ _ (s₁.setTop (mkF m 9 #[.val (.ref rn), .val (.long of), .second, .val (.long ln), .second, .val (.int (0 : Int32)), .val (.int (0 : Int32)), .val (.int (0 : Int32))] []))
      refine Go.step (fun t k => XS.iload X0.here hx rfl (hb hby d1_9) rfl k) ?_
      show Go _ _ _ _ _ _ _ (s₁.setTop (mkF m 11 #[.val (.ref rn), .val (.long of), .second, .val (.long ln), .second, .val (.int (0 : Int32)), .val (.int (0 : Int32)), .val (.int (0 : Int32))] [(.int (0 : Int32))]))
      refine Go.step (fun t k => XS.iload X0.here hx rfl (hb hby d1_11) rfl k) ?_
      show Go _ _ _ _ _ _ _ (s₁.setTop (mkF m 13 #[.val (.ref rn), .val (.long of), .second, .val (.long ln), .second, .val (.int (0 : Int32)), .val (.int (0 : Int32)), .val (.int (0 : Int32))] [(.int (0 : Int32)), (.int (0 : Int32))]))
      refine Go.step (fun t k => XS.icmpYes X0.here hx rfl (pc0 := 13) (pc' := 54) rfl (hb hby d1_13) rfl (flt (by decide : ¬ (0 : Int32) < (0 : Int32))).2.1 (by decide) (by decide) k) ?_
      show Go _ _ _ _ _ _ _ (s₁.setTop (mkF m 54 #[.val (.ref rn), .val (.long of), .second, .val (.long ln), .second, .val (.int (0 : Int32)), .val (.int (0 : Int32)), .val (.int (0 : Int32))] []))
      refine Go.step (fun t k => XS.iload X0.here hx rfl (hb hby d1_54) rfl k) ?_
      show Go _ _ _ _ _ _ _ (s₁.setTop (mkF m 56 #[.val (.ref rn), .val (.long of), .second, .val (.long ln), .second, .val (.int (0 : Int32)), .val (.int (0 : Int32)), .val (.int (0 : Int32))] [(.int (0 : Int32))]))
      refine Go.step (fun t k => XS.iconst X0.here hx rfl (hb hby d1_56) k) ?_
      show Go _ _ _ _ _ _ _ (s₁.setTop (mkF m 57 #[.val (.ref rn), .val (.long of), .second, .val (.long ln), .second, .val (.int (0 : Int32)), .val (.int (0 : Int32)), .val (.int (0 : Int32))] [(.int (1 : Int32)), (.int (0 : Int32))]))
      refine Go.step (fun t k => XS.isub X0.here hx rfl (hb hby d1_57) rfl k) ?_
      show Go _ _ _ _ _ _ _ (s₁.setTop (mkF m 58 #[.val (.ref rn), .val (.long of), .second, .val (.long ln), .second, .val (.int (0 : Int32)), .val (.int (0 : Int32)), .val (.int (0 : Int32))] [(.int (-1 : Int32))]))
      refine Go.step (fun t k => XS.istore X0.here hx rfl (hb hby d1_58) rfl (l' := #[.val (.ref rn), .val (.long of), .second, .val (.long ln), .second, .val (.int (0 : Int32)), .val (.int (0 : Int32)), .val (.int (-1 : Int32))]) rfl k) ?_
      show Go _ _ _ _ _ _ _ (s₁.setTop (mkF m 60 #[.val (.ref rn), .val (.long of), .second, .val (.long ln), .second, .val (.int (0 : Int32)), .val (.int (0 : Int32)), .val (.int (-1 : Int32))] []))
      refine Go.step (fun t k => XS.lloadN X0.here hx rfl (hb hby d1_60) rfl k) ?_
      show Go _ _ _ _ _ _ _ (s₁.setTop (mkF m 61 #[.val (.ref rn), .val (.long of), .second, .val (.long ln), .second, .val (.int (0 : Int32)), .val (.int (0 : Int32)), .val (.int (-1 : Int32))] [(.long ln)]))
      refine Go.step (fun t k => XS.lconst X0.here hx rfl (hb hby d1_61) k) ?_
      show Go _ _ _ _ _ _ _ (s₁.setTop (mkF m 62 #[.val (.ref rn), .val (.long of), .second, .val (.long ln), .second, .val (.int (0 : Int32)), .val (.int (0 : Int32)), .val (.int (-1 : Int32))] [(.long (0 : Int64)), (.long ln)]))
      refine Go.step (fun t k => XS.lcmp X0.here hx rfl (hb hby d1_62) rfl k) ?_
      show Go _ _ _ _ _ _ _ (s₁.setTop (mkF m 63 #[.val (.ref rn), .val (.long of), .second, .val (.long ln), .second, .val (.int (0 : Int32)), .val (.int (0 : Int32)), .val (.int (-1 : Int32))] [(.int (lcmpW ln (0 : Int64)))]))
      by_cases hc63_14 : (0 : Int64) < ln
      · refine Go.step (fun t k => XS.ifNo X0.here hx rfl (hb hby d1_63) rfl ((if0 _ _).trans (tlt (own_lwgt hc63_14)).2.2.2) k) ?_
        show Go _ _ _ _ _ _ _ (s₁.setTop (mkF m 66 #[.val (.ref rn), .val (.long of), .second, .val (.long ln), .second, .val (.int (0 : Int32)), .val (.int (0 : Int32)), .val (.int (-1 : Int32))] []))
        refine Go.step (fun t k => XS.iload X0.here hx rfl (hb hby d1_66) rfl k) ?_
        show Go _ _ _ _ _ _ _ (s₁.setTop (mkF m 68 #[.val (.ref rn), .val (.long of), .second, .val (.long ln), .second, .val (.int (0 : Int32)), .val (.int (0 : Int32)), .val (.int (-1 : Int32))] [(.int (-1 : Int32))]))
        refine Go.step (fun t k => XS.ifYes X0.here hx rfl (pc0 := 68) (pc' := 95) rfl (hb hby d1_68) rfl ((if0 _ _).trans (tlt (by decide : (-1 : Int32) < (0 : Int32))).1) (by decide) (by decide) k) ?_
        show Go _ _ _ _ _ _ _ (s₁.setTop (mkF m 95 #[.val (.ref rn), .val (.long of), .second, .val (.long ln), .second, .val (.int (0 : Int32)), .val (.int (0 : Int32)), .val (.int (-1 : Int32))] []))
        refine Go.step (fun t k => XS.iconst X0.here hx rfl (hb hby d1_95) k) ?_
        show Go _ _ _ _ _ _ _ (s₁.setTop (mkF m 96 #[.val (.ref rn), .val (.long of), .second, .val (.long ln), .second, .val (.int (0 : Int32)), .val (.int (0 : Int32)), .val (.int (-1 : Int32))] [(.int (0 : Int32))]))
        refine Go.retN X0 Bd.notSynchronized hx (t := .boolean) Bd.returns (by simp) (hb hby d1_96) (by decide) (by decide) (0 : Int32) rfl ?_
        rw [e0]
        have ihc35_3 := own_nltL hc35_3
        have ihc35_9 := own_nltL hc35_9
        have ihc63_14 := own_ltL hc63_14
        have e0L : (0 : Int64).toInt = 0 := rfl
        have ho := hord
        simp only [own_or1, own_or2, own_or3] at ho
        exact ⟨(0 : Int32), rfl, N0, rfl, (Or.inr ⟨rfl, (by simp only [own_hit, Int64.lt_iff_toInt_lt, e0L]; omega)⟩)⟩
      · refine Go.step (fun t k => XS.ifYes X0.here hx rfl (pc0 := 63) (pc' := 95) rfl (hb hby d1_63) rfl ((if0 _ _).trans (flt (own_nlwgt hc63_14)).2.2.2) (by decide) (by decide) k) ?_
        show Go _ _ _ _ _ _ _ (s₁.setTop (mkF m 95 #[.val (.ref rn), .val (.long of), .second, .val (.long ln), .second, .val (.int (0 : Int32)), .val (.int (0 : Int32)), .val (.int (-1 : Int32))] []))
        refine Go.step (fun t k => XS.iconst X0.here hx rfl (hb hby d1_95) k) ?_
        show Go _ _ _ _ _ _ _ (s₁.setTop (mkF m 96 #[.val (.ref rn), .val (.long of), .second, .val (.long ln), .second, .val (.int (0 : Int32)), .val (.int (0 : Int32)), .val (.int (-1 : Int32))] [(.int (0 : Int32))]))
        refine Go.retN X0 Bd.notSynchronized hx (t := .boolean) Bd.returns (by simp) (hb hby d1_96) (by decide) (by decide) (0 : Int32) rfl ?_
        rw [e0]
        have ihc35_3 := own_nltL hc35_3
        have ihc35_9 := own_nltL hc35_9
        have ihc63_14 := own_nltL hc63_14
        have e0L : (0 : Int64).toInt = 0 := rfl
        have ho := hord
        simp only [own_or1, own_or2, own_or3] at ho
        exact ⟨(0 : Int32), rfl, N0, rfl, (Or.inr ⟨rfl, (by simp only [own_hit, Int64.lt_iff_toInt_lt, e0L]; omega)⟩)⟩
theorem pn_1_3 : plainName "com/example/rootkeep/rootkeep/file/FreeSpace" = true := by first | (simp [plainName, overriddenIn]; done) | decide +kernel
theorem ef_1_3 (m : MethodId) (x0 : Addr) (x1 : Int64) (x2 : Int64) : entryFrame m #[(.ref x0), (.long x1), (.long x2)] 8 = mkF m 0 #[.val (.ref x0), .val (.long x1), .second, .val (.long x2), .second, .unset, .unset, .unset] [] := by first | (simp [entryFrame, mkF, argsToLocals, Value.category]; done) | rfl
def Q1_3 (Z : State) (rn : Addr) (of : Int64) (ln : Int64) (o0 : Int64) (l0 : Int64) (o1 : Int64) (l1 : Int64) (o2 : Int64) (l2 : Int64) (h0 : Heap) (n0 : Nat) (v : Option Value) (h : Heap) (L : List Loc) : Prop := ∃ z : Int32, v = some (.int z) ∧ Fr n0 L ∧ h = h0 ∧ ((z = 1 ∧ (own_hit o0 l0 of ln ∨ own_hit o1 l1 of ln ∨ own_hit o2 l2 of ln)) ∨ (z = 0 ∧ ¬ (own_hit o0 l0 of ln ∨ own_hit o1 l1 of ln ∨ own_hit o2 l2 of ln)))
set_option maxRecDepth 65536 in
set_option maxHeartbeats 40000000 in
theorem rm1_3 (l : Launch) (Z : State) (a0 : Array Value) (hw : ∀ d ∈ tables_1, d.before a0 Z = true) (ws : List Jvm.Cond) (rn : Addr) (of : Int64) (ln : Int64) (o0 : Int64) (l0 : Int64) (o1 : Int64) (l1 : Int64) (o2 : Int64) (l2 : Int64) (h0 : Heap) (n0 : Nat) (Z0 : n0 ≤ h0.size) (A_rn : AryJ Z h0 rn 6 (up (up (up (up (up (up (fun _ => (0 : Int64)) 0 o0) 1 l0) 2 o1) 3 l1) 4 o2) 5 l2)) (hord : (own_or3 o0 l0 o1 l1 o2 l2)) :
    MetFree l (⟨"com/example/rootkeep/rootkeep/file/FreeSpace", "overlaps", "([JJJ)Z"⟩ : MethodName) (head1 (Jvm.Cond.code (⟨"com/example/rootkeep/rootkeep/file/FreeSpace", "overlaps", "([JJJ)Z"⟩ : MethodName) prog_21_method_4_code 8 (some .boolean) :: ws) ({ frames := 0, cells := 0, slots := 0, locals := 0 } : Room)) (fun a U => a = #[(.ref rn), (.long of), (.long ln)] ∧ Z.Warmed39 U.vm ∧ U.heap = h0) (fun _ _ _ _ _ => True) (fun _ U o U' => ∃ v L, o = .returned v ∧ Q1_3 Z rn of ln o0 l0 o1 l1 o2 l2 h0 n0 v U'.heap L ∧ FrameEnd U o U' L ({ frames := 0, cells := 0, slots := 0, locals := 0 } : Room).cells ({ frames := 0, cells := 0, slots := 0, locals := 0 } : Room).slots) := by
  refine MetFree.of_bodySF (plainFor_of_name pn_1_3) hisR ?_
  intro p e s m args below meth c s₁ Bd hml0 hP hK
  obtain ⟨rfl, hZ, hh⟩ := hP
  have hx := Bd.exec
  have hby := Bd.bytes
  have hml : c.maxLocals = 8 := hml0
  have hown : s.vm.findClass "com/example/rootkeep/rootkeep/file/FreeSpace" = some m.cls := findClass_of_methodNamed Bd.named
  have hnm := (name_of_methodNamed Bd.named Bd.method).1
  have X0 : Stand p l e ({ frames := 0, cells := 0, slots := 0, locals := 0 } : Room) s m #[(.ref rn), (.long of), (.long ln)] below meth c s₁ [] 0 0 := Stand.of_body Bd
  have e0 : s₁.heap = h0 := by rw [← hh, Bd.state]; rfl
  have N0 := Fr.nil n0
  show Go p e below s (Q1_3 Z rn of ln o0 l0 o1 l1 o2 l2 h0 n0) ({ frames := 0, cells := 0, slots := 0, locals := 0 } : Room).cells ({ frames := 0, cells := 0, slots := 0, locals := 0 } : Room).slots (s₁.setTop (entryFrame m #[(.ref rn), (.long of), (.long ln)] 8))
  rw [ef_1_3]
  show Go _ _ _ _ _ _ _ (s₁.setTop (mkF m 0 #[.val (.ref rn), .val (.long of), .second, .val (.long ln), .second, .unset, .unset, .unset] []))
  refine Go.step (fun t k => XS.iconst X0.here hx rfl (hb hby d1_0) k) ?_
  show Go _ _ _ _ _ _ _ (s₁.setTop (mkF m 1 #[.val (.ref rn), .val (.long of), .second, .val (.long ln), .second, .unset, .unset, .unset] [(.int (0 : Int32))]))
  refine Go.step (fun t k => XS.istore X0.here hx rfl (hb hby d1_1) rfl (l' := #[.val (.ref rn), .val (.long of), .second, .val (.long ln), .second, .val (.int (0 : Int32)), .unset, .unset]) rfl k) ?_
  show Go _ _ _ _ _ _ _ (s₁.setTop (mkF m 3 #[.val (.ref rn), .val (.long of), .second, .val (.long ln), .second, .val (.int (0 : Int32)), .unset, .unset] []))
  refine Go.step (fun t k => XS.aloadN X0.here hx rfl (hb hby d1_3) rfl rfl k) ?_
  show Go _ _ _ _ _ _ _ (s₁.setTop (mkF m 4 #[.val (.ref rn), .val (.long of), .second, .val (.long ln), .second, .val (.int (0 : Int32)), .unset, .unset] [(.ref rn)]))
  refine Go.step (own_len X0 hx hZ e0 A_rn (z := (6 : Int32)) rfl (f := (mkF m 4 #[.val (.ref rn), .val (.long of), .second, .val (.long ln), .second, .val (.int (0 : Int32)), .unset, .unset] [(.ref rn)])) rfl rfl (hb hby d1_4)) ?_
  show Go _ _ _ _ _ _ _ (s₁.setTop (mkF m 5 #[.val (.ref rn), .val (.long of), .second, .val (.long ln), .second, .val (.int (0 : Int32)), .unset, .unset] [(.int (6 : Int32))]))
  refine Go.step (fun t k => XS.iconst X0.here hx rfl (hb hby d1_5) k) ?_
  show Go _ _ _ _ _ _ _ (s₁.setTop (mkF m 6 #[.val (.ref rn), .val (.long of), .second, .val (.long ln), .second, .val (.int (0 : Int32)), .unset, .unset] [(.int (2 : Int32)), (.int (6 : Int32))]))
  refine Go.step (fun t k => XS.idiv X0.here hx rfl (hb hby d1_6) rfl (by decide) k) ?_
  show Go _ _ _ _ _ _ _ (s₁.setTop (mkF m 7 #[.val (.ref rn), .val (.long of), .second, .val (.long ln), .second, .val (.int (0 : Int32)), .unset, .unset] [(.int (3 : Int32))]))
  refine Go.step (fun t k => XS.istore X0.here hx rfl (hb hby d1_7) rfl (l' := #[.val (.ref rn), .val (.long of), .second, .val (.long ln), .second, .val (.int (0 : Int32)), .val (.int (3 : Int32)), .unset]) rfl k) ?_
  show Go _ _ _ _ _ _ _ (s₁.setTop (mkF m 9 #[.val (.ref rn), .val (.long of), .second, .val (.long ln), .second, .val (.int (0 : Int32)), .val (.int (3 : Int32)), .unset] []))
  refine Go.step (fun t k => XS.iload X0.here hx rfl (hb hby d1_9) rfl k) ?_
  show Go _ _ _ _ _ _ _ (s₁.setTop (mkF m 11 #[.val (.ref rn), .val (.long of), .second, .val (.long ln), .second, .val (.int (0 : Int32)), .val (.int (3 : Int32)), .unset] [(.int (0 : Int32))]))
  refine Go.step (fun t k => XS.iload X0.here hx rfl (hb hby d1_11) rfl k) ?_
  show Go _ _ _ _ _ _ _ (s₁.setTop (mkF m 13 #[.val (.ref rn), .val (.long of), .second, .val (.long ln), .second, .val (.int (0 : Int32)), .val (.int (3 : Int32)), .unset] [(.int (3 : Int32)), (.int (0 : Int32))]))
  refine Go.step (fun t k => XS.icmpNo X0.here hx rfl (hb hby d1_13) rfl (tlt (by decide : (0 : Int32) < (3 : Int32))).2.1 k) ?_
  show Go _ _ _ _ _ _ _ (s₁.setTop (mkF m 16 #[.val (.ref rn), .val (.long of), .second, .val (.long ln), .second, .val (.int (0 : Int32)), .val (.int (3 : Int32)), .unset] []))
  refine Go.step (fun t k => XS.iload X0.here hx rfl (hb hby d1_16) rfl k) ?_
  show Go _ _ _ _ _ _ _ (s₁.setTop (mkF m 18 #[.val (.ref rn), .val (.long of), .second, .val (.long ln), .second, .val (.int (0 : Int32)), .val (.int (3 : Int32)), .unset] [(.int (0 : Int32))]))
  refine Go.step (fun t k => XS.iload X0.here hx rfl (hb hby d1_18) rfl k) ?_
  show Go _ _ _ _ _ _ _ (s₁.setTop (mkF m 20 #[.val (.ref rn), .val (.long of), .second, .val (.long ln), .second, .val (.int (0 : Int32)), .val (.int (3 : Int32)), .unset] [(.int (3 : Int32)), (.int (0 : Int32))]))
  refine Go.step (fun t k => XS.iadd X0.here hx rfl (hb hby d1_20) rfl k) ?_
  show Go _ _ _ _ _ _ _ (s₁.setTop (mkF m 21 #[.val (.ref rn), .val (.long of), .second, .val (.long ln), .second, .val (.int (0 : Int32)), .val (.int (3 : Int32)), .unset] [(.int (3 : Int32))]))
  refine Go.step (fun t k => XS.iconst X0.here hx rfl (hb hby d1_21) k) ?_
  show Go _ _ _ _ _ _ _ (s₁.setTop (mkF m 22 #[.val (.ref rn), .val (.long of), .second, .val (.long ln), .second, .val (.int (0 : Int32)), .val (.int (3 : Int32)), .unset] [(.int (1 : Int32)), (.int (3 : Int32))]))
  refine Go.step (fun t k => XS.iushr X0.here hx rfl (hb hby d1_22) rfl k) ?_
  show Go _ _ _ _ _ _ _ (s₁.setTop (mkF m 23 #[.val (.ref rn), .val (.long of), .second, .val (.long ln), .second, .val (.int (0 : Int32)), .val (.int (3 : Int32)), .unset] [(.int (1 : Int32))]))
  refine Go.step (fun t k => XS.istore X0.here hx rfl (hb hby d1_23) rfl (l' := #[.val (.ref rn), .val (.long of), .second, .val (.long ln), .second, .val (.int (0 : Int32)), .val (.int (3 : Int32)), .val (.int (1 : Int32))]) rfl k) ?_
  show Go _ _ _ _ _ _ _ (s₁.setTop (mkF m 25 #[.val (.ref rn), .val (.long of), .second, .val (.long ln), .second, .val (.int (0 : Int32)), .val (.int (3 : Int32)), .val (.int (1 : Int32))] []))
  refine Go.step (fun t k => XS.aloadN X0.here hx rfl (hb hby d1_25) rfl rfl k) ?_
  show Go _ _ _ _ _ _ _ (s₁.setTop (mkF m 26 #[.val (.ref rn), .val (.long of), .second, .val (.long ln), .second, .val (.int (0 : Int32)), .val (.int (3 : Int32)), .val (.int (1 : Int32))] [(.ref rn)]))
  refine Go.step (fun t k => XS.iconst X0.here hx rfl (hb hby d1_26) k) ?_
  show Go _ _ _ _ _ _ _ (s₁.setTop (mkF m 27 #[.val (.ref rn), .val (.long of), .second, .val (.long ln), .second, .val (.int (0 : Int32)), .val (.int (3 : Int32)), .val (.int (1 : Int32))] [(.int (2 : Int32)), (.ref rn)]))
  refine Go.step (fun t k => XS.iload X0.here hx rfl (hb hby d1_27) rfl k) ?_
  show Go _ _ _ _ _ _ _ (s₁.setTop (mkF m 29 #[.val (.ref rn), .val (.long of), .second, .val (.long ln), .second, .val (.int (0 : Int32)), .val (.int (3 : Int32)), .val (.int (1 : Int32))] [(.int (1 : Int32)), (.int (2 : Int32)), (.ref rn)]))
  refine Go.step (fun t k => XS.imul X0.here hx rfl (hb hby d1_29) rfl k) ?_
  show Go _ _ _ _ _ _ _ (s₁.setTop (mkF m 30 #[.val (.ref rn), .val (.long of), .second, .val (.long ln), .second, .val (.int (0 : Int32)), .val (.int (3 : Int32)), .val (.int (1 : Int32))] [(.int (2 : Int32)), (.ref rn)]))
  refine Go.step (own_ld X0 hx hZ e0 A_rn (j := (2 : Int32)) 2 rfl (by decide) (v := (.long o1)) rfl (Or.inr (Or.inl ⟨rfl, rfl⟩)) (f := (mkF m 30 #[.val (.ref rn), .val (.long of), .second, .val (.long ln), .second, .val (.int (0 : Int32)), .val (.int (3 : Int32)), .val (.int (1 : Int32))] [(.int (2 : Int32)), (.ref rn)])) rfl rfl (hb hby d1_30)) ?_
  show Go _ _ _ _ _ _ _ (s₁.setTop (mkF m 31 #[.val (.ref rn), .val (.long of), .second, .val (.long ln), .second, .val (.int (0 : Int32)), .val (.int (3 : Int32)), .val (.int (1 : Int32))] [(.long o1)]))
  refine Go.step (fun t k => XS.lloadN X0.here hx rfl (hb hby d1_31) rfl k) ?_
  show Go _ _ _ _ _ _ _ (s₁.setTop (mkF m 32 #[.val (.ref rn), .val (.long of), .second, .val (.long ln), .second, .val (.int (0 : Int32)), .val (.int (3 : Int32)), .val (.int (1 : Int32))] [(.long of), (.long o1)]))
  refine Go.step (fun t k => XS.lloadN X0.here hx rfl (hb hby d1_32) rfl k) ?_
  show Go _ _ _ _ _ _ _ (s₁.setTop (mkF m 33 #[.val (.ref rn), .val (.long of), .second, .val (.long ln), .second, .val (.int (0 : Int32)), .val (.int (3 : Int32)), .val (.int (1 : Int32))] [(.long ln), (.long of), (.long o1)]))
  refine Go.step (fun t k => XS.ladd X0.here hx rfl (hb hby d1_33) rfl k) ?_
  show Go _ _ _ _ _ _ _ (s₁.setTop (mkF m 34 #[.val (.ref rn), .val (.long of), .second, .val (.long ln), .second, .val (.int (0 : Int32)), .val (.int (3 : Int32)), .val (.int (1 : Int32))] [(.long (of + ln)), (.long o1)]))
  refine Go.step (fun t k => XS.lcmp X0.here hx rfl (hb hby d1_34) rfl k) ?_
  show Go _ _ _ _ _ _ _ (s₁.setTop (mkF m 35 #[.val (.ref rn), .val (.long of), .second, .val (.long ln), .second, .val (.int (0 : Int32)), .val (.int (3 : Int32)), .val (.int (1 : Int32))] [(.int (lcmpW o1 (of + ln)))]))
  by_cases hc35_3 : o1 < (of + ln)
  · refine Go.step (fun t k => XS.ifNo X0.here hx rfl (hb hby d1_35) rfl ((if0 _ _).trans (tlt (own_lwlt hc35_3)).2.1) k) ?_
    show Go _ _ _ _ _ _ _ (s₁.setTop (mkF m 38 #[.val (.ref rn), .val (.long of), .second, .val (.long ln), .second, .val (.int (0 : Int32)), .val (.int (3 : Int32)), .val (.int (1 : Int32))] []))
    refine Go.step (fun t k => XS.iload X0.here hx rfl (hb hby d1_38) rfl k) ?_
    show Go _ _ _ _ _ _ _ (s₁.setTop (mkF m 40 #[.val (.ref rn), .val (.long of), .second, .val (.long ln), .second, .val (.int (0 : Int32)), .val (.int (3 : Int32)), .val (.int (1 : Int32))] [(.int (1 : Int32))]))
    refine Go.step (fun t k => XS.iconst X0.here hx rfl (hb hby d1_40) k) ?_
    show Go _ _ _ _ _ _ _ (s₁.setTop (mkF m 41 #[.val (.ref rn), .val (.long of), .second, .val (.long ln), .second, .val (.int (0 : Int32)), .val (.int (3 : Int32)), .val (.int (1 : Int32))] [(.int (1 : Int32)), (.int (1 : Int32))]))
    refine Go.step (fun t k => XS.iadd X0.here hx rfl (hb hby d1_41) rfl k) ?_
    show Go _ _ _ _ _ _ _ (s₁.setTop (mkF m 42 #[.val (.ref rn), .val (.long of), .second, .val (.long ln), .second, .val (.int (0 : Int32)), .val (.int (3 : Int32)), .val (.int (1 : Int32))] [(.int (2 : Int32))]))
    refine Go.step (fun t k => XS.istore X0.here hx rfl (hb hby d1_42) rfl (l' := #[.val (.ref rn), .val (.long of), .second, .val (.long ln), .second, .val (.int (2 : Int32)), .val (.int (3 : Int32)), .val (.int (1 : Int32))]) rfl k) ?_
    show Go _ _ _ _ _ _ _ (s₁.setTop (mkF m 44 #[.val (.ref rn), .val (.long of), .second, .val (.long ln), .second, .val (.int (2 : Int32)), .val (.int (3 : Int32)), .val (.int (1 : Int32))] []))
    refine Go.step (fun t k => XS.goto X0.here hx rfl (pc0 := 44) (pc' := 51) rfl (hb hby d1_44) (by decide) (by decide) k) ?_
    show Go _ _ _ _ _ _ _ (s₁.setTop (mkF m 51 #[.val (.ref rn), .val (.long of), .second, .val (.long ln), .second, .val (.int (2 : Int32)), .val (.int (3 : Int32)), .val (.int (1 : Int32))] []))
    refine Go.step (fun t k => XS.goto X0.here hx rfl (pc0 := 51) (pc' := 9) rfl (hb hby d1_51) (by decide) (by decide) k) ?_
    show Go _ _ _ _ _ _ _ (s₁.setTop (mkF m 9 #[.val (.ref rn), .val (.long of), .second, .val (.long ln), .second, .val (.int (2 : Int32)), .val (.int (3 : Int32)), .val (.int (1 : Int32))] []))
    refine Go.step (fun t k => XS.iload X0.here hx rfl (hb hby d1_9) rfl k) ?_
    show Go _ _ _ _ _ _ _ (s₁.setTop (mkF m 11 #[.val (.ref rn), .val (.long of), .second, .val (.long ln), .second, .val (.int (2 : Int32)), .val (.int (3 : Int32)), .val (.int (1 : Int32))] [(.int (2 : Int32))]))
    refine Go.step (fun t k => XS.iload X0.here hx rfl (hb hby d1_11) rfl k) ?_
    show Go _ _ _ _ _ _ _ (s₁.setTop (mkF m 13 #[.val (.ref rn), .val (.long of), .second, .val (.long ln), .second, .val (.int (2 : Int32)), .val (.int (3 : Int32)), .val (.int (1 : Int32))] [(.int (3 : Int32)), (.int (2 : Int32))]))
    refine Go.step (fun t k => XS.icmpNo X0.here hx rfl (hb hby d1_13) rfl (tlt (by decide : (2 : Int32) < (3 : Int32))).2.1 k) ?_
    show Go _ _ _ _ _ _ _ (s₁.setTop (mkF m 16 #[.val (.ref rn), .val (.long of), .second, .val (.long ln), .second, .val (.int (2 : Int32)), .val (.int (3 : Int32)), .val (.int (1 : Int32))] []))
    refine Go.step (fun t k => XS.iload X0.here hx rfl (hb hby d1_16) rfl k) ?_
    show Go _ _ _ _ _ _ _ (s₁.setTop (mkF m 18 #[.val (.ref rn), .val (.long of), .second, .val (.long ln), .second, .val (.int (2 : Int32)), .val (.int (3 : Int32)), .val (.int (1 : Int32))] [(.int (2 : Int32))]))
    refine Go.step (fun t k => XS.iload X0.here hx rfl (hb hby d1_18) rfl k) ?_
    show Go _ _ _ _ _ _ _ (s₁.setTop (mkF m 20 #[.val (.ref rn), .val (.long of), .second, .val (.long ln), .second, .val (.int (2 : Int32)), .val (.int (3 : Int32)), .val (.int (1 : Int32))] [(.int (3 : Int32)), (.int (2 : Int32))]))
    refine Go.step (fun t k => XS.iadd X0.here hx rfl (hb hby d1_20) rfl k) ?_
    show Go _ _ _ _ _ _ _ (s₁.setTop (mkF m 21 #[.val (.ref rn), .val (.long of), .second, .val (.long ln), .second, .val (.int (2 : Int32)), .val (.int (3 : Int32)), .val (.int (1 : Int32))] [(.int (5 : Int32))]))
    refine Go.step (fun t k => XS.iconst X0.here hx rfl (hb hby d1_21) k) ?_
    show Go _ _ _ _ _ _ _ (s₁.setTop (mkF m 22 #[.val (.ref rn), .val (.long of), .second, .val (.long ln), .second, .val (.int (2 : Int32)), .val (.int (3 : Int32)), .val (.int (1 : Int32))] [(.int (1 : Int32)), (.int (5 : Int32))]))
    refine Go.step (fun t k => XS.iushr X0.here hx rfl (hb hby d1_22) rfl k) ?_
    show Go _ _ _ _ _ _ _ (s₁.setTop (mkF m 23 #[.val (.ref rn), .val (.long of), .second, .val (.long ln), .second, .val (.int (2 : Int32)), .val (.int (3 : Int32)), .val (.int (1 : Int32))] [(.int (2 : Int32))]))
    refine Go.step (fun t k => XS.istore X0.here hx rfl (hb hby d1_23) rfl (l' := #[.val (.ref rn), .val (.long of), .second, .val (.long ln), .second, .val (.int (2 : Int32)), .val (.int (3 : Int32)), .val (.int (2 : Int32))]) rfl k) ?_
    show Go _ _ _ _ _ _ _ (s₁.setTop (mkF m 25 #[.val (.ref rn), .val (.long of), .second, .val (.long ln), .second, .val (.int (2 : Int32)), .val (.int (3 : Int32)), .val (.int (2 : Int32))] []))
    refine Go.step (fun t k => XS.aloadN X0.here hx rfl (hb hby d1_25) rfl rfl k) ?_
    show Go _ _ _ _ _ _ _ (s₁.setTop (mkF m 26 #[.val (.ref rn), .val (.long of), .second, .val (.long ln), .second, .val (.int (2 : Int32)), .val (.int (3 : Int32)), .val (.int (2 : Int32))] [(.ref rn)]))
    refine Go.step (fun t k => XS.iconst X0.here hx rfl (hb hby d1_26) k) ?_
    show Go _ _ _ _ _ _ _ (s₁.setTop (mkF m 27 #[.val (.ref rn), .val (.long of), .second, .val (.long ln), .second, .val (.int (2 : Int32)), .val (.int (3 : Int32)), .val (.int (2 : Int32))] [(.int (2 : Int32)), (.ref rn)]))
    refine Go.step (fun t k => XS.iload X0.here hx rfl (hb hby d1_27) rfl k) ?_
    show Go _ _ _ _ _ _ _ (s₁.setTop (mkF m 29 #[.val (.ref rn), .val (.long of), .second, .val (.long ln), .second, .val (.int (2 : Int32)), .val (.int (3 : Int32)), .val (.int (2 : Int32))] [(.int (2 : Int32)), (.int (2 : Int32)), (.ref rn)]))
    refine Go.step (fun t k => XS.imul X0.here hx rfl (hb hby d1_29) rfl k) ?_
    show Go _ _ _ _ _ _ _ (s₁.setTop (mkF m 30 #[.val (.ref rn), .val (.long of), .second, .val (.long ln), .second, .val (.int (2 : Int32)), .val (.int (3 : Int32)), .val (.int (2 : Int32))] [(.int (4 : Int32)), (.ref rn)]))
    refine Go.step (own_ld X0 hx hZ e0 A_rn (j := (4 : Int32)) 4 rfl (by decide) (v := (.long o2)) rfl (Or.inr (Or.inl ⟨rfl, rfl⟩)) (f := (mkF m 30 #[.val (.ref rn), .val (.long of), .second, .val (.long ln), .second, .val (.int (2 : Int32)), .val (.int (3 : Int32)), .val (.int (2 : Int32))] [(.int (4 : Int32)), (.ref rn)])) rfl rfl (hb hby d1_30)) ?_
    show Go _ _ _ _ _ _ _ (s₁.setTop (mkF m 31 #[.val (.ref rn), .val (.long of), .second, .val (.long ln), .second, .val (.int (2 : Int32)), .val (.int (3 : Int32)), .val (.int (2 : Int32))] [(.long o2)]))
    refine Go.step (fun t k => XS.lloadN X0.here hx rfl (hb hby d1_31) rfl k) ?_
    show Go _ _ _ _ _ _ _ (s₁.setTop (mkF m 32 #[.val (.ref rn), .val (.long of), .second, .val (.long ln), .second, .val (.int (2 : Int32)), .val (.int (3 : Int32)), .val (.int (2 : Int32))] [(.long of), (.long o2)]))
    refine Go.step (fun t k => XS.lloadN X0.here hx rfl (hb hby d1_32) rfl k) ?_
    show Go _ _ _ _ _ _ _ (s₁.setTop (mkF m 33 #[.val (.ref rn), .val (.long of), .second, .val (.long ln), .second, .val (.int (2 : Int32)), .val (.int (3 : Int32)), .val (.int (2 : Int32))] [(.long ln), (.long of), (.long o2)]))
    refine Go.step (fun t k => XS.ladd X0.here hx rfl (hb hby d1_33) rfl k) ?_
    show Go _ _ _ _ _ _ _ (s₁.setTop (mkF m 34 #[.val (.ref rn), .val (.long of), .second, .val (.long ln), .second, .val (.int (2 : Int32)), .val (.int (3 : Int32)), .val (.int (2 : Int32))] [(.long (of + ln)), (.long o2)]))
    refine Go.step (fun t k => XS.lcmp X0.here hx rfl (hb hby d1_34) rfl k) ?_
    show Go _ _ _ _ _ _ _ (s₁.setTop (mkF m 35 #[.val (.ref rn), .val (.long of), .second, .val (.long ln), .second, .val (.int (2 : Int32)), .val (.int (3 : Int32)), .val (.int (2 : Int32))] [(.int (lcmpW o2 (of + ln)))]))
    by_cases hc35_5 : o2 < (of + ln)
    · refine Go.step (fun t k => XS.ifNo X0.here hx rfl (hb hby d1_35) rfl ((if0 _ _).trans (tlt (own_lwlt hc35_5)).2.1) k) ?_
      show Go _ _ _ _ _ _ _ (s₁.setTop (mkF m 38 #[.val (.ref rn), .val (.long of), .second, .val (.long ln), .second, .val (.int (2 : Int32)), .val (.int (3 : Int32)), .val (.int (2 : Int32))] []))
      refine Go.step (fun t k => XS.iload X0.here hx rfl (hb hby d1_38) rfl k) ?_
      show Go _ _ _ _ _ _ _ (s₁.setTop (mkF m 40 #[.val (.ref rn), .val (.long of), .second, .val (.long ln), .second, .val (.int (2 : Int32)), .val (.int (3 : Int32)), .val (.int (2 : Int32))] [(.int (2 : Int32))]))
      refine Go.step (fun t k => XS.iconst X0.here hx rfl (hb hby d1_40) k) ?_
      show Go _ _ _ _ _ _ _ (s₁.setTop (mkF m 41 #[.val (.ref rn), .val (.long of), .second, .val (.long ln), .second, .val (.int (2 : Int32)), .val (.int (3 : Int32)), .val (.int (2 : Int32))] [(.int (1 : Int32)), (.int (2 : Int32))]))
      refine Go.step (fun t k => XS.iadd X0.here hx rfl (hb hby d1_41) rfl k) ?_
      show Go _ _ _ _ _ _ _ (s₁.setTop (mkF m 42 #[.val (.ref rn), .val (.long of), .second, .val (.long ln), .second, .val (.int (2 : Int32)), .val (.int (3 : Int32)), .val (.int (2 : Int32))] [(.int (3 : Int32))]))
      refine Go.step (fun t k => XS.istore X0.here hx rfl (hb hby d1_42) rfl (l' := #[.val (.ref rn), .val (.long of), .second, .val (.long ln), .second, .val (.int (3 : Int32)), .val (.int (3 : Int32)), .val (.int (2 : Int32))]) rfl k) ?_
      show Go _ _ _ _ _ _ _ (s₁.setTop (mkF m 44 #[.val (.ref rn), .val (.long of), .second, .val (.long ln), .second, .val (.int (3 : Int32)), .val (.int (3 : Int32)), .val (.int (2 : Int32))] []))
      refine Go.step (fun t k => XS.goto X0.here hx rfl (pc0 := 44) (pc' := 51) rfl (hb hby d1_44) (by decide) (by decide) k) ?_
      show Go _ _ _ _ _ _ _ (s₁.setTop (mkF m 51 #[.val (.ref rn), .val (.long of), .second, .val (.long ln), .second, .val (.int (3 : Int32)), .val (.int (3 : Int32)), .val (.int (2 : Int32))] []))
      refine Go.step (fun t k => XS.goto X0.here hx rfl (pc0 := 51) (pc' := 9) rfl (hb hby d1_51) (by decide) (by decide) k) ?_
      show Go _ _ _ _ _ _ _ (s₁.setTop (mkF m 9 #[.val (.ref rn), .val (.long of), .second, .val (.long ln), .second, .val (.int (3 : Int32)), .val (.int (3 : Int32)), .val (.int (2 : Int32))] []))
      refine Go.step (fun t k => XS.iload X0.here hx rfl (hb hby d1_9) rfl k) ?_
      show Go _ _ _ _ _ _ _ (s₁.setTop (mkF m 11 #[.val (.ref rn), .val (.long of), .second, .val (.long ln), .second, .val (.int (3 : Int32)), .val (.int (3 : Int32)), .val (.int (2 : Int32))] [(.int (3 : Int32))]))
      refine Go.step (fun t k => XS.iload X0.here hx rfl (hb hby d1_11) rfl k) ?_
      show Go _ _ _ _ _ _ _ (s₁.setTop (mkF m 13 #[.val (.ref rn), .val (.long of), .second, .val (.long ln), .second, .val (.int (3 : Int32)), .val (.int (3 : Int32)), .val (.int (2 : Int32))] [(.int (3 : Int32)), (.int (3 : Int32))]))
      refine Go.step (fun t k => XS.icmpYes X0.here hx rfl (pc0 := 13) (pc' := 54) rfl (hb hby d1_13) rfl (flt (by decide : ¬ (3 : Int32) < (3 : Int32))).2.1 (by decide) (by decide) k) ?_
      show Go _ _ _ _ _ _ _ (s₁.setTop (mkF m 54 #[.val (.ref rn), .val (.long of), .second, .val (.long ln), .second, .val (.int (3 : Int32)), .val (.int (3 : Int32)), .val (.int (2 : Int32))] []))
      refine Go.step (fun t k => XS.iload X0.here hx rfl (hb hby d1_54) rfl k) ?_
      show Go _ _ _ _ _ _ _ (s₁.setTop (mkF m 56 #[.val (.ref rn), .val (.long of), .second, .val (.long ln), .second, .val (.int (3 : Int32)), .val (.int (3 : Int32)), .val (.int (2 : Int32))] [(.int (3 : Int32))]))
      refine Go.step (fun t k => XS.iconst X0.here hx rfl (hb hby d1_56) k) ?_
      show Go _ _ _ _ _ _ _ (s₁.setTop (mkF m 57 #[.val (.ref rn), .val (.long of), .second, .val (.long ln), .second, .val (.int (3 : Int32)), .val (.int (3 : Int32)), .val (.int (2 : Int32))] [(.int (1 : Int32)), (.int (3 : Int32))]))
      refine Go.step (fun t k => XS.isub X0.here hx rfl (hb hby d1_57) rfl k) ?_
      show Go _ _ _ _ _ _ _ (s₁.setTop (mkF m 58 #[.val (.ref rn), .val (.long of), .second, .val (.long ln), .second, .val (.int (3 : Int32)), .val (.int (3 : Int32)), .val (.int (2 : Int32))] [(.int (2 : Int32))]))
      refine Go.step (fun t k => XS.istore X0.here hx rfl (hb hby d1_58) rfl (l' := #[.val (.ref rn), .val (.long of), .second, .val (.long ln), .second, .val (.int (3 : Int32)), .val (.int (3 : Int32)), .val (.int (2 : Int32))]) rfl k) ?_
      show Go _ _ _ _ _ _ _ (s₁.setTop (mkF m 60 #[.val (.ref rn), .val (.long of), .second, .val (.long ln), .second, .val (.int (3 : Int32)), .val (.int (3 : Int32)), .val (.int (2 : Int32))] []))
      refine Go.step (fun t k => XS.lloadN X0.here hx rfl (hb hby d1_60) rfl k) ?_
      show Go _ _ _ _ _ _ _ (s₁.setTop (mkF m 61 #[.val (.ref rn), .val (.long of), .second, .val (.long ln), .second, .val (.int (3 : Int32)), .val (.int (3 : Int32)), .val (.int (2 : Int32))] [(.long ln)]))
      refine Go.step (fun t k => XS.lconst X0.here hx rfl (hb hby d1_61) k) ?_
      show Go _ _ _ _ _ _ _ (s₁.setTop (mkF m 62 #[.val (.ref rn), .val (.long of), .second, .val (.long ln), .second, .val (.int (3 : Int32)), .val (.int (3 : Int32)), .val (.int (2 : Int32))] [(.long (0 : Int64)), (.long ln)]))
      refine Go.step (fun t k => XS.lcmp X0.here hx rfl (hb hby d1_62) rfl k) ?_
      show Go _ _ _ _ _ _ _ (s₁.setTop (mkF m 63 #[.val (.ref rn), .val (.long of), .second, .val (.long ln), .second, .val (.int (3 : Int32)), .val (.int (3 : Int32)), .val (.int (2 : Int32))] [(.int (lcmpW ln (0 : Int64)))]))
      by_cases hc63_6 : (0 : Int64) < ln
      · refine Go.step (fun t k => XS.ifNo X0.here hx rfl (hb hby d1_63) rfl ((if0 _ _).trans (tlt (own_lwgt hc63_6)).2.2.2) k) ?_
        show Go _ _ _ _ _ _ _ (s₁.setTop (mkF m 66 #[.val (.ref rn), .val (.long of), .second, .val (.long ln), .second, .val (.int (3 : Int32)), .val (.int (3 : Int32)), .val (.int (2 : Int32))] []))
        refine Go.step (fun t k => XS.iload X0.here hx rfl (hb hby d1_66) rfl k) ?_
        show Go _ _ _ _ _ _ _ (s₁.setTop (mkF m 68 #[.val (.ref rn), .val (.long of), .second, .val (.long ln), .second, .val (.int (3 : Int32)), .val (.int (3 : Int32)), .val (.int (2 : Int32))] [(.int (2 : Int32))]))
        refine Go.step (fun t k => XS.ifNo X0.here hx rfl (hb hby d1_68) rfl ((if0 _ _).trans (flt (by decide : ¬ (2 : Int32) < (0 : Int32))).1) k) ?_
        show Go _ _ _ _ _ _ _ (s₁.setTop (mkF m 71 #[.val (.ref rn), .val (.long of), .second, .val (.long ln), .second, .val (.int (3 : Int32)), .val (.int (3 : Int32)), .val (.int (2 : Int32))] []))
        refine Go.step (fun t k => XS.aloadN X0.here hx rfl (hb hby d1_71) rfl rfl k) ?_
        show Go _ _ _ _ _ _ _ (s₁.setTop (mkF m 72 #[.val (.ref rn), .val (.long of), .second, .val (.long ln), .second, .val (.int (3 : Int32)), .val (.int (3 : Int32)), .val (.int (2 : Int32))] [(.ref rn)]))
        refine Go.step (fun t k => XS.iconst X0.here hx rfl (hb hby d1_72) k) ?_
        show Go _ _ _ _ _ _ _ (s₁.setTop (mkF m 73 #[.val (.ref rn), .val (.long of), .second, .val (.long ln), .second, .val (.int (3 : Int32)), .val (.int (3 : Int32)), .val (.int (2 : Int32))] [(.int (2 : Int32)), (.ref rn)]))
        refine Go.step (fun t k => XS.iload X0.here hx rfl (hb hby d1_73) rfl k) ?_
        show Go _ _ _ _ _ _ _ (s₁.setTop (mkF m 75 #[.val (.ref rn), .val (.long of), .second, .val (.long ln), .second, .val (.int (3 : Int32)), .val (.int (3 : Int32)), .val (.int (2 : Int32))] [(.int (2 : Int32)), (.int (2 : Int32)), (.ref rn)]))
        refine Go.step (fun t k => XS.imul X0.here hx rfl (hb hby d1_75) rfl k) ?_
        show Go _ _ _ _ _ _ _ (s₁.setTop (mkF m 76 #[.val (.ref rn), .val (.long of), .second, .val (.long ln), .second, .val (.int (3 : Int32)), .val (.int (3 : Int32)), .val (.int (2 : Int32))] [(.int (4 : Int32)), (.ref rn)]))
        refine Go.step (own_ld X0 hx hZ e0 A_rn (j := (4 : Int32)) 4 rfl (by decide) (v := (.long o2)) rfl (Or.inr (Or.inl ⟨rfl, rfl⟩)) (f := (mkF m 76 #[.val (.ref rn), .val (.long of), .second, .val (.long ln), .second, .val (.int (3 : Int32)), .val (.int (3 : Int32)), .val (.int (2 : Int32))] [(.int (4 : Int32)), (.ref rn)])) rfl rfl (hb hby d1_76)) ?_
        show Go _ _ _ _ _ _ _ (s₁.setTop (mkF m 77 #[.val (.ref rn), .val (.long of), .second, .val (.long ln), .second, .val (.int (3 : Int32)), .val (.int (3 : Int32)), .val (.int (2 : Int32))] [(.long o2)]))
        refine Go.step (fun t k => XS.aloadN X0.here hx rfl (hb hby d1_77) rfl rfl k) ?_
        show Go _ _ _ _ _ _ _ (s₁.setTop (mkF m 78 #[.val (.ref rn), .val (.long of), .second, .val (.long ln), .second, .val (.int (3 : Int32)), .val (.int (3 : Int32)), .val (.int (2 : Int32))] [(.ref rn), (.long o2)]))
        refine Go.step (fun t k => XS.iconst X0.here hx rfl (hb hby d1_78) k) ?_
        show Go _ _ _ _ _ _ _ (s₁.setTop (mkF m 79 #[.val (.ref rn), .val (.long of), .second, .val (.long ln), .second, .val (.int (3 : Int32)), .val (.int (3 : Int32)), .val (.int (2 : Int32))] [(.int (2 : Int32)), (.ref rn), (.long o2)]))
        refine Go.step (fun t k => XS.iload X0.here hx rfl (hb hby d1_79) rfl k) ?_
        show Go _ _ _ _ _ _ _ (s₁.setTop (mkF m 81 #[.val (.ref rn), .val (.long of), .second, .val (.long ln), .second, .val (.int (3 : Int32)), .val (.int (3 : Int32)), .val (.int (2 : Int32))] [(.int (2 : Int32)), (.int (2 : Int32)), (.ref rn), (.long o2)]))
        refine Go.step (fun t k => XS.imul X0.here hx rfl (hb hby d1_81) rfl k) ?_
        show Go _ _ _ _ _ _ _ (s₁.setTop (mkF m 82 #[.val (.ref rn), .val (.long of), .second, .val (.long ln), .second, .val (.int (3 : Int32)), .val (.int (3 : Int32)), .val (.int (2 : Int32))] [(.int (4 : Int32)), (.ref rn), (.long o2)]))
        refine Go.step (fun t k => XS.iconst X0.here hx rfl (hb hby d1_82) k) ?_
        show Go _ _ _ _ _ _ _ (s₁.setTop (mkF m 83 #[.val (.ref rn), .val (.long of), .second, .val (.long ln), .second, .val (.int (3 : Int32)), .val (.int (3 : Int32)), .val (.int (2 : Int32))] [(.int (1 : Int32)), (.int (4 : Int32)), (.ref rn), (.long o2)]))
        refine Go.step (fun t k => XS.iadd X0.here hx rfl (hb hby d1_83) rfl k) ?_
        show Go _ _ _ _ _ _ _ (s₁.setTop (mkF m 84 #[.val (.ref rn), .val (.long of), .second, .val (.long ln), .second, .val (.int (3 : Int32)), .val (.int (3 : Int32)), .val (.int (2 : Int32))] [(.int (5 : Int32)), (.ref rn), (.long o2)]))
        refine Go.step (own_ld X0 hx hZ e0 A_rn (j := (5 : Int32)) 5 rfl (by decide) (v := (.long l2)) rfl (Or.inr (Or.inl ⟨rfl, rfl⟩)) (f := (mkF m 84 #[.val (.ref rn), .val (.long of), .second, .val (.long ln), .second, .val (.int (3 : Int32)), .val (.int (3 : Int32)), .val (.int (2 : Int32))] [(.int (5 : Int32)), (.ref rn), (.long o2)])) rfl rfl (hb hby d1_84)) ?_
        show Go _ _ _ _ _ _ _ (s₁.setTop (mkF m 85 #[.val (.ref rn), .val (.long of), .second, .val (.long ln), .second, .val (.int (3 : Int32)), .val (.int (3 : Int32)), .val (.int (2 : Int32))] [(.long l2), (.long o2)]))
        refine Go.step (fun t k => XS.ladd X0.here hx rfl (hb hby d1_85) rfl k) ?_
        show Go _ _ _ _ _ _ _ (s₁.setTop (mkF m 86 #[.val (.ref rn), .val (.long of), .second, .val (.long ln), .second, .val (.int (3 : Int32)), .val (.int (3 : Int32)), .val (.int (2 : Int32))] [(.long (o2 + l2))]))
        refine Go.step (fun t k => XS.lloadN X0.here hx rfl (hb hby d1_86) rfl k) ?_
        show Go _ _ _ _ _ _ _ (s₁.setTop (mkF m 87 #[.val (.ref rn), .val (.long of), .second, .val (.long ln), .second, .val (.int (3 : Int32)), .val (.int (3 : Int32)), .val (.int (2 : Int32))] [(.long of), (.long (o2 + l2))]))
        refine Go.step (fun t k => XS.lcmp X0.here hx rfl (hb hby d1_87) rfl k) ?_
        show Go _ _ _ _ _ _ _ (s₁.setTop (mkF m 88 #[.val (.ref rn), .val (.long of), .second, .val (.long ln), .second, .val (.int (3 : Int32)), .val (.int (3 : Int32)), .val (.int (2 : Int32))] [(.int (lcmpW (o2 + l2) of))]))
        by_cases hc88_9 : of < (o2 + l2)
        · refine Go.step (fun t k => XS.ifNo X0.here hx rfl (hb hby d1_88) rfl ((if0 _ _).trans (tlt (own_lwgt hc88_9)).2.2.2) k) ?_
          show Go _ _ _ _ _ _ _ (s₁.setTop (mkF m 91 #[.val (.ref rn), .val (.long of), .second, .val (.long ln), .second, .val (.int (3 : Int32)), .val (.int (3 : Int32)), .val (.int (2 : Int32))] []))
          refine Go.step (fun t k => XS.iconst X0.here hx rfl (hb hby d1_91) k) ?_
          show Go _ _ _ _ _ _ _ (s₁.setTop (mkF m 92 #[.val (.ref rn), .val (.long of), .second, .val (.long ln), .second, .val (.int (3 : Int32)), .val (.int (3 : Int32)), .val (.int (2 : Int32))] [(.int (1 : Int32))]))
          refine Go.step (fun t k => XS.goto X0.here hx rfl (pc0 := 92) (pc' := 96) rfl (hb hby d1_92) (by decide) (by decide) k) ?_
          show Go _ _ _ _ _ _ _ (s₁.setTop (mkF m 96 #[.val (.ref rn), .val (.long of), .second, .val (.long ln), .second, .val (.int (3 : Int32)), .val (.int (3 : Int32)), .val (.int (2 : Int32))] [(.int (1 : Int32))]))
          refine Go.retN X0 Bd.notSynchronized hx (t := .boolean) Bd.returns (by simp) (hb hby d1_96) (by decide) (by decide) (1 : Int32) rfl ?_
          rw [e0]
          have ihc35_3 := own_ltL hc35_3
          have ihc35_5 := own_ltL hc35_5
          have ihc63_6 := own_ltL hc63_6
          have ihc88_9 := own_ltL hc88_9
          have e0L : (0 : Int64).toInt = 0 := rfl
          have ho := hord
          simp only [own_or1, own_or2, own_or3] at ho
          exact ⟨(1 : Int32), rfl, N0, rfl, (Or.inl ⟨rfl, (by simp only [own_hit, Int64.lt_iff_toInt_lt, e0L]; omega)⟩)⟩
        · refine Go.step (fun t k => XS.ifYes X0.here hx rfl (pc0 := 88) (pc' := 95) rfl (hb hby d1_88) rfl ((if0 _ _).trans (flt (own_nlwgt hc88_9)).2.2.2) (by decide) (by decide) k) ?_
          show Go _ _ _ _ _ _ _ (s₁.setTop (mkF m 95 #[.val (.ref rn), .val (.long of), .second, .val (.long ln), .second, .val (.int (3 : Int32)), .val (.int (3 : Int32)), .val (.int (2 : Int32))] []))
          refine Go.step (fun t k => XS.iconst X0.here hx rfl (hb hby d1_95) k) ?_
          show Go _ _ _ _ _ _ _ (s₁.setTop (mkF m 96 #[.val (.ref rn), .val (.long of), .second, .val (.long ln), .second, .val (.int (3 : Int32)), .val (.int (3 : Int32)), .val (.int (2 : Int32))] [(.int (0 : Int32))]))
          refine Go.retN X0 Bd.notSynchronized hx (t := .boolean) Bd.returns (by simp) (hb hby d1_96) (by decide) (by decide) (0 : Int32) rfl ?_
          rw [e0]
          have ihc35_3 := own_ltL hc35_3
          have ihc35_5 := own_ltL hc35_5
          have ihc63_6 := own_ltL hc63_6
          have ihc88_9 := own_nltL hc88_9
          have e0L : (0 : Int64).toInt = 0 := rfl
          have ho := hord
          simp only [own_or1, own_or2, own_or3] at ho
          exact ⟨(0 : Int32), rfl, N0, rfl, (Or.inr ⟨rfl, (by simp only [own_hit, Int64.lt_iff_toInt_lt, e0L]; omega)⟩)⟩
      · refine Go.step (fun t k => XS.ifYes X0.here hx rfl (pc0 := 63) (pc' := 95) rfl (hb hby d1_63) rfl ((if0 _ _).trans (flt (own_nlwgt hc63_6)).2.2.2) (by decide) (by decide) k) ?_
        show Go _ _ _ _ _ _ _ (s₁.setTop (mkF m 95 #[.val (.ref rn), .val (.long of), .second, .val (.long ln), .second, .val (.int (3 : Int32)), .val (.int (3 : Int32)), .val (.int (2 : Int32))] []))
        refine Go.step (fun t k => XS.iconst X0.here hx rfl (hb hby d1_95) k) ?_
        show Go _ _ _ _ _ _ _ (s₁.setTop (mkF m 96 #[.val (.ref rn), .val (.long of), .second, .val (.long ln), .second, .val (.int (3 : Int32)), .val (.int (3 : Int32)), .val (.int (2 : Int32))] [(.int (0 : Int32))]))
        refine Go.retN X0 Bd.notSynchronized hx (t := .boolean) Bd.returns (by simp) (hb hby d1_96) (by decide) (by decide) (0 : Int32) rfl ?_
        rw [e0]
        have ihc35_3 := own_ltL hc35_3
        have ihc35_5 := own_ltL hc35_5
        have ihc63_6 := own_nltL hc63_6
        have e0L : (0 : Int64).toInt = 0 := rfl
        have ho := hord
        simp only [own_or1, own_or2, own_or3] at ho
        exact ⟨(0 : Int32), rfl, N0, rfl, (Or.inr ⟨rfl, (by simp only [own_hit, Int64.lt_iff_toInt_lt, e0L]; omega)⟩)⟩
    · refine Go.step (fun t k => XS.ifYes X0.here hx rfl (pc0 := 35) (pc' := 47) rfl (hb hby d1_35) rfl ((if0 _ _).trans (flt (own_nlwlt hc35_5)).2.1) (by decide) (by decide) k) ?_
      show Go _ _ _ _ _ _ _ (s₁.setTop (mkF m 47 #[.val (.ref rn), .val (.long of), .second, .val (.long ln), .second, .val (.int (2 : Int32)), .val (.int (3 : Int32)), .val (.int (2 : Int32))] []))
      refine Go.step (fun t k => XS.iload X0.here hx rfl (hb hby d1_47) rfl k) ?_
      show Go _ _ _ _ _ _ _ (s₁.setTop (mkF m 49 #[.val (.ref rn), .val (.long of), .second, .val (.long ln), .second, .val (.int (2 : Int32)), .val (.int (3 : Int32)), .val (.int (2 : Int32))] [(.int (2 : Int32))]))
      refine Go.step (fun t k => XS.istore X0.here hx rfl (hb hby d1_49) rfl (l' := #[.val (.ref rn), .val (.long of), .second, .val (.long ln), .second, .val (.int (2 : Int32)), .val (.int (2 : Int32)), .val (.int (2 : Int32))]) rfl k) ?_
      show Go _ _ _ _ _ _ _ (s₁.setTop (mkF m 51 #[.val (.ref rn), .val (.long of), .second, .val (.long ln), .second, .val (.int (2 : Int32)), .val (.int (2 : Int32)), .val (.int (2 : Int32))] []))
      refine Go.step (fun t k => XS.goto X0.here hx rfl (pc0 := 51) (pc' := 9) rfl (hb hby d1_51) (by decide) (by decide) k) ?_
      show Go _ _ _ _ _ _ _ (s₁.setTop (mkF m 9 #[.val (.ref rn), .val (.long of), .second, .val (.long ln), .second, .val (.int (2 : Int32)), .val (.int (2 : Int32)), .val (.int (2 : Int32))] []))
      refine Go.step (fun t k => XS.iload X0.here hx rfl (hb hby d1_9) rfl k) ?_
      show Go _ _ _ _ _ _ _ (s₁.setTop (mkF m 11 #[.val (.ref rn), .val (.long of), .second, .val (.long ln), .second, .val (.int (2 : Int32)), .val (.int (2 : Int32)), .val (.int (2 : Int32))] [(.int (2 : Int32))]))
      refine Go.step (fun t k => XS.iload X0.here hx rfl (hb hby d1_11) rfl k) ?_
      show Go _ _ _ _ _ _ _ (s₁.setTop (mkF m 13 #[.val (.ref rn), .val (.long of), .second, .val (.long ln), .second, .val (.int (2 : Int32)), .val (.int (2 : Int32)), .val (.int (2 : Int32))] [(.int (2 : Int32)), (.int (2 : Int32))]))
      refine Go.step (fun t k => XS.icmpYes X0.here hx rfl (pc0 := 13) (pc' := 54) rfl (hb hby d1_13) rfl (flt (by decide : ¬ (2 : Int32) < (2 : Int32))).2.1 (by decide) (by decide) k) ?_
      show Go _ _ _ _ _ _ _ (s₁.setTop (mkF m 54 #[.val (.ref rn), .val (.long of), .second, .val (.long ln), .second, .val (.int (2 : Int32)), .val (.int (2 : Int32)), .val (.int (2 : Int32))] []))
      refine Go.step (fun t k => XS.iload X0.here hx rfl (hb hby d1_54) rfl k) ?_
      show Go _ _ _ _ _ _ _ (s₁.setTop (mkF m 56 #[.val (.ref rn), .val (.long of), .second, .val (.long ln), .second, .val (.int (2 : Int32)), .val (.int (2 : Int32)), .val (.int (2 : Int32))] [(.int (2 : Int32))]))
      refine Go.step (fun t k => XS.iconst X0.here hx rfl (hb hby d1_56) k) ?_
      show Go _ _ _ _ _ _ _ (s₁.setTop (mkF m 57 #[.val (.ref rn), .val (.long of), .second, .val (.long ln), .second, .val (.int (2 : Int32)), .val (.int (2 : Int32)), .val (.int (2 : Int32))] [(.int (1 : Int32)), (.int (2 : Int32))]))
      refine Go.step (fun t k => XS.isub X0.here hx rfl (hb hby d1_57) rfl k) ?_
      show Go _ _ _ _ _ _ _ (s₁.setTop (mkF m 58 #[.val (.ref rn), .val (.long of), .second, .val (.long ln), .second, .val (.int (2 : Int32)), .val (.int (2 : Int32)), .val (.int (2 : Int32))] [(.int (1 : Int32))]))
      refine Go.step (fun t k => XS.istore X0.here hx rfl (hb hby d1_58) rfl (l' := #[.val (.ref rn), .val (.long of), .second, .val (.long ln), .second, .val (.int (2 : Int32)), .val (.int (2 : Int32)), .val (.int (1 : Int32))]) rfl k) ?_
      show Go _ _ _ _ _ _ _ (s₁.setTop (mkF m 60 #[.val (.ref rn), .val (.long of), .second, .val (.long ln), .second, .val (.int (2 : Int32)), .val (.int (2 : Int32)), .val (.int (1 : Int32))] []))
      refine Go.step (fun t k => XS.lloadN X0.here hx rfl (hb hby d1_60) rfl k) ?_
      show Go _ _ _ _ _ _ _ (s₁.setTop (mkF m 61 #[.val (.ref rn), .val (.long of), .second, .val (.long ln), .second, .val (.int (2 : Int32)), .val (.int (2 : Int32)), .val (.int (1 : Int32))] [(.long ln)]))
      refine Go.step (fun t k => XS.lconst X0.here hx rfl (hb hby d1_61) k) ?_
      show Go _ _ _ _ _ _ _ (s₁.setTop (mkF m 62 #[.val (.ref rn), .val (.long of), .second, .val (.long ln), .second, .val (.int (2 : Int32)), .val (.int (2 : Int32)), .val (.int (1 : Int32))] [(.long (0 : Int64)), (.long ln)]))
      refine Go.step (fun t k => XS.lcmp X0.here hx rfl (hb hby d1_62) rfl k) ?_
      show Go _ _ _ _ _ _ _ (s₁.setTop (mkF m 63 #[.val (.ref rn), .val (.long of), .second, .val (.long ln), .second, .val (.int (2 : Int32)), .val (.int (2 : Int32)), .val (.int (1 : Int32))] [(.int (lcmpW ln (0 : Int64)))]))
      by_cases hc63_10 : (0 : Int64) < ln
      · refine Go.step (fun t k => XS.ifNo X0.here hx rfl (hb hby d1_63) rfl ((if0 _ _).trans (tlt (own_lwgt hc63_10)).2.2.2) k) ?_
        show Go _ _ _ _ _ _ _ (s₁.setTop (mkF m 66 #[.val (.ref rn), .val (.long of), .second, .val (.long ln), .second, .val (.int (2 : Int32)), .val (.int (2 : Int32)), .val (.int (1 : Int32))] []))
        refine Go.step (fun t k => XS.iload X0.here hx rfl (hb hby d1_66) rfl k) ?_
        show Go _ _ _ _ _ _ _ (s₁.setTop (mkF m 68 #[.val (.ref rn), .val (.long of), .second, .val (.long ln), .second, .val (.int (2 : Int32)), .val (.int (2 : Int32)), .val (.int (1 : Int32))] [(.int (1 : Int32))]))
        refine Go.step (fun t k => XS.ifNo X0.here hx rfl (hb hby d1_68) rfl ((if0 _ _).trans (flt (by decide : ¬ (1 : Int32) < (0 : Int32))).1) k) ?_
        show Go _ _ _ _ _ _ _ (s₁.setTop (mkF m 71 #[.val (.ref rn), .val (.long of), .second, .val (.long ln), .second, .val (.int (2 : Int32)), .val (.int (2 : Int32)), .val (.int (1 : Int32))] []))
        refine Go.step (fun t k => XS.aloadN X0.here hx rfl (hb hby d1_71) rfl rfl k) ?_
        show Go _ _ _ _ _ _ _ (s₁.setTop (mkF m 72 #[.val (.ref rn), .val (.long of), .second, .val (.long ln), .second, .val (.int (2 : Int32)), .val (.int (2 : Int32)), .val (.int (1 : Int32))] [(.ref rn)]))
        refine Go.step (fun t k => XS.iconst X0.here hx rfl (hb hby d1_72) k) ?_
        show Go _ _ _ _ _ _ _ (s₁.setTop (mkF m 73 #[.val (.ref rn), .val (.long of), .second, .val (.long ln), .second, .val (.int (2 : Int32)), .val (.int (2 : Int32)), .val (.int (1 : Int32))] [(.int (2 : Int32)), (.ref rn)]))
        refine Go.step (fun t k => XS.iload X0.here hx rfl (hb hby d1_73) rfl k) ?_
        show Go _ _ _ _ _ _ _ (s₁.setTop (mkF m 75 #[.val (.ref rn), .val (.long of), .second, .val (.long ln), .second, .val (.int (2 : Int32)), .val (.int (2 : Int32)), .val (.int (1 : Int32))] [(.int (1 : Int32)), (.int (2 : Int32)), (.ref rn)]))
        refine Go.step (fun t k => XS.imul X0.here hx rfl (hb hby d1_75) rfl k) ?_
        show Go _ _ _ _ _ _ _ (s₁.setTop (mkF m 76 #[.val (.ref rn), .val (.long of), .second, .val (.long ln), .second, .val (.int (2 : Int32)), .val (.int (2 : Int32)), .val (.int (1 : Int32))] [(.int (2 : Int32)), (.ref rn)]))
        refine Go.step (own_ld X0 hx hZ e0 A_rn (j := (2 : Int32)) 2 rfl (by decide) (v := (.long o1)) rfl (Or.inr (Or.inl ⟨rfl, rfl⟩)) (f := (mkF m 76 #[.val (.ref rn), .val (.long of), .second, .val (.long ln), .second, .val (.int (2 : Int32)), .val (.int (2 : Int32)), .val (.int (1 : Int32))] [(.int (2 : Int32)), (.ref rn)])) rfl rfl (hb hby d1_76)) ?_
        show Go _ _ _ _ _ _ _ (s₁.setTop (mkF m 77 #[.val (.ref rn), .val (.long of), .second, .val (.long ln), .second, .val (.int (2 : Int32)), .val (.int (2 : Int32)), .val (.int (1 : Int32))] [(.long o1)]))
        refine Go.step (fun t k => XS.aloadN X0.here hx rfl (hb hby d1_77) rfl rfl k) ?_
        show Go _ _ _ _ _ _ _ (s₁.setTop (mkF m 78 #[.val (.ref rn), .val (.long of), .second, .val (.long ln), .second, .val (.int (2 : Int32)), .val (.int (2 : Int32)), .val (.int (1 : Int32))] [(.ref rn), (.long o1)]))
        refine Go.step (fun t k => XS.iconst X0.here hx rfl (hb hby d1_78) k) ?_
        show Go _ _ _ _ _ _ _ (s₁.setTop (mkF m 79 #[.val (.ref rn), .val (.long of), .second, .val (.long ln), .second, .val (.int (2 : Int32)), .val (.int (2 : Int32)), .val (.int (1 : Int32))] [(.int (2 : Int32)), (.ref rn), (.long o1)]))
        refine Go.step (fun t k => XS.iload X0.here hx rfl (hb hby d1_79) rfl k) ?_
        show Go _ _ _ _ _ _ _ (s₁.setTop (mkF m 81 #[.val (.ref rn), .val (.long of), .second, .val (.long ln), .second, .val (.int (2 : Int32)), .val (.int (2 : Int32)), .val (.int (1 : Int32))] [(.int (1 : Int32)), (.int (2 : Int32)), (.ref rn), (.long o1)]))
        refine Go.step (fun t k => XS.imul X0.here hx rfl (hb hby d1_81) rfl k) ?_
        show Go _ _ _ _ _ _ _ (s₁.setTop (mkF m 82 #[.val (.ref rn), .val (.long of), .second, .val (.long ln), .second, .val (.int (2 : Int32)), .val (.int (2 : Int32)), .val (.int (1 : Int32))] [(.int (2 : Int32)), (.ref rn), (.long o1)]))
        refine Go.step (fun t k => XS.iconst X0.here hx rfl (hb hby d1_82) k) ?_
        show Go _ _ _ _ _ _ _ (s₁.setTop (mkF m 83 #[.val (.ref rn), .val (.long of), .second, .val (.long ln), .second, .val (.int (2 : Int32)), .val (.int (2 : Int32)), .val (.int (1 : Int32))] [(.int (1 : Int32)), (.int (2 : Int32)), (.ref rn), (.long o1)]))
        refine Go.step (fun t k => XS.iadd X0.here hx rfl (hb hby d1_83) rfl k) ?_
        show Go _ _ _ _ _ _ _ (s₁.setTop (mkF m 84 #[.val (.ref rn), .val (.long of), .second, .val (.long ln), .second, .val (.int (2 : Int32)), .val (.int (2 : Int32)), .val (.int (1 : Int32))] [(.int (3 : Int32)), (.ref rn), (.long o1)]))
        refine Go.step (own_ld X0 hx hZ e0 A_rn (j := (3 : Int32)) 3 rfl (by decide) (v := (.long l1)) rfl (Or.inr (Or.inl ⟨rfl, rfl⟩)) (f := (mkF m 84 #[.val (.ref rn), .val (.long of), .second, .val (.long ln), .second, .val (.int (2 : Int32)), .val (.int (2 : Int32)), .val (.int (1 : Int32))] [(.int (3 : Int32)), (.ref rn), (.long o1)])) rfl rfl (hb hby d1_84)) ?_
        show Go _ _ _ _ _ _ _ (s₁.setTop (mkF m 85 #[.val (.ref rn), .val (.long of), .second, .val (.long ln), .second, .val (.int (2 : Int32)), .val (.int (2 : Int32)), .val (.int (1 : Int32))] [(.long l1), (.long o1)]))
        refine Go.step (fun t k => XS.ladd X0.here hx rfl (hb hby d1_85) rfl k) ?_
        show Go _ _ _ _ _ _ _ (s₁.setTop (mkF m 86 #[.val (.ref rn), .val (.long of), .second, .val (.long ln), .second, .val (.int (2 : Int32)), .val (.int (2 : Int32)), .val (.int (1 : Int32))] [(.long (o1 + l1))]))
        refine Go.step (fun t k => XS.lloadN X0.here hx rfl (hb hby d1_86) rfl k) ?_
        show Go _ _ _ _ _ _ _ (s₁.setTop (mkF m 87 #[.val (.ref rn), .val (.long of), .second, .val (.long ln), .second, .val (.int (2 : Int32)), .val (.int (2 : Int32)), .val (.int (1 : Int32))] [(.long of), (.long (o1 + l1))]))
        refine Go.step (fun t k => XS.lcmp X0.here hx rfl (hb hby d1_87) rfl k) ?_
        show Go _ _ _ _ _ _ _ (s₁.setTop (mkF m 88 #[.val (.ref rn), .val (.long of), .second, .val (.long ln), .second, .val (.int (2 : Int32)), .val (.int (2 : Int32)), .val (.int (1 : Int32))] [(.int (lcmpW (o1 + l1) of))]))
        by_cases hc88_13 : of < (o1 + l1)
        · refine Go.step (fun t k => XS.ifNo X0.here hx rfl (hb hby d1_88) rfl ((if0 _ _).trans (tlt (own_lwgt hc88_13)).2.2.2) k) ?_
          show Go _ _ _ _ _ _ _ (s₁.setTop (mkF m 91 #[.val (.ref rn), .val (.long of), .second, .val (.long ln), .second, .val (.int (2 : Int32)), .val (.int (2 : Int32)), .val (.int (1 : Int32))] []))
          refine Go.step (fun t k => XS.iconst X0.here hx rfl (hb hby d1_91) k) ?_
          show Go _ _ _ _ _ _ _ (s₁.setTop (mkF m 92 #[.val (.ref rn), .val (.long of), .second, .val (.long ln), .second, .val (.int (2 : Int32)), .val (.int (2 : Int32)), .val (.int (1 : Int32))] [(.int (1 : Int32))]))
          refine Go.step (fun t k => XS.goto X0.here hx rfl (pc0 := 92) (pc' := 96) rfl (hb hby d1_92) (by decide) (by decide) k) ?_
          show Go _ _ _ _ _ _ _ (s₁.setTop (mkF m 96 #[.val (.ref rn), .val (.long of), .second, .val (.long ln), .second, .val (.int (2 : Int32)), .val (.int (2 : Int32)), .val (.int (1 : Int32))] [(.int (1 : Int32))]))
          refine Go.retN X0 Bd.notSynchronized hx (t := .boolean) Bd.returns (by simp) (hb hby d1_96) (by decide) (by decide) (1 : Int32) rfl ?_
          rw [e0]
          have ihc35_3 := own_ltL hc35_3
          have ihc35_5 := own_nltL hc35_5
          have ihc63_10 := own_ltL hc63_10
          have ihc88_13 := own_ltL hc88_13
          have e0L : (0 : Int64).toInt = 0 := rfl
          have ho := hord
          simp only [own_or1, own_or2, own_or3] at ho
          exact ⟨(1 : Int32), rfl, N0, rfl, (Or.inl ⟨rfl, (by simp only [own_hit, Int64.lt_iff_toInt_lt, e0L]; omega)⟩)⟩
        · refine Go.step (fun t k => XS.ifYes X0.here hx rfl (pc0 := 88) (pc' := 95) rfl (hb hby d1_88) rfl ((if0 _ _).trans (flt (own_nlwgt hc88_13)).2.2.2) (by decide) (by decide) k) ?_
          show Go _ _ _ _ _ _ _ (s₁.setTop (mkF m 95 #[.val (.ref rn), .val (.long of), .second, .val (.long ln), .second, .val (.int (2 : Int32)), .val (.int (2 : Int32)), .val (.int (1 : Int32))] []))
          refine Go.step (fun t k => XS.iconst X0.here hx rfl (hb hby d1_95) k) ?_
          show Go _ _ _ _ _ _ _ (s₁.setTop (mkF m 96 #[.val (.ref rn), .val (.long of), .second, .val (.long ln), .second, .val (.int (2 : Int32)), .val (.int (2 : Int32)), .val (.int (1 : Int32))] [(.int (0 : Int32))]))
          refine Go.retN X0 Bd.notSynchronized hx (t := .boolean) Bd.returns (by simp) (hb hby d1_96) (by decide) (by decide) (0 : Int32) rfl ?_
          rw [e0]
          have ihc35_3 := own_ltL hc35_3
          have ihc35_5 := own_nltL hc35_5
          have ihc63_10 := own_ltL hc63_10
          have ihc88_13 := own_nltL hc88_13
          have e0L : (0 : Int64).toInt = 0 := rfl
          have ho := hord
          simp only [own_or1, own_or2, own_or3] at ho
          exact ⟨(0 : Int32), rfl, N0, rfl, (Or.inr ⟨rfl, (by simp only [own_hit, Int64.lt_iff_toInt_lt, e0L]; omega)⟩)⟩
      · refine Go.step (fun t k => XS.ifYes X0.here hx rfl (pc0 := 63) (pc' := 95) rfl (hb hby d1_63) rfl ((if0 _ _).trans (flt (own_nlwgt hc63_10)).2.2.2) (by decide) (by decide) k) ?_
        show Go _ _ _ _ _ _ _ (s₁.setTop (mkF m 95 #[.val (.ref rn), .val (.long of), .second, .val (.long ln), .second, .val (.int (2 : Int32)), .val (.int (2 : Int32)), .val (.int (1 : Int32))] []))
        refine Go.step (fun t k => XS.iconst X0.here hx rfl (hb hby d1_95) k) ?_
        show Go _ _ _ _ _ _ _ (s₁.setTop (mkF m 96 #[.val (.ref rn), .val (.long of), .second, .val (.long ln), .second, .val (.int (2 : Int32)), .val (.int (2 : Int32)), .val (.int (1 : Int32))] [(.int (0 : Int32))]))
        refine Go.retN X0 Bd.notSynchronized hx (t := .boolean) Bd.returns (by simp) (hb hby d1_96) (by decide) (by decide) (0 : Int32) rfl ?_
        rw [e0]
        have ihc35_3 := own_ltL hc35_3
        have ihc35_5 := own_nltL hc35_5
        have ihc63_10 := own_nltL hc63_10
        have e0L : (0 : Int64).toInt = 0 := rfl
        have ho := hord
        simp only [own_or1, own_or2, own_or3] at ho
        exact ⟨(0 : Int32), rfl, N0, rfl, (Or.inr ⟨rfl, (by simp only [own_hit, Int64.lt_iff_toInt_lt, e0L]; omega)⟩)⟩
  · refine Go.step (fun t k => XS.ifYes X0.here hx rfl (pc0 := 35) (pc' := 47) rfl (hb hby d1_35) rfl ((if0 _ _).trans (flt (own_nlwlt hc35_3)).2.1) (by decide) (by decide) k) ?_
    show Go _ _ _ _ _ _ _ (s₁.setTop (mkF m 47 #[.val (.ref rn), .val (.long of), .second, .val (.long ln), .second, .val (.int (0 : Int32)), .val (.int (3 : Int32)), .val (.int (1 : Int32))] []))
    refine Go.step (fun t k => XS.iload X0.here hx rfl (hb hby d1_47) rfl k) ?_
    show Go _ _ _ _ _ _ _ (s₁.setTop (mkF m 49 #[.val (.ref rn), .val (.long of), .second, .val (.long ln), .second, .val (.int (0 : Int32)), .val (.int (3 : Int32)), .val (.int (1 : Int32))] [(.int (1 : Int32))]))
    refine Go.step (fun t k => XS.istore X0.here hx rfl (hb hby d1_49) rfl (l' := #[.val (.ref rn), .val (.long of), .second, .val (.long ln), .second, .val (.int (0 : Int32)), .val (.int (1 : Int32)), .val (.int (1 : Int32))]) rfl k) ?_
    show Go _ _ _ _ _ _ _ (s₁.setTop (mkF m 51 #[.val (.ref rn), .val (.long of), .second, .val (.long ln), .second, .val (.int (0 : Int32)), .val (.int (1 : Int32)), .val (.int (1 : Int32))] []))
    refine Go.step (fun t k => XS.goto X0.here hx rfl (pc0 := 51) (pc' := 9) rfl (hb hby d1_51) (by decide) (by decide) k) ?_
    show Go _ _ _ _ _ _ _ (s₁.setTop (mkF m 9 #[.val (.ref rn), .val (.long of), .second, .val (.long ln), .second, .val (.int (0 : Int32)), .val (.int (1 : Int32)), .val (.int (1 : Int32))] []))
    refine Go.step (fun t k => XS.iload X0.here hx rfl (hb hby d1_9) rfl k) ?_
    show Go _ _ _ _ _ _ _ (s₁.setTop (mkF m 11 #[.val (.ref rn), .val (.long of), .second, .val (.long ln), .second, .val (.int (0 : Int32)), .val (.int (1 : Int32)), .val (.int (1 : Int32))] [(.int (0 : Int32))]))
    refine Go.step (fun t k => XS.iload X0.here hx rfl (hb hby d1_11) rfl k) ?_
    show Go _ _ _ _ _ _ _ (s₁.setTop (mkF m 13 #[.val (.ref rn), .val (.long of), .second, .val (.long ln), .second, .val (.int (0 : Int32)), .val (.int (1 : Int32)), .val (.int (1 : Int32))] [(.int (1 : Int32)), (.int (0 : Int32))]))
    refine Go.step (fun t k => XS.icmpNo X0.here hx rfl (hb hby d1_13) rfl (tlt (by decide : (0 : Int32) < (1 : Int32))).2.1 k) ?_
    show Go _ _ _ _ _ _ _ (s₁.setTop (mkF m 16 #[.val (.ref rn), .val (.long of), .second, .val (.long ln), .second, .val (.int (0 : Int32)), .val (.int (1 : Int32)), .val (.int (1 : Int32))] []))
    refine Go.step (fun t k => XS.iload X0.here hx rfl (hb hby d1_16) rfl k) ?_
    show Go _ _ _ _ _ _ _ (s₁.setTop (mkF m 18 #[.val (.ref rn), .val (.long of), .second, .val (.long ln), .second, .val (.int (0 : Int32)), .val (.int (1 : Int32)), .val (.int (1 : Int32))] [(.int (0 : Int32))]))
    refine Go.step (fun t k => XS.iload X0.here hx rfl (hb hby d1_18) rfl k) ?_
    show Go _ _ _ _ _ _ _ (s₁.setTop (mkF m 20 #[.val (.ref rn), .val (.long of), .second, .val (.long ln), .second, .val (.int (0 : Int32)), .val (.int (1 : Int32)), .val (.int (1 : Int32))] [(.int (1 : Int32)), (.int (0 : Int32))]))
    refine Go.step (fun t k => XS.iadd X0.here hx rfl (hb hby d1_20) rfl k) ?_
    show Go _ _ _ _ _ _ _ (s₁.setTop (mkF m 21 #[.val (.ref rn), .val (.long of), .second, .val (.long ln), .second, .val (.int (0 : Int32)), .val (.int (1 : Int32)), .val (.int (1 : Int32))] [(.int (1 : Int32))]))
    refine Go.step (fun t k => XS.iconst X0.here hx rfl (hb hby d1_21) k) ?_
    show Go _ _ _ _ _ _ _ (s₁.setTop (mkF m 22 #[.val (.ref rn), .val (.long of), .second, .val (.long ln), .second, .val (.int (0 : Int32)), .val (.int (1 : Int32)), .val (.int (1 : Int32))] [(.int (1 : Int32)), (.int (1 : Int32))]))
    refine Go.step (fun t k => XS.iushr X0.here hx rfl (hb hby d1_22) rfl k) ?_
    show Go _ _ _ _ _ _ _ (s₁.setTop (mkF m 23 #[.val (.ref rn), .val (.long of), .second, .val (.long ln), .second, .val (.int (0 : Int32)), .val (.int (1 : Int32)), .val (.int (1 : Int32))] [(.int (0 : Int32))]))
    refine Go.step (fun t k => XS.istore X0.here hx rfl (hb hby d1_23) rfl (l' := #[.val (.ref rn), .val (.long of), .second, .val (.long ln), .second, .val (.int (0 : Int32)), .val (.int (1 : Int32)), .val (.int (0 : Int32))]) rfl k) ?_
    show Go _ _ _ _ _ _ _ (s₁.setTop (mkF m 25 #[.val (.ref rn), .val (.long of), .second, .val (.long ln), .second, .val (.int (0 : Int32)), .val (.int (1 : Int32)), .val (.int (0 : Int32))] []))
    refine Go.step (fun t k => XS.aloadN X0.here hx rfl (hb hby d1_25) rfl rfl k) ?_
    show Go _ _ _ _ _ _ _ (s₁.setTop (mkF m 26 #[.val (.ref rn), .val (.long of), .second, .val (.long ln), .second, .val (.int (0 : Int32)), .val (.int (1 : Int32)), .val (.int (0 : Int32))] [(.ref rn)]))
    refine Go.step (fun t k => XS.iconst X0.here hx rfl (hb hby d1_26) k) ?_
    show Go _ _ _ _ _ _ _ (s₁.setTop (mkF m 27 #[.val (.ref rn), .val (.long of), .second, .val (.long ln), .second, .val (.int (0 : Int32)), .val (.int (1 : Int32)), .val (.int (0 : Int32))] [(.int (2 : Int32)), (.ref rn)]))
    refine Go.step (fun t k => XS.iload X0.here hx rfl (hb hby d1_27) rfl k) ?_
    show Go _ _ _ _ _ _ _ (s₁.setTop (mkF m 29 #[.val (.ref rn), .val (.long of), .second, .val (.long ln), .second, .val (.int (0 : Int32)), .val (.int (1 : Int32)), .val (.int (0 : Int32))] [(.int (0 : Int32)), (.int (2 : Int32)), (.ref rn)]))
    refine Go.step (fun t k => XS.imul X0.here hx rfl (hb hby d1_29) rfl k) ?_
    show Go _ _ _ _ _ _ _ (s₁.setTop (mkF m 30 #[.val (.ref rn), .val (.long of), .second, .val (.long ln), .second, .val (.int (0 : Int32)), .val (.int (1 : Int32)), .val (.int (0 : Int32))] [(.int (0 : Int32)), (.ref rn)]))
    refine Go.step (own_ld X0 hx hZ e0 A_rn (j := (0 : Int32)) 0 rfl (by decide) (v := (.long o0)) rfl (Or.inr (Or.inl ⟨rfl, rfl⟩)) (f := (mkF m 30 #[.val (.ref rn), .val (.long of), .second, .val (.long ln), .second, .val (.int (0 : Int32)), .val (.int (1 : Int32)), .val (.int (0 : Int32))] [(.int (0 : Int32)), (.ref rn)])) rfl rfl (hb hby d1_30)) ?_
    show Go _ _ _ _ _ _ _ (s₁.setTop (mkF m 31 #[.val (.ref rn), .val (.long of), .second, .val (.long ln), .second, .val (.int (0 : Int32)), .val (.int (1 : Int32)), .val (.int (0 : Int32))] [(.long o0)]))
    refine Go.step (fun t k => XS.lloadN X0.here hx rfl (hb hby d1_31) rfl k) ?_
    show Go _ _ _ _ _ _ _ (s₁.setTop (mkF m 32 #[.val (.ref rn), .val (.long of), .second, .val (.long ln), .second, .val (.int (0 : Int32)), .val (.int (1 : Int32)), .val (.int (0 : Int32))] [(.long of), (.long o0)]))
    refine Go.step (fun t k => XS.lloadN X0.here hx rfl (hb hby d1_32) rfl k) ?_
    show Go _ _ _ _ _ _ _ (s₁.setTop (mkF m 33 #[.val (.ref rn), .val (.long of), .second, .val (.long ln), .second, .val (.int (0 : Int32)), .val (.int (1 : Int32)), .val (.int (0 : Int32))] [(.long ln), (.long of), (.long o0)]))
    refine Go.step (fun t k => XS.ladd X0.here hx rfl (hb hby d1_33) rfl k) ?_
    show Go _ _ _ _ _ _ _ (s₁.setTop (mkF m 34 #[.val (.ref rn), .val (.long of), .second, .val (.long ln), .second, .val (.int (0 : Int32)), .val (.int (1 : Int32)), .val (.int (0 : Int32))] [(.long (of + ln)), (.long o0)]))
    refine Go.step (fun t k => XS.lcmp X0.here hx rfl (hb hby d1_34) rfl k) ?_
    show Go _ _ _ _ _ _ _ (s₁.setTop (mkF m 35 #[.val (.ref rn), .val (.long of), .second, .val (.long ln), .second, .val (.int (0 : Int32)), .val (.int (1 : Int32)), .val (.int (0 : Int32))] [(.int (lcmpW o0 (of + ln)))]))
    by_cases hc35_15 : o0 < (of + ln)
    · refine Go.step (fun t k => XS.ifNo X0.here hx rfl (hb hby d1_35) rfl ((if0 _ _).trans (tlt (own_lwlt hc35_15)).2.1) k) ?_
      show Go _ _ _ _ _ _ _ (s₁.setTop (mkF m 38 #[.val (.ref rn), .val (.long of), .second, .val (.long ln), .second, .val (.int (0 : Int32)), .val (.int (1 : Int32)), .val (.int (0 : Int32))] []))
      refine Go.step (fun t k => XS.iload X0.here hx rfl (hb hby d1_38) rfl k) ?_
      show Go _ _ _ _ _ _ _ (s₁.setTop (mkF m 40 #[.val (.ref rn), .val (.long of), .second, .val (.long ln), .second, .val (.int (0 : Int32)), .val (.int (1 : Int32)), .val (.int (0 : Int32))] [(.int (0 : Int32))]))
      refine Go.step (fun t k => XS.iconst X0.here hx rfl (hb hby d1_40) k) ?_
      show Go _ _ _ _ _ _ _ (s₁.setTop (mkF m 41 #[.val (.ref rn), .val (.long of), .second, .val (.long ln), .second, .val (.int (0 : Int32)), .val (.int (1 : Int32)), .val (.int (0 : Int32))] [(.int (1 : Int32)), (.int (0 : Int32))]))
      refine Go.step (fun t k => XS.iadd X0.here hx rfl (hb hby d1_41) rfl k) ?_
      show Go _ _ _ _ _ _ _ (s₁.setTop (mkF m 42 #[.val (.ref rn), .val (.long of), .second, .val (.long ln), .second, .val (.int (0 : Int32)), .val (.int (1 : Int32)), .val (.int (0 : Int32))] [(.int (1 : Int32))]))
      refine Go.step (fun t k => XS.istore X0.here hx rfl (hb hby d1_42) rfl (l' := #[.val (.ref rn), .val (.long of), .second, .val (.long ln), .second, .val (.int (1 : Int32)), .val (.int (1 : Int32)), .val (.int (0 : Int32))]) rfl k) ?_
      show Go _ _ _ _ _ _ _ (s₁.setTop (mkF m 44 #[.val (.ref rn), .val (.long of), .second, .val (.long ln), .second, .val (.int (1 : Int32)), .val (.int (1 : Int32)), .val (.int (0 : Int32))] []))
      refine Go.step (fun t k => XS.goto X0.here hx rfl (pc0 := 44) (pc' := 51) rfl (hb hby d1_44) (by decide) (by decide) k) ?_
      show Go _ _ _ _ _ _ _ (s₁.setTop (mkF m 51 #[.val (.ref rn), .val (.long of), .second, .val (.long ln), .second, .val (.int (1 : Int32)), .val (.int (1 : Int32)), .val (.int (0 : Int32))] []))
      refine Go.step (fun t k => XS.goto X0.here hx rfl (pc0 := 51) (pc' := 9) rfl (hb hby d1_51) (by decide) (by decide) k) ?_
      show Go _ _ _ _ _ _ _ (s₁.setTop (mkF m 9 #[.val (.ref rn), .val (.long of), .second, .val (.long ln), .second, .val (.int (1 : Int32)), .val (.int (1 : Int32)), .val (.int (0 : Int32))] []))
      refine Go.step (fun t k => XS.iload X0.here hx rfl (hb hby d1_9) rfl k) ?_
      show Go _ _ _ _ _ _ _ (s₁.setTop (mkF m 11 #[.val (.ref rn), .val (.long of), .second, .val (.long ln), .second, .val (.int (1 : Int32)), .val (.int (1 : Int32)), .val (.int (0 : Int32))] [(.int (1 : Int32))]))
      refine Go.step (fun t k => XS.iload X0.here hx rfl (hb hby d1_11) rfl k) ?_
      show Go _ _ _ _ _ _ _ (s₁.setTop (mkF m 13 #[.val (.ref rn), .val (.long of), .second, .val (.long ln), .second, .val (.int (1 : Int32)), .val (.int (1 : Int32)), .val (.int (0 : Int32))] [(.int (1 : Int32)), (.int (1 : Int32))]))
      refine Go.step (fun t k => XS.icmpYes X0.here hx rfl (pc0 := 13) (pc' := 54) rfl (hb hby d1_13) rfl (flt (by decide : ¬ (1 : Int32) < (1 : Int32))).2.1 (by decide) (by decide) k) ?_
      show Go _ _ _ _ _ _ _ (s₁.setTop (mkF m 54 #[.val (.ref rn), .val (.long of), .second, .val (.long ln), .second, .val (.int (1 : Int32)), .val (.int (1 : Int32)), .val (.int (0 : Int32))] []))
      refine Go.step (fun t k => XS.iload X0.here hx rfl (hb hby d1_54) rfl k) ?_
      show Go _ _ _ _ _ _ _ (s₁.setTop (mkF m 56 #[.val (.ref rn), .val (.long of), .second, .val (.long ln), .second, .val (.int (1 : Int32)), .val (.int (1 : Int32)), .val (.int (0 : Int32))] [(.int (1 : Int32))]))
      refine Go.step (fun t k => XS.iconst X0.here hx rfl (hb hby d1_56) k) ?_
      show Go _ _ _ _ _ _ _ (s₁.setTop (mkF m 57 #[.val (.ref rn), .val (.long of), .second, .val (.long ln), .second, .val (.int (1 : Int32)), .val (.int (1 : Int32)), .val (.int (0 : Int32))] [(.int (1 : Int32)), (.int (1 : Int32))]))
      refine Go.step (fun t k => XS.isub X0.here hx rfl (hb hby d1_57) rfl k) ?_
      show Go _ _ _ _ _ _ _ (s₁.setTop (mkF m 58 #[.val (.ref rn), .val (.long of), .second, .val (.long ln), .second, .val (.int (1 : Int32)), .val (.int (1 : Int32)), .val (.int (0 : Int32))] [(.int (0 : Int32))]))
      refine Go.step (fun t k => XS.istore X0.here hx rfl (hb hby d1_58) rfl (l' := #[.val (.ref rn), .val (.long of), .second, .val (.long ln), .second, .val (.int (1 : Int32)), .val (.int (1 : Int32)), .val (.int (0 : Int32))]) rfl k) ?_
      show Go _ _ _ _ _ _ _ (s₁.setTop (mkF m 60 #[.val (.ref rn), .val (.long of), .second, .val (.long ln), .second, .val (.int (1 : Int32)), .val (.int (1 : Int32)), .val (.int (0 : Int32))] []))
      refine Go.step (fun t k => XS.lloadN X0.here hx rfl (hb hby d1_60) rfl k) ?_
      show Go _ _ _ _ _ _ _ (s₁.setTop (mkF m 61 #[.val (.ref rn), .val (.long of), .second, .val (.long ln), .second, .val (.int (1 : Int32)), .val (.int (1 : Int32)), .val (.int (0 : Int32))] [(.long ln)]))
      refine Go.step (fun t k => XS.lconst X0.here hx rfl (hb hby d1_61) k) ?_
      show Go _ _ _ _ _ _ _ (s₁.setTop (mkF m 62 #[.val (.ref rn), .val (.long of), .second, .val (.long ln), .second, .val (.int (1 : Int32)), .val (.int (1 : Int32)), .val (.int (0 : Int32))] [(.long (0 : Int64)), (.long ln)]))
      refine Go.step (fun t k => XS.lcmp X0.here hx rfl (hb hby d1_62) rfl k) ?_
      show Go _ _ _ _ _ _ _ (s₁.setTop (mkF m 63 #[.val (.ref rn), .val (.long of), .second, .val (.long ln), .second, .val (.int (1 : Int32)), .val (.int (1 : Int32)), .val (.int (0 : Int32))] [(.int (lcmpW ln (0 : Int64)))]))
      by_cases hc63_16 : (0 : Int64) < ln
      · refine Go.step (fun t k => XS.ifNo X0.here hx rfl (hb hby d1_63) rfl ((if0 _ _).trans (tlt (own_lwgt hc63_16)).2.2.2) k) ?_
        show Go _ _ _ _ _ _ _ (s₁.setTop (mkF m 66 #[.val (.ref rn), .val (.long of), .second, .val (.long ln), .second, .val (.int (1 : Int32)), .val (.int (1 : Int32)), .val (.int (0 : Int32))] []))
        refine Go.step (fun t k => XS.iload X0.here hx rfl (hb hby d1_66) rfl k) ?_
        show Go _ _ _ _ _ _ _ (s₁.setTop (mkF m 68 #[.val (.ref rn), .val (.long of), .second, .val (.long ln), .second, .val (.int (1 : Int32)), .val (.int (1 : Int32)), .val (.int (0 : Int32))] [(.int (0 : Int32))]))
        refine Go.step (fun t k => XS.ifNo X0.here hx rfl (hb hby d1_68) rfl ((if0 _ _).trans (flt (by decide : ¬ (0 : Int32) < (0 : Int32))).1) k) ?_
        show Go _ _ _ _ _ _ _ (s₁.setTop (mkF m 71 #[.val (.ref rn), .val (.long of), .second, .val (.long ln), .second, .val (.int (1 : Int32)), .val (.int (1 : Int32)), .val (.int (0 : Int32))] []))
        refine Go.step (fun t k => XS.aloadN X0.here hx rfl (hb hby d1_71) rfl rfl k) ?_
        show Go _ _ _ _ _ _ _ (s₁.setTop (mkF m 72 #[.val (.ref rn), .val (.long of), .second, .val (.long ln), .second, .val (.int (1 : Int32)), .val (.int (1 : Int32)), .val (.int (0 : Int32))] [(.ref rn)]))
        refine Go.step (fun t k => XS.iconst X0.here hx rfl (hb hby d1_72) k) ?_
        show Go _ _ _ _ _ _ _ (s₁.setTop (mkF m 73 #[.val (.ref rn), .val (.long of), .second, .val (.long ln), .second, .val (.int (1 : Int32)), .val (.int (1 : Int32)), .val (.int (0 : Int32))] [(.int (2 : Int32)), (.ref rn)]))
        refine Go.step (fun t k => XS.iload X0.here hx rfl (hb hby d1_73) rfl k) ?_
        show Go _ _ _ _ _ _ _ (s₁.setTop (mkF m 75 #[.val (.ref rn), .val (.long of), .second, .val (.long ln), .second, .val (.int (1 : Int32)), .val (.int (1 : Int32)), .val (.int (0 : Int32))] [(.int (0 : Int32)), (.int (2 : Int32)), (.ref rn)]))
        refine Go.step (fun t k => XS.imul X0.here hx rfl (hb hby d1_75) rfl k) ?_
        show Go _ _ _ _ _ _ _ (s₁.setTop (mkF m 76 #[.val (.ref rn), .val (.long of), .second, .val (.long ln), .second, .val (.int (1 : Int32)), .val (.int (1 : Int32)), .val (.int (0 : Int32))] [(.int (0 : Int32)), (.ref rn)]))
        refine Go.step (own_ld X0 hx hZ e0 A_rn (j := (0 : Int32)) 0 rfl (by decide) (v := (.long o0)) rfl (Or.inr (Or.inl ⟨rfl, rfl⟩)) (f := (mkF m 76 #[.val (.ref rn), .val (.long of), .second, .val (.long ln), .second, .val (.int (1 : Int32)), .val (.int (1 : Int32)), .val (.int (0 : Int32))] [(.int (0 : Int32)), (.ref rn)])) rfl rfl (hb hby d1_76)) ?_
        show Go _ _ _ _ _ _ _ (s₁.setTop (mkF m 77 #[.val (.ref rn), .val (.long of), .second, .val (.long ln), .second, .val (.int (1 : Int32)), .val (.int (1 : Int32)), .val (.int (0 : Int32))] [(.long o0)]))
        refine Go.step (fun t k => XS.aloadN X0.here hx rfl (hb hby d1_77) rfl rfl k) ?_
        show Go _ _ _ _ _ _ _ (s₁.setTop (mkF m 78 #[.val (.ref rn), .val (.long of), .second, .val (.long ln), .second, .val (.int (1 : Int32)), .val (.int (1 : Int32)), .val (.int (0 : Int32))] [(.ref rn), (.long o0)]))
        refine Go.step (fun t k => XS.iconst X0.here hx rfl (hb hby d1_78) k) ?_
        show Go _ _ _ _ _ _ _ (s₁.setTop (mkF m 79 #[.val (.ref rn), .val (.long of), .second, .val (.long ln), .second, .val (.int (1 : Int32)), .val (.int (1 : Int32)), .val (.int (0 : Int32))] [(.int (2 : Int32)), (.ref rn), (.long o0)]))
        refine Go.step (fun t k => XS.iload X0.here hx rfl (hb hby d1_79) rfl k) ?_
        show Go _ _ _ _ _ _ _ (s₁.setTop (mkF m 81 #[.val (.ref rn), .val (.long of), .second, .val (.long ln), .second, .val (.int (1 : Int32)), .val (.int (1 : Int32)), .val (.int (0 : Int32))] [(.int (0 : Int32)), (.int (2 : Int32)), (.ref rn), (.long o0)]))
        refine Go.step (fun t k => XS.imul X0.here hx rfl (hb hby d1_81) rfl k) ?_
        show Go _ _ _ _ _ _ _ (s₁.setTop (mkF m 82 #[.val (.ref rn), .val (.long of), .second, .val (.long ln), .second, .val (.int (1 : Int32)), .val (.int (1 : Int32)), .val (.int (0 : Int32))] [(.int (0 : Int32)), (.ref rn), (.long o0)]))
        refine Go.step (fun t k => XS.iconst X0.here hx rfl (hb hby d1_82) k) ?_
        show Go _ _ _ _ _ _ _ (s₁.setTop (mkF m 83 #[.val (.ref rn), .val (.long of), .second, .val (.long ln), .second, .val (.int (1 : Int32)), .val (.int (1 : Int32)), .val (.int (0 : Int32))] [(.int (1 : Int32)), (.int (0 : Int32)), (.ref rn), (.long o0)]))
        refine Go.step (fun t k => XS.iadd X0.here hx rfl (hb hby d1_83) rfl k) ?_
        show Go _ _ _ _ _ _ _ (s₁.setTop (mkF m 84 #[.val (.ref rn), .val (.long of), .second, .val (.long ln), .second, .val (.int (1 : Int32)), .val (.int (1 : Int32)), .val (.int (0 : Int32))] [(.int (1 : Int32)), (.ref rn), (.long o0)]))
        refine Go.step (own_ld X0 hx hZ e0 A_rn (j := (1 : Int32)) 1 rfl (by decide) (v := (.long l0)) rfl (Or.inr (Or.inl ⟨rfl, rfl⟩)) (f := (mkF m 84 #[.val (.ref rn), .val (.long of), .second, .val (.long ln), .second, .val (.int (1 : Int32)), .val (.int (1 : Int32)), .val (.int (0 : Int32))] [(.int (1 : Int32)), (.ref rn), (.long o0)])) rfl rfl (hb hby d1_84)) ?_
        show Go _ _ _ _ _ _ _ (s₁.setTop (mkF m 85 #[.val (.ref rn), .val (.long of), .second, .val (.long ln), .second, .val (.int (1 : Int32)), .val (.int (1 : Int32)), .val (.int (0 : Int32))] [(.long l0), (.long o0)]))
        refine Go.step (fun t k => XS.ladd X0.here hx rfl (hb hby d1_85) rfl k) ?_
        show Go _ _ _ _ _ _ _ (s₁.setTop (mkF m 86 #[.val (.ref rn), .val (.long of), .second, .val (.long ln), .second, .val (.int (1 : Int32)), .val (.int (1 : Int32)), .val (.int (0 : Int32))] [(.long (o0 + l0))]))
        refine Go.step (fun t k => XS.lloadN X0.here hx rfl (hb hby d1_86) rfl k) ?_
        show Go _ _ _ _ _ _ _ (s₁.setTop (mkF m 87 #[.val (.ref rn), .val (.long of), .second, .val (.long ln), .second, .val (.int (1 : Int32)), .val (.int (1 : Int32)), .val (.int (0 : Int32))] [(.long of), (.long (o0 + l0))]))
        refine Go.step (fun t k => XS.lcmp X0.here hx rfl (hb hby d1_87) rfl k) ?_
        show Go _ _ _ _ _ _ _ (s₁.setTop (mkF m 88 #[.val (.ref rn), .val (.long of), .second, .val (.long ln), .second, .val (.int (1 : Int32)), .val (.int (1 : Int32)), .val (.int (0 : Int32))] [(.int (lcmpW (o0 + l0) of))]))
        by_cases hc88_19 : of < (o0 + l0)
        · refine Go.step (fun t k => XS.ifNo X0.here hx rfl (hb hby d1_88) rfl ((if0 _ _).trans (tlt (own_lwgt hc88_19)).2.2.2) k) ?_
          show Go _ _ _ _ _ _ _ (s₁.setTop (mkF m 91 #[.val (.ref rn), .val (.long of), .second, .val (.long ln), .second, .val (.int (1 : Int32)), .val (.int (1 : Int32)), .val (.int (0 : Int32))] []))
          refine Go.step (fun t k => XS.iconst X0.here hx rfl (hb hby d1_91) k) ?_
          show Go _ _ _ _ _ _ _ (s₁.setTop (mkF m 92 #[.val (.ref rn), .val (.long of), .second, .val (.long ln), .second, .val (.int (1 : Int32)), .val (.int (1 : Int32)), .val (.int (0 : Int32))] [(.int (1 : Int32))]))
          refine Go.step (fun t k => XS.goto X0.here hx rfl (pc0 := 92) (pc' := 96) rfl (hb hby d1_92) (by decide) (by decide) k) ?_
          show Go _ _ _ _ _ _ _ (s₁.setTop (mkF m 96 #[.val (.ref rn), .val (.long of), .second, .val (.long ln), .second, .val (.int (1 : Int32)), .val (.int (1 : Int32)), .val (.int (0 : Int32))] [(.int (1 : Int32))]))
          refine Go.retN X0 Bd.notSynchronized hx (t := .boolean) Bd.returns (by simp) (hb hby d1_96) (by decide) (by decide) (1 : Int32) rfl ?_
          rw [e0]
          have ihc35_3 := own_nltL hc35_3
          have ihc35_15 := own_ltL hc35_15
          have ihc63_16 := own_ltL hc63_16
          have ihc88_19 := own_ltL hc88_19
          have e0L : (0 : Int64).toInt = 0 := rfl
          have ho := hord
          simp only [own_or1, own_or2, own_or3] at ho
          exact ⟨(1 : Int32), rfl, N0, rfl, (Or.inl ⟨rfl, (by simp only [own_hit, Int64.lt_iff_toInt_lt, e0L]; omega)⟩)⟩
        · refine Go.step (fun t k => XS.ifYes X0.here hx rfl (pc0 := 88) (pc' := 95) rfl (hb hby d1_88) rfl ((if0 _ _).trans (flt (own_nlwgt hc88_19)).2.2.2) (by decide) (by decide) k) ?_
          show Go _ _ _ _ _ _ _ (s₁.setTop (mkF m 95 #[.val (.ref rn), .val (.long of), .second, .val (.long ln), .second, .val (.int (1 : Int32)), .val (.int (1 : Int32)), .val (.int (0 : Int32))] []))
          refine Go.step (fun t k => XS.iconst X0.here hx rfl (hb hby d1_95) k) ?_
          show Go _ _ _ _ _ _ _ (s₁.setTop (mkF m 96 #[.val (.ref rn), .val (.long of), .second, .val (.long ln), .second, .val (.int (1 : Int32)), .val (.int (1 : Int32)), .val (.int (0 : Int32))] [(.int (0 : Int32))]))
          refine Go.retN X0 Bd.notSynchronized hx (t := .boolean) Bd.returns (by simp) (hb hby d1_96) (by decide) (by decide) (0 : Int32) rfl ?_
          rw [e0]
          have ihc35_3 := own_nltL hc35_3
          have ihc35_15 := own_ltL hc35_15
          have ihc63_16 := own_ltL hc63_16
          have ihc88_19 := own_nltL hc88_19
          have e0L : (0 : Int64).toInt = 0 := rfl
          have ho := hord
          simp only [own_or1, own_or2, own_or3] at ho
          exact ⟨(0 : Int32), rfl, N0, rfl, (Or.inr ⟨rfl, (by simp only [own_hit, Int64.lt_iff_toInt_lt, e0L]; omega)⟩)⟩
      · refine Go.step (fun t k => XS.ifYes X0.here hx rfl (pc0 := 63) (pc' := 95) rfl (hb hby d1_63) rfl ((if0 _ _).trans (flt (own_nlwgt hc63_16)).2.2.2) (by decide) (by decide) k) ?_
        show Go _ _ _ _ _ _ _ (s₁.setTop (mkF m 95 #[.val (.ref rn), .val (.long of), .second, .val (.long ln), .second, .val (.int (1 : Int32)), .val (.int (1 : Int32)), .val (.int (0 : Int32))] []))
        refine Go.step (fun t k => XS.iconst X0.here hx rfl (hb hby d1_95) k) ?_
        show Go _ _ _ _ _ _ _ (s₁.setTop (mkF m 96 #[.val (.ref rn), .val (.long of), .second, .val (.long ln), .second, .val (.int (1 : Int32)), .val (.int (1 : Int32)), .val (.int (0 : Int32))] [(.int (0 : Int32))]))
        refine Go.retN X0 Bd.notSynchronized hx (t := .boolean) Bd.returns (by simp) (hb hby d1_96) (by decide) (by decide) (0 : Int32) rfl ?_
        rw [e0]
        have ihc35_3 := own_nltL hc35_3
        have ihc35_15 := own_ltL hc35_15
        have ihc63_16 := own_nltL hc63_16
        have e0L : (0 : Int64).toInt = 0 := rfl
        have ho := hord
        simp only [own_or1, own_or2, own_or3] at ho
        exact ⟨(0 : Int32), rfl, N0, rfl, (Or.inr ⟨rfl, (by simp only [own_hit, Int64.lt_iff_toInt_lt, e0L]; omega)⟩)⟩
    · refine Go.step (fun t k => XS.ifYes X0.here hx rfl (pc0 := 35) (pc' := 47) rfl (hb hby d1_35) rfl ((if0 _ _).trans (flt (own_nlwlt hc35_15)).2.1) (by decide) (by decide) k) ?_
      show Go _ _ _ _ _ _ _ (s₁.setTop (mkF m 47 #[.val (.ref rn), .val (.long of), .second, .val (.long ln), .second, .val (.int (0 : Int32)), .val (.int (1 : Int32)), .val (.int (0 : Int32))] []))
      refine Go.step (fun t k => XS.iload X0.here hx rfl (hb hby d1_47) rfl k) ?_
      show Go _ _ _ _ _ _ _ (s₁.setTop (mkF m 49 #[.val (.ref rn), .val (.long of), .second, .val (.long ln), .second, .val (.int (0 : Int32)), .val (.int (1 : Int32)), .val (.int (0 : Int32))] [(.int (0 : Int32))]))
      refine Go.step (fun t k => XS.istore X0.here hx rfl (hb hby d1_49) rfl (l' := #[.val (.ref rn), .val (.long of), .second, .val (.long ln), .second, .val (.int (0 : Int32)), .val (.int (0 : Int32)), .val (.int (0 : Int32))]) rfl k) ?_
      show Go _ _ _ _ _ _ _ (s₁.setTop (mkF m 51 #[.val (.ref rn), .val (.long of), .second, .val (.long ln), .second, .val (.int (0 : Int32)), .val (.int (0 : Int32)), .val (.int (0 : Int32))] []))
      refine Go.step (fun t k => XS.goto X0.here hx rfl (pc0 := 51) (pc' := 9) rfl (hb hby d1_51) (by decide) (by decide) k) ?_
      show Go _ _ _ _ _ _ _ (s₁.setTop (mkF m 9 #[.val (.ref rn), .val (.long of), .second, .val (.long ln), .second, .val (.int (0 : Int32)), .val (.int (0 : Int32)), .val (.int (0 : Int32))] []))
      refine Go.step (fun t k => XS.iload X0.here hx rfl (hb hby d1_9) rfl k) ?_
      show Go _ _ _ _ _ _ _ (s₁.setTop (mkF m 11 #[.val (.ref rn), .val (.long of), .second, .val (.long ln), .second, .val (.int (0 : Int32)), .val (.int (0 : Int32)), .val (.int (0 : Int32))] [(.int (0 : Int32))]))
      refine Go.step (fun t k => XS.iload X0.here hx rfl (hb hby d1_11) rfl k) ?_
      show Go _ _ _ _ _ _ _ (s₁.setTop (mkF m 13 #[.val (.ref rn), .val (.long of), .second, .val (.long ln), .second, .val (.int (0 : Int32)), .val (.int (0 : Int32)), .val (.int (0 : Int32))] [(.int (0 : Int32)), (.int (0 : Int32))]))
      refine Go.step (fun t k => XS.icmpYes X0.here hx rfl (pc0 := 13) (pc' := 54) rfl (hb hby d1_13) rfl (flt (by decide : ¬ (0 : Int32) < (0 : Int32))).2.1 (by decide) (by decide) k) ?_
      show Go _ _ _ _ _ _ _ (s₁.setTop (mkF m 54 #[.val (.ref rn), .val (.long of), .second, .val (.long ln), .second, .val (.int (0 : Int32)), .val (.int (0 : Int32)), .val (.int (0 : Int32))] []))
      refine Go.step (fun t k => XS.iload X0.here hx rfl (hb hby d1_54) rfl k) ?_
      show Go _ _ _ _ _ _ _ (s₁.setTop (mkF m 56 #[.val (.ref rn), .val (.long of), .second, .val (.long ln), .second, .val (.int (0 : Int32)), .val (.int (0 : Int32)), .val (.int (0 : Int32))] [(.int (0 : Int32))]))
      refine Go.step (fun t k => XS.iconst X0.here hx rfl (hb hby d1_56) k) ?_
      show Go _ _ _ _ _ _ _ (s₁.setTop (mkF m 57 #[.val (.ref rn), .val (.long of), .second, .val (.long ln), .second, .val (.int (0 : Int32)), .val (.int (0 : Int32)), .val (.int (0 : Int32))] [(.int (1 : Int32)), (.int (0 : Int32))]))
      refine Go.step (fun t k => XS.isub X0.here hx rfl (hb hby d1_57) rfl k) ?_
      show Go _ _ _ _ _ _ _ (s₁.setTop (mkF m 58 #[.val (.ref rn), .val (.long of), .second, .val (.long ln), .second, .val (.int (0 : Int32)), .val (.int (0 : Int32)), .val (.int (0 : Int32))] [(.int (-1 : Int32))]))
      refine Go.step (fun t k => XS.istore X0.here hx rfl (hb hby d1_58) rfl (l' := #[.val (.ref rn), .val (.long of), .second, .val (.long ln), .second, .val (.int (0 : Int32)), .val (.int (0 : Int32)), .val (.int (-1 : Int32))]) rfl k) ?_
      show Go _ _ _ _ _ _ _ (s₁.setTop (mkF m 60 #[.val (.ref rn), .val (.long of), .second, .val (.long ln), .second, .val (.int (0 : Int32)), .val (.int (0 : Int32)), .val (.int (-1 : Int32))] []))
      refine Go.step (fun t k => XS.lloadN X0.here hx rfl (hb hby d1_60) rfl k) ?_
      show Go _ _ _ _ _ _ _ (s₁.setTop (mkF m 61 #[.val (.ref rn), .val (.long of), .second, .val (.long ln), .second, .val (.int (0 : Int32)), .val (.int (0 : Int32)), .val (.int (-1 : Int32))] [(.long ln)]))
      refine Go.step (fun t k => XS.lconst X0.here hx rfl (hb hby d1_61) k) ?_
      show Go _ _ _ _ _ _ _ (s₁.setTop (mkF m 62 #[.val (.ref rn), .val (.long of), .second, .val (.long ln), .second, .val (.int (0 : Int32)), .val (.int (0 : Int32)), .val (.int (-1 : Int32))] [(.long (0 : Int64)), (.long ln)]))
      refine Go.step (fun t k => XS.lcmp X0.here hx rfl (hb hby d1_62) rfl k) ?_
      show Go _ _ _ _ _ _ _ (s₁.setTop (mkF m 63 #[.val (.ref rn), .val (.long of), .second, .val (.long ln), .second, .val (.int (0 : Int32)), .val (.int (0 : Int32)), .val (.int (-1 : Int32))] [(.int (lcmpW ln (0 : Int64)))]))
      by_cases hc63_20 : (0 : Int64) < ln
      · refine Go.step (fun t k => XS.ifNo X0.here hx rfl (hb hby d1_63) rfl ((if0 _ _).trans (tlt (own_lwgt hc63_20)).2.2.2) k) ?_
        show Go _ _ _ _ _ _ _ (s₁.setTop (mkF m 66 #[.val (.ref rn), .val (.long of), .second, .val (.long ln), .second, .val (.int (0 : Int32)), .val (.int (0 : Int32)), .val (.int (-1 : Int32))] []))
        refine Go.step (fun t k => XS.iload X0.here hx rfl (hb hby d1_66) rfl k) ?_
        show Go _ _ _ _ _ _ _ (s₁.setTop (mkF m 68 #[.val (.ref rn), .val (.long of), .second, .val (.long ln), .second, .val (.int (0 : Int32)), .val (.int (0 : Int32)), .val (.int (-1 : Int32))] [(.int (-1 : Int32))]))
        refine Go.step (fun t k => XS.ifYes X0.here hx rfl (pc0 := 68) (pc' := 95) rfl (hb hby d1_68) rfl ((if0 _ _).trans (tlt (by decide : (-1 : Int32) < (0 : Int32))).1) (by decide) (by decide) k) ?_
        show Go _ _ _ _ _ _ _ (s₁.setTop (mkF m 95 #[.val (.ref rn), .val (.long of), .second, .val (.long ln), .second, .val (.int (0 : Int32)), .val (.int (0 : Int32)), .val (.int (-1 : Int32))] []))
        refine Go.step (fun t k => XS.iconst X0.here hx rfl (hb hby d1_95) k) ?_
        show Go _ _ _ _ _ _ _ (s₁.setTop (mkF m 96 #[.val (.ref rn), .val (.long of), .second, .val (.long ln), .second, .val (.int (0 : Int32)), .val (.int (0 : Int32)), .val (.int (-1 : Int32))] [(.int (0 : Int32))]))
        refine Go.retN X0 Bd.notSynchronized hx (t := .boolean) Bd.returns (by simp) (hb hby d1_96) (by decide) (by decide) (0 : Int32) rfl ?_
        rw [e0]
        have ihc35_3 := own_nltL hc35_3
        have ihc35_15 := own_nltL hc35_15
        have ihc63_20 := own_ltL hc63_20
        have e0L : (0 : Int64).toInt = 0 := rfl
        have ho := hord
        simp only [own_or1, own_or2, own_or3] at ho
        exact ⟨(0 : Int32), rfl, N0, rfl, (Or.inr ⟨rfl, (by simp only [own_hit, Int64.lt_iff_toInt_lt, e0L]; omega)⟩)⟩
      · refine Go.step (fun t k => XS.ifYes X0.here hx rfl (pc0 := 63) (pc' := 95) rfl (hb hby d1_63) rfl ((if0 _ _).trans (flt (own_nlwgt hc63_20)).2.2.2) (by decide) (by decide) k) ?_
        show Go _ _ _ _ _ _ _ (s₁.setTop (mkF m 95 #[.val (.ref rn), .val (.long of), .second, .val (.long ln), .second, .val (.int (0 : Int32)), .val (.int (0 : Int32)), .val (.int (-1 : Int32))] []))
        refine Go.step (fun t k => XS.iconst X0.here hx rfl (hb hby d1_95) k) ?_
        show Go _ _ _ _ _ _ _ (s₁.setTop (mkF m 96 #[.val (.ref rn), .val (.long of), .second, .val (.long ln), .second, .val (.int (0 : Int32)), .val (.int (0 : Int32)), .val (.int (-1 : Int32))] [(.int (0 : Int32))]))
        refine Go.retN X0 Bd.notSynchronized hx (t := .boolean) Bd.returns (by simp) (hb hby d1_96) (by decide) (by decide) (0 : Int32) rfl ?_
        rw [e0]
        have ihc35_3 := own_nltL hc35_3
        have ihc35_15 := own_nltL hc35_15
        have ihc63_20 := own_nltL hc63_20
        have e0L : (0 : Int64).toInt = 0 := rfl
        have ho := hord
        simp only [own_or1, own_or2, own_or3] at ho
        exact ⟨(0 : Int32), rfl, N0, rfl, (Or.inr ⟨rfl, (by simp only [own_hit, Int64.lt_iff_toInt_lt, e0L]; omega)⟩)⟩
theorem pn_0 : plainName "com/example/rootkeep/rootkeep/file/FreeSpaceOverlapsPinLaw" = true := by first | (simp [plainName, overriddenIn]; done) | decide +kernel
theorem pd_0_0 : parseMethodDescriptor "([JJJ)Z" = some ⟨[(.array .long), .long, .long], some .boolean⟩ := by decide +kernel
theorem pd_0_1 : parseMethodDescriptor "(JJJJ)Z" = some ⟨[.long, .long, .long, .long], some .boolean⟩ := by decide +kernel
theorem ef_0 (m : MethodId) (x0 : Int32) (x1 : Int64) (x2 : Int64) (x3 : Int64) (x4 : Int64) (x5 : Int64) : entryFrame m #[(.int x0), (.long x1), (.long x2), (.long x3), (.long x4), (.long x5)] maxLocals = mkF m 0 #[.val (.int x0), .val (.long x1), .second, .val (.long x2), .second, .val (.long x3), .second, .val (.long x4), .second, .val (.long x5), .second, .unset, .unset, .unset, .unset, .unset, .unset, .unset, .unset, .unset, .unset, .unset, .unset, .unset, .unset, .unset, .unset, .unset, .unset, .unset, .unset, .unset, .unset, .unset] [] := by first | (simp [entryFrame, mkF, argsToLocals, Value.category, maxLocals]; done) | rfl
def Q0 (Z : State) (nn : Int32) (qa : Int64) (qb : Int64) (qc : Int64) (qo : Int64) (ql : Int64) (h0 : Heap) (n0 : Nat) (v : Option Value) (h : Heap) (L : List Loc) : Prop := v = some (.int (1 : Int32)) ∧ Fr n0 L
set_option maxRecDepth 65536 in
set_option maxHeartbeats 40000000 in
theorem rm0 (l : Launch) (Z : State) (a0 : Array Value) (hw : ∀ d ∈ tables_1, d.before a0 Z = true) (ws : List Jvm.Cond) (nn : Int32) (qa : Int64) (qb : Int64) (qc : Int64) (qo : Int64) (ql : Int64) (h0 : Heap) (n0 : Nat) (Z0 : n0 ≤ h0.size) :
    MetFree l x (head1 (Jvm.Cond.code x code maxLocals ret :: ws) room_1) (fun a U => a = #[(.int nn), (.long qa), (.long qb), (.long qc), (.long qo), (.long ql)] ∧ Z.Warmed39 U.vm ∧ U.heap = h0) (fun _ _ _ _ _ => True) (fun _ U o U' => ∃ v L, o = .returned v ∧ Q0 Z nn qa qb qc qo ql h0 n0 v U'.heap L ∧ FrameEnd U o U' L 16 128) := by
  refine MetFree.of_bodySF (plainFor_of_name pn_0) hisR ?_
  intro p e s m args below meth c s₁ Bd hml0 hP hK
  obtain ⟨rfl, hZ, hh⟩ := hP
  have hx := Bd.exec
  have hby := Bd.bytes
  have hml : c.maxLocals = 34 := hml0
  have hown : s.vm.findClass "com/example/rootkeep/rootkeep/file/FreeSpaceOverlapsPinLaw" = some m.cls := findClass_of_methodNamed Bd.named
  have hnm := (name_of_methodNamed Bd.named Bd.method).1
  have X0 : Stand p l e room_1 s m #[(.int nn), (.long qa), (.long qb), (.long qc), (.long qo), (.long ql)] below meth c s₁ [] 0 0 := Stand.of_body Bd
  have e0 : s₁.heap = h0 := by rw [← hh, Bd.state]; rfl
  have N0 := Fr.nil n0
  show Go p e below s (Q0 Z nn qa qb qc qo ql h0 n0) 16 128 (s₁.setTop (entryFrame m #[(.int nn), (.long qa), (.long qb), (.long qc), (.long qo), (.long ql)] maxLocals))
  rw [ef_0]
  show Go _ _ _ _ _ _ _ (s₁.setTop (mkF m 0 #[.val (.int nn), .val (.long qa), .second, .val (.long qb), .second, .val (.long qc), .second, .val (.long qo), .second, .val (.long ql), .second, .unset, .unset, .unset, .unset, .unset, .unset, .unset, .unset, .unset, .unset, .unset, .unset, .unset, .unset, .unset, .unset, .unset, .unset, .unset, .unset, .unset, .unset, .unset] []))
  refine Go.step (fun t k => XS.iloadN X0.here hx rfl (hb hby at_0) rfl k) ?_
  show Go _ _ _ _ _ _ _ (s₁.setTop (mkF m 1 #[.val (.int nn), .val (.long qa), .second, .val (.long qb), .second, .val (.long qc), .second, .val (.long qo), .second, .val (.long ql), .second, .unset, .unset, .unset, .unset, .unset, .unset, .unset, .unset, .unset, .unset, .unset, .unset, .unset, .unset, .unset, .unset, .unset, .unset, .unset, .unset, .unset, .unset, .unset] [(.int nn)]))
  refine Go.step (fun t k => XS.iconst X0.here hx rfl (hb hby at_1) k) ?_
  show Go _ _ _ _ _ _ _ (s₁.setTop (mkF m 2 #[.val (.int nn), .val (.long qa), .second, .val (.long qb), .second, .val (.long qc), .second, .val (.long qo), .second, .val (.long ql), .second, .unset, .unset, .unset, .unset, .unset, .unset, .unset, .unset, .unset, .unset, .unset, .unset, .unset, .unset, .unset, .unset, .unset, .unset, .unset, .unset, .unset, .unset, .unset] [(.int (3 : Int32)), (.int nn)]))
  refine Go.step (fun t k => XS.iand X0.here hx rfl (hb hby at_2) rfl k) ?_
  show Go _ _ _ _ _ _ _ (s₁.setTop (mkF m 3 #[.val (.int nn), .val (.long qa), .second, .val (.long qb), .second, .val (.long qc), .second, .val (.long qo), .second, .val (.long ql), .second, .unset, .unset, .unset, .unset, .unset, .unset, .unset, .unset, .unset, .unset, .unset, .unset, .unset, .unset, .unset, .unset, .unset, .unset, .unset, .unset, .unset, .unset, .unset] [(.int (nn &&& (3 : Int32)))]))
  refine Go.step (fun t k => XS.istore X0.here hx rfl (hb hby at_3) rfl (l' := #[.val (.int nn), .val (.long qa), .second, .val (.long qb), .second, .val (.long qc), .second, .val (.long qo), .second, .val (.long ql), .second, .val (.int (nn &&& (3 : Int32))), .unset, .unset, .unset, .unset, .unset, .unset, .unset, .unset, .unset, .unset, .unset, .unset, .unset, .unset, .unset, .unset, .unset, .unset, .unset, .unset, .unset, .unset]) rfl k) ?_
  show Go _ _ _ _ _ _ _ (s₁.setTop (mkF m 5 #[.val (.int nn), .val (.long qa), .second, .val (.long qb), .second, .val (.long qc), .second, .val (.long qo), .second, .val (.long ql), .second, .val (.int (nn &&& (3 : Int32))), .unset, .unset, .unset, .unset, .unset, .unset, .unset, .unset, .unset, .unset, .unset, .unset, .unset, .unset, .unset, .unset, .unset, .unset, .unset, .unset, .unset, .unset] []))
  generalize hvk : (nn &&& (3 : Int32)) = vk
  show Go _ _ _ _ _ _ _ (s₁.setTop (mkF m 5 #[.val (.int nn), .val (.long qa), .second, .val (.long qb), .second, .val (.long qc), .second, .val (.long qo), .second, .val (.long ql), .second, .val (.int vk), .unset, .unset, .unset, .unset, .unset, .unset, .unset, .unset, .unset, .unset, .unset, .unset, .unset, .unset, .unset, .unset, .unset, .unset, .unset, .unset, .unset, .unset] []))
  refine Go.step (fun t k => XS.lloadN X0.here hx rfl (hb hby at_5) rfl k) ?_
  show Go _ _ _ _ _ _ _ (s₁.setTop (mkF m 6 #[.val (.int nn), .val (.long qa), .second, .val (.long qb), .second, .val (.long qc), .second, .val (.long qo), .second, .val (.long ql), .second, .val (.int vk), .unset, .unset, .unset, .unset, .unset, .unset, .unset, .unset, .unset, .unset, .unset, .unset, .unset, .unset, .unset, .unset, .unset, .unset, .unset, .unset, .unset, .unset] [(.long qa)]))
  refine Go.step (fun t k => XS.bipush X0.here hx rfl (hb hby at_6) k) ?_
  show Go _ _ _ _ _ _ _ (s₁.setTop (mkF m 8 #[.val (.int nn), .val (.long qa), .second, .val (.long qb), .second, .val (.long qc), .second, .val (.long qo), .second, .val (.long ql), .second, .val (.int vk), .unset, .unset, .unset, .unset, .unset, .unset, .unset, .unset, .unset, .unset, .unset, .unset, .unset, .unset, .unset, .unset, .unset, .unset, .unset, .unset, .unset, .unset] [(.int (32 : Int32)), (.long qa)]))
  refine Go.step (fun t k => XS.lushr X0.here hx rfl (hb hby at_8) rfl k) ?_
  show Go _ _ _ _ _ _ _ (s₁.setTop (mkF m 9 #[.val (.int nn), .val (.long qa), .second, .val (.long qb), .second, .val (.long qc), .second, .val (.long qo), .second, .val (.long ql), .second, .val (.int vk), .unset, .unset, .unset, .unset, .unset, .unset, .unset, .unset, .unset, .unset, .unset, .unset, .unset, .unset, .unset, .unset, .unset, .unset, .unset, .unset, .unset, .unset] [(.long ((qa.toUInt64 >>> ((32 : Int32) &&& 0x3f).toInt64.toUInt64).toInt64))]))
  refine Go.step (fun t k => XS.lstore X0.here hx rfl (hb hby at_9) rfl (l' := #[.val (.int nn), .val (.long qa), .second, .val (.long qb), .second, .val (.long qc), .second, .val (.long qo), .second, .val (.long ql), .second, .val (.int vk), .val (.long ((qa.toUInt64 >>> ((32 : Int32) &&& 0x3f).toInt64.toUInt64).toInt64)), .second, .unset, .unset, .unset, .unset, .unset, .unset, .unset, .unset, .unset, .unset, .unset, .unset, .unset, .unset, .unset, .unset, .unset, .unset, .unset, .unset]) rfl k) ?_
  show Go _ _ _ _ _ _ _ (s₁.setTop (mkF m 11 #[.val (.int nn), .val (.long qa), .second, .val (.long qb), .second, .val (.long qc), .second, .val (.long qo), .second, .val (.long ql), .second, .val (.int vk), .val (.long ((qa.toUInt64 >>> ((32 : Int32) &&& 0x3f).toInt64.toUInt64).toInt64)), .second, .unset, .unset, .unset, .unset, .unset, .unset, .unset, .unset, .unset, .unset, .unset, .unset, .unset, .unset, .unset, .unset, .unset, .unset, .unset, .unset] []))
  generalize hvo0 : ((qa.toUInt64 >>> ((32 : Int32) &&& 0x3f).toInt64.toUInt64).toInt64) = vo0
  show Go _ _ _ _ _ _ _ (s₁.setTop (mkF m 11 #[.val (.int nn), .val (.long qa), .second, .val (.long qb), .second, .val (.long qc), .second, .val (.long qo), .second, .val (.long ql), .second, .val (.int vk), .val (.long vo0), .second, .unset, .unset, .unset, .unset, .unset, .unset, .unset, .unset, .unset, .unset, .unset, .unset, .unset, .unset, .unset, .unset, .unset, .unset, .unset, .unset] []))
  refine Go.step (fun t k => XS.lloadN X0.here hx rfl (hb hby at_11) rfl k) ?_
  show Go _ _ _ _ _ _ _ (s₁.setTop (mkF m 12 #[.val (.int nn), .val (.long qa), .second, .val (.long qb), .second, .val (.long qc), .second, .val (.long qo), .second, .val (.long ql), .second, .val (.int vk), .val (.long vo0), .second, .unset, .unset, .unset, .unset, .unset, .unset, .unset, .unset, .unset, .unset, .unset, .unset, .unset, .unset, .unset, .unset, .unset, .unset, .unset, .unset] [(.long qa)]))
  refine Go.step (fun t k => X0.ldc2Long hx hown (mvT hZ (hw _ (List.mem_of_getElem? (i := 0) rfl))) (g := (mkF m 12 #[.val (.int nn), .val (.long qa), .second, .val (.long qb), .second, .val (.long qc), .second, .val (.long qo), .second, .val (.long ql), .second, .val (.int vk), .val (.long vo0), .second, .unset, .unset, .unset, .unset, .unset, .unset, .unset, .unset, .unset, .unset, .unset, .unset, .unset, .unset, .unset, .unset, .unset, .unset, .unset, .unset] [(.long qa)])) rfl (hb hby at_12) _ k) ?_
  show Go _ _ _ _ _ _ _ (s₁.setTop (mkF m 15 #[.val (.int nn), .val (.long qa), .second, .val (.long qb), .second, .val (.long qc), .second, .val (.long qo), .second, .val (.long ql), .second, .val (.int vk), .val (.long vo0), .second, .unset, .unset, .unset, .unset, .unset, .unset, .unset, .unset, .unset, .unset, .unset, .unset, .unset, .unset, .unset, .unset, .unset, .unset, .unset, .unset] [(.long (4294967295 : Int64)), (.long qa)]))
  refine Go.step (fun t k => XS.land X0.here hx rfl (hb hby at_15) rfl k) ?_
  show Go _ _ _ _ _ _ _ (s₁.setTop (mkF m 16 #[.val (.int nn), .val (.long qa), .second, .val (.long qb), .second, .val (.long qc), .second, .val (.long qo), .second, .val (.long ql), .second, .val (.int vk), .val (.long vo0), .second, .unset, .unset, .unset, .unset, .unset, .unset, .unset, .unset, .unset, .unset, .unset, .unset, .unset, .unset, .unset, .unset, .unset, .unset, .unset, .unset] [(.long (qa &&& (4294967295 : Int64)))]))
  refine Go.step (fun t k => XS.lconst X0.here hx rfl (hb hby at_16) k) ?_
  show Go _ _ _ _ _ _ _ (s₁.setTop (mkF m 17 #[.val (.int nn), .val (.long qa), .second, .val (.long qb), .second, .val (.long qc), .second, .val (.long qo), .second, .val (.long ql), .second, .val (.int vk), .val (.long vo0), .second, .unset, .unset, .unset, .unset, .unset, .unset, .unset, .unset, .unset, .unset, .unset, .unset, .unset, .unset, .unset, .unset, .unset, .unset, .unset, .unset] [(.long (1 : Int64)), (.long (qa &&& (4294967295 : Int64)))]))
  refine Go.step (fun t k => XS.ladd X0.here hx rfl (hb hby at_17) rfl k) ?_
  show Go _ _ _ _ _ _ _ (s₁.setTop (mkF m 18 #[.val (.int nn), .val (.long qa), .second, .val (.long qb), .second, .val (.long qc), .second, .val (.long qo), .second, .val (.long ql), .second, .val (.int vk), .val (.long vo0), .second, .unset, .unset, .unset, .unset, .unset, .unset, .unset, .unset, .unset, .unset, .unset, .unset, .unset, .unset, .unset, .unset, .unset, .unset, .unset, .unset] [(.long ((qa &&& (4294967295 : Int64)) + (1 : Int64)))]))
  refine Go.step (fun t k => XS.lstore X0.here hx rfl (hb hby at_18) rfl (l' := #[.val (.int nn), .val (.long qa), .second, .val (.long qb), .second, .val (.long qc), .second, .val (.long qo), .second, .val (.long ql), .second, .val (.int vk), .val (.long vo0), .second, .val (.long ((qa &&& (4294967295 : Int64)) + (1 : Int64))), .second, .unset, .unset, .unset, .unset, .unset, .unset, .unset, .unset, .unset, .unset, .unset, .unset, .unset, .unset, .unset, .unset, .unset, .unset]) rfl k) ?_
  show Go _ _ _ _ _ _ _ (s₁.setTop (mkF m 20 #[.val (.int nn), .val (.long qa), .second, .val (.long qb), .second, .val (.long qc), .second, .val (.long qo), .second, .val (.long ql), .second, .val (.int vk), .val (.long vo0), .second, .val (.long ((qa &&& (4294967295 : Int64)) + (1 : Int64))), .second, .unset, .unset, .unset, .unset, .unset, .unset, .unset, .unset, .unset, .unset, .unset, .unset, .unset, .unset, .unset, .unset, .unset, .unset] []))
  generalize hvl0 : ((qa &&& (4294967295 : Int64)) + (1 : Int64)) = vl0
  show Go _ _ _ _ _ _ _ (s₁.setTop (mkF m 20 #[.val (.int nn), .val (.long qa), .second, .val (.long qb), .second, .val (.long qc), .second, .val (.long qo), .second, .val (.long ql), .second, .val (.int vk), .val (.long vo0), .second, .val (.long vl0), .second, .unset, .unset, .unset, .unset, .unset, .unset, .unset, .unset, .unset, .unset, .unset, .unset, .unset, .unset, .unset, .unset, .unset, .unset] []))
  refine Go.step (fun t k => XS.lload X0.here hx rfl (hb hby at_20) rfl k) ?_
  show Go _ _ _ _ _ _ _ (s₁.setTop (mkF m 22 #[.val (.int nn), .val (.long qa), .second, .val (.long qb), .second, .val (.long qc), .second, .val (.long qo), .second, .val (.long ql), .second, .val (.int vk), .val (.long vo0), .second, .val (.long vl0), .second, .unset, .unset, .unset, .unset, .unset, .unset, .unset, .unset, .unset, .unset, .unset, .unset, .unset, .unset, .unset, .unset, .unset, .unset] [(.long vo0)]))
  refine Go.step (fun t k => XS.lload X0.here hx rfl (hb hby at_22) rfl k) ?_
  show Go _ _ _ _ _ _ _ (s₁.setTop (mkF m 24 #[.val (.int nn), .val (.long qa), .second, .val (.long qb), .second, .val (.long qc), .second, .val (.long qo), .second, .val (.long ql), .second, .val (.int vk), .val (.long vo0), .second, .val (.long vl0), .second, .unset, .unset, .unset, .unset, .unset, .unset, .unset, .unset, .unset, .unset, .unset, .unset, .unset, .unset, .unset, .unset, .unset, .unset] [(.long vl0), (.long vo0)]))
  refine Go.step (fun t k => XS.ladd X0.here hx rfl (hb hby at_24) rfl k) ?_
  show Go _ _ _ _ _ _ _ (s₁.setTop (mkF m 25 #[.val (.int nn), .val (.long qa), .second, .val (.long qb), .second, .val (.long qc), .second, .val (.long qo), .second, .val (.long ql), .second, .val (.int vk), .val (.long vo0), .second, .val (.long vl0), .second, .unset, .unset, .unset, .unset, .unset, .unset, .unset, .unset, .unset, .unset, .unset, .unset, .unset, .unset, .unset, .unset, .unset, .unset] [(.long (vo0 + vl0))]))
  refine Go.step (fun t k => XS.lconst X0.here hx rfl (hb hby at_25) k) ?_
  show Go _ _ _ _ _ _ _ (s₁.setTop (mkF m 26 #[.val (.int nn), .val (.long qa), .second, .val (.long qb), .second, .val (.long qc), .second, .val (.long qo), .second, .val (.long ql), .second, .val (.int vk), .val (.long vo0), .second, .val (.long vl0), .second, .unset, .unset, .unset, .unset, .unset, .unset, .unset, .unset, .unset, .unset, .unset, .unset, .unset, .unset, .unset, .unset, .unset, .unset] [(.long (1 : Int64)), (.long (vo0 + vl0))]))
  refine Go.step (fun t k => XS.ladd X0.here hx rfl (hb hby at_26) rfl k) ?_
  show Go _ _ _ _ _ _ _ (s₁.setTop (mkF m 27 #[.val (.int nn), .val (.long qa), .second, .val (.long qb), .second, .val (.long qc), .second, .val (.long qo), .second, .val (.long ql), .second, .val (.int vk), .val (.long vo0), .second, .val (.long vl0), .second, .unset, .unset, .unset, .unset, .unset, .unset, .unset, .unset, .unset, .unset, .unset, .unset, .unset, .unset, .unset, .unset, .unset, .unset] [(.long ((vo0 + vl0) + (1 : Int64)))]))
  refine Go.step (fun t k => XS.lloadN X0.here hx rfl (hb hby at_27) rfl k) ?_
  show Go _ _ _ _ _ _ _ (s₁.setTop (mkF m 28 #[.val (.int nn), .val (.long qa), .second, .val (.long qb), .second, .val (.long qc), .second, .val (.long qo), .second, .val (.long ql), .second, .val (.int vk), .val (.long vo0), .second, .val (.long vl0), .second, .unset, .unset, .unset, .unset, .unset, .unset, .unset, .unset, .unset, .unset, .unset, .unset, .unset, .unset, .unset, .unset, .unset, .unset] [(.long qb), (.long ((vo0 + vl0) + (1 : Int64)))]))
  refine Go.step (fun t k => XS.bipush X0.here hx rfl (hb hby at_28) k) ?_
  show Go _ _ _ _ _ _ _ (s₁.setTop (mkF m 30 #[.val (.int nn), .val (.long qa), .second, .val (.long qb), .second, .val (.long qc), .second, .val (.long qo), .second, .val (.long ql), .second, .val (.int vk), .val (.long vo0), .second, .val (.long vl0), .second, .unset, .unset, .unset, .unset, .unset, .unset, .unset, .unset, .unset, .unset, .unset, .unset, .unset, .unset, .unset, .unset, .unset, .unset] [(.int (32 : Int32)), (.long qb), (.long ((vo0 + vl0) + (1 : Int64)))]))
  refine Go.step (fun t k => XS.lushr X0.here hx rfl (hb hby at_30) rfl k) ?_
  show Go _ _ _ _ _ _ _ (s₁.setTop (mkF m 31 #[.val (.int nn), .val (.long qa), .second, .val (.long qb), .second, .val (.long qc), .second, .val (.long qo), .second, .val (.long ql), .second, .val (.int vk), .val (.long vo0), .second, .val (.long vl0), .second, .unset, .unset, .unset, .unset, .unset, .unset, .unset, .unset, .unset, .unset, .unset, .unset, .unset, .unset, .unset, .unset, .unset, .unset] [(.long ((qb.toUInt64 >>> ((32 : Int32) &&& 0x3f).toInt64.toUInt64).toInt64)), (.long ((vo0 + vl0) + (1 : Int64)))]))
  refine Go.step (fun t k => XS.ladd X0.here hx rfl (hb hby at_31) rfl k) ?_
  show Go _ _ _ _ _ _ _ (s₁.setTop (mkF m 32 #[.val (.int nn), .val (.long qa), .second, .val (.long qb), .second, .val (.long qc), .second, .val (.long qo), .second, .val (.long ql), .second, .val (.int vk), .val (.long vo0), .second, .val (.long vl0), .second, .unset, .unset, .unset, .unset, .unset, .unset, .unset, .unset, .unset, .unset, .unset, .unset, .unset, .unset, .unset, .unset, .unset, .unset] [(.long (((vo0 + vl0) + (1 : Int64)) + ((qb.toUInt64 >>> ((32 : Int32) &&& 0x3f).toInt64.toUInt64).toInt64)))]))
  refine Go.step (fun t k => XS.lstore X0.here hx rfl (hb hby at_32) rfl (l' := #[.val (.int nn), .val (.long qa), .second, .val (.long qb), .second, .val (.long qc), .second, .val (.long qo), .second, .val (.long ql), .second, .val (.int vk), .val (.long vo0), .second, .val (.long vl0), .second, .val (.long (((vo0 + vl0) + (1 : Int64)) + ((qb.toUInt64 >>> ((32 : Int32) &&& 0x3f).toInt64.toUInt64).toInt64))), .second, .unset, .unset, .unset, .unset, .unset, .unset, .unset, .unset, .unset, .unset, .unset, .unset, .unset, .unset, .unset, .unset]) rfl k) ?_
  show Go _ _ _ _ _ _ _ (s₁.setTop (mkF m 34 #[.val (.int nn), .val (.long qa), .second, .val (.long qb), .second, .val (.long qc), .second, .val (.long qo), .second, .val (.long ql), .second, .val (.int vk), .val (.long vo0), .second, .val (.long vl0), .second, .val (.long (((vo0 + vl0) + (1 : Int64)) + ((qb.toUInt64 >>> ((32 : Int32) &&& 0x3f).toInt64.toUInt64).toInt64))), .second, .unset, .unset, .unset, .unset, .unset, .unset, .unset, .unset, .unset, .unset, .unset, .unset, .unset, .unset, .unset, .unset] []))
  generalize hvo1 : (((vo0 + vl0) + (1 : Int64)) + ((qb.toUInt64 >>> ((32 : Int32) &&& 0x3f).toInt64.toUInt64).toInt64)) = vo1
  show Go _ _ _ _ _ _ _ (s₁.setTop (mkF m 34 #[.val (.int nn), .val (.long qa), .second, .val (.long qb), .second, .val (.long qc), .second, .val (.long qo), .second, .val (.long ql), .second, .val (.int vk), .val (.long vo0), .second, .val (.long vl0), .second, .val (.long vo1), .second, .unset, .unset, .unset, .unset, .unset, .unset, .unset, .unset, .unset, .unset, .unset, .unset, .unset, .unset, .unset, .unset] []))
  refine Go.step (fun t k => XS.lloadN X0.here hx rfl (hb hby at_34) rfl k) ?_
  show Go _ _ _ _ _ _ _ (s₁.setTop (mkF m 35 #[.val (.int nn), .val (.long qa), .second, .val (.long qb), .second, .val (.long qc), .second, .val (.long qo), .second, .val (.long ql), .second, .val (.int vk), .val (.long vo0), .second, .val (.long vl0), .second, .val (.long vo1), .second, .unset, .unset, .unset, .unset, .unset, .unset, .unset, .unset, .unset, .unset, .unset, .unset, .unset, .unset, .unset, .unset] [(.long qb)]))
  refine Go.step (fun t k => X0.ldc2Long hx hown (mvT hZ (hw _ (List.mem_of_getElem? (i := 0) rfl))) (g := (mkF m 35 #[.val (.int nn), .val (.long qa), .second, .val (.long qb), .second, .val (.long qc), .second, .val (.long qo), .second, .val (.long ql), .second, .val (.int vk), .val (.long vo0), .second, .val (.long vl0), .second, .val (.long vo1), .second, .unset, .unset, .unset, .unset, .unset, .unset, .unset, .unset, .unset, .unset, .unset, .unset, .unset, .unset, .unset, .unset] [(.long qb)])) rfl (hb hby at_35) _ k) ?_
  show Go _ _ _ _ _ _ _ (s₁.setTop (mkF m 38 #[.val (.int nn), .val (.long qa), .second, .val (.long qb), .second, .val (.long qc), .second, .val (.long qo), .second, .val (.long ql), .second, .val (.int vk), .val (.long vo0), .second, .val (.long vl0), .second, .val (.long vo1), .second, .unset, .unset, .unset, .unset, .unset, .unset, .unset, .unset, .unset, .unset, .unset, .unset, .unset, .unset, .unset, .unset] [(.long (4294967295 : Int64)), (.long qb)]))
  refine Go.step (fun t k => XS.land X0.here hx rfl (hb hby at_38) rfl k) ?_
  show Go _ _ _ _ _ _ _ (s₁.setTop (mkF m 39 #[.val (.int nn), .val (.long qa), .second, .val (.long qb), .second, .val (.long qc), .second, .val (.long qo), .second, .val (.long ql), .second, .val (.int vk), .val (.long vo0), .second, .val (.long vl0), .second, .val (.long vo1), .second, .unset, .unset, .unset, .unset, .unset, .unset, .unset, .unset, .unset, .unset, .unset, .unset, .unset, .unset, .unset, .unset] [(.long (qb &&& (4294967295 : Int64)))]))
  refine Go.step (fun t k => XS.lconst X0.here hx rfl (hb hby at_39) k) ?_
  show Go _ _ _ _ _ _ _ (s₁.setTop (mkF m 40 #[.val (.int nn), .val (.long qa), .second, .val (.long qb), .second, .val (.long qc), .second, .val (.long qo), .second, .val (.long ql), .second, .val (.int vk), .val (.long vo0), .second, .val (.long vl0), .second, .val (.long vo1), .second, .unset, .unset, .unset, .unset, .unset, .unset, .unset, .unset, .unset, .unset, .unset, .unset, .unset, .unset, .unset, .unset] [(.long (1 : Int64)), (.long (qb &&& (4294967295 : Int64)))]))
  refine Go.step (fun t k => XS.ladd X0.here hx rfl (hb hby at_40) rfl k) ?_
  show Go _ _ _ _ _ _ _ (s₁.setTop (mkF m 41 #[.val (.int nn), .val (.long qa), .second, .val (.long qb), .second, .val (.long qc), .second, .val (.long qo), .second, .val (.long ql), .second, .val (.int vk), .val (.long vo0), .second, .val (.long vl0), .second, .val (.long vo1), .second, .unset, .unset, .unset, .unset, .unset, .unset, .unset, .unset, .unset, .unset, .unset, .unset, .unset, .unset, .unset, .unset] [(.long ((qb &&& (4294967295 : Int64)) + (1 : Int64)))]))
  refine Go.step (fun t k => XS.lstore X0.here hx rfl (hb hby at_41) rfl (l' := #[.val (.int nn), .val (.long qa), .second, .val (.long qb), .second, .val (.long qc), .second, .val (.long qo), .second, .val (.long ql), .second, .val (.int vk), .val (.long vo0), .second, .val (.long vl0), .second, .val (.long vo1), .second, .val (.long ((qb &&& (4294967295 : Int64)) + (1 : Int64))), .second, .unset, .unset, .unset, .unset, .unset, .unset, .unset, .unset, .unset, .unset, .unset, .unset, .unset, .unset]) rfl k) ?_
  show Go _ _ _ _ _ _ _ (s₁.setTop (mkF m 43 #[.val (.int nn), .val (.long qa), .second, .val (.long qb), .second, .val (.long qc), .second, .val (.long qo), .second, .val (.long ql), .second, .val (.int vk), .val (.long vo0), .second, .val (.long vl0), .second, .val (.long vo1), .second, .val (.long ((qb &&& (4294967295 : Int64)) + (1 : Int64))), .second, .unset, .unset, .unset, .unset, .unset, .unset, .unset, .unset, .unset, .unset, .unset, .unset, .unset, .unset] []))
  generalize hvl1 : ((qb &&& (4294967295 : Int64)) + (1 : Int64)) = vl1
  show Go _ _ _ _ _ _ _ (s₁.setTop (mkF m 43 #[.val (.int nn), .val (.long qa), .second, .val (.long qb), .second, .val (.long qc), .second, .val (.long qo), .second, .val (.long ql), .second, .val (.int vk), .val (.long vo0), .second, .val (.long vl0), .second, .val (.long vo1), .second, .val (.long vl1), .second, .unset, .unset, .unset, .unset, .unset, .unset, .unset, .unset, .unset, .unset, .unset, .unset, .unset, .unset] []))
  refine Go.step (fun t k => XS.lload X0.here hx rfl (hb hby at_43) rfl k) ?_
  show Go _ _ _ _ _ _ _ (s₁.setTop (mkF m 45 #[.val (.int nn), .val (.long qa), .second, .val (.long qb), .second, .val (.long qc), .second, .val (.long qo), .second, .val (.long ql), .second, .val (.int vk), .val (.long vo0), .second, .val (.long vl0), .second, .val (.long vo1), .second, .val (.long vl1), .second, .unset, .unset, .unset, .unset, .unset, .unset, .unset, .unset, .unset, .unset, .unset, .unset, .unset, .unset] [(.long vo1)]))
  refine Go.step (fun t k => XS.lload X0.here hx rfl (hb hby at_45) rfl k) ?_
  show Go _ _ _ _ _ _ _ (s₁.setTop (mkF m 47 #[.val (.int nn), .val (.long qa), .second, .val (.long qb), .second, .val (.long qc), .second, .val (.long qo), .second, .val (.long ql), .second, .val (.int vk), .val (.long vo0), .second, .val (.long vl0), .second, .val (.long vo1), .second, .val (.long vl1), .second, .unset, .unset, .unset, .unset, .unset, .unset, .unset, .unset, .unset, .unset, .unset, .unset, .unset, .unset] [(.long vl1), (.long vo1)]))
  refine Go.step (fun t k => XS.ladd X0.here hx rfl (hb hby at_47) rfl k) ?_
  show Go _ _ _ _ _ _ _ (s₁.setTop (mkF m 48 #[.val (.int nn), .val (.long qa), .second, .val (.long qb), .second, .val (.long qc), .second, .val (.long qo), .second, .val (.long ql), .second, .val (.int vk), .val (.long vo0), .second, .val (.long vl0), .second, .val (.long vo1), .second, .val (.long vl1), .second, .unset, .unset, .unset, .unset, .unset, .unset, .unset, .unset, .unset, .unset, .unset, .unset, .unset, .unset] [(.long (vo1 + vl1))]))
  refine Go.step (fun t k => XS.lconst X0.here hx rfl (hb hby at_48) k) ?_
  show Go _ _ _ _ _ _ _ (s₁.setTop (mkF m 49 #[.val (.int nn), .val (.long qa), .second, .val (.long qb), .second, .val (.long qc), .second, .val (.long qo), .second, .val (.long ql), .second, .val (.int vk), .val (.long vo0), .second, .val (.long vl0), .second, .val (.long vo1), .second, .val (.long vl1), .second, .unset, .unset, .unset, .unset, .unset, .unset, .unset, .unset, .unset, .unset, .unset, .unset, .unset, .unset] [(.long (1 : Int64)), (.long (vo1 + vl1))]))
  refine Go.step (fun t k => XS.ladd X0.here hx rfl (hb hby at_49) rfl k) ?_
  show Go _ _ _ _ _ _ _ (s₁.setTop (mkF m 50 #[.val (.int nn), .val (.long qa), .second, .val (.long qb), .second, .val (.long qc), .second, .val (.long qo), .second, .val (.long ql), .second, .val (.int vk), .val (.long vo0), .second, .val (.long vl0), .second, .val (.long vo1), .second, .val (.long vl1), .second, .unset, .unset, .unset, .unset, .unset, .unset, .unset, .unset, .unset, .unset, .unset, .unset, .unset, .unset] [(.long ((vo1 + vl1) + (1 : Int64)))]))
  refine Go.step (fun t k => XS.lload X0.here hx rfl (hb hby at_50) rfl k) ?_
  show Go _ _ _ _ _ _ _ (s₁.setTop (mkF m 52 #[.val (.int nn), .val (.long qa), .second, .val (.long qb), .second, .val (.long qc), .second, .val (.long qo), .second, .val (.long ql), .second, .val (.int vk), .val (.long vo0), .second, .val (.long vl0), .second, .val (.long vo1), .second, .val (.long vl1), .second, .unset, .unset, .unset, .unset, .unset, .unset, .unset, .unset, .unset, .unset, .unset, .unset, .unset, .unset] [(.long qc), (.long ((vo1 + vl1) + (1 : Int64)))]))
  refine Go.step (fun t k => XS.bipush X0.here hx rfl (hb hby at_52) k) ?_
  show Go _ _ _ _ _ _ _ (s₁.setTop (mkF m 54 #[.val (.int nn), .val (.long qa), .second, .val (.long qb), .second, .val (.long qc), .second, .val (.long qo), .second, .val (.long ql), .second, .val (.int vk), .val (.long vo0), .second, .val (.long vl0), .second, .val (.long vo1), .second, .val (.long vl1), .second, .unset, .unset, .unset, .unset, .unset, .unset, .unset, .unset, .unset, .unset, .unset, .unset, .unset, .unset] [(.int (32 : Int32)), (.long qc), (.long ((vo1 + vl1) + (1 : Int64)))]))
  refine Go.step (fun t k => XS.lushr X0.here hx rfl (hb hby at_54) rfl k) ?_
  show Go _ _ _ _ _ _ _ (s₁.setTop (mkF m 55 #[.val (.int nn), .val (.long qa), .second, .val (.long qb), .second, .val (.long qc), .second, .val (.long qo), .second, .val (.long ql), .second, .val (.int vk), .val (.long vo0), .second, .val (.long vl0), .second, .val (.long vo1), .second, .val (.long vl1), .second, .unset, .unset, .unset, .unset, .unset, .unset, .unset, .unset, .unset, .unset, .unset, .unset, .unset, .unset] [(.long ((qc.toUInt64 >>> ((32 : Int32) &&& 0x3f).toInt64.toUInt64).toInt64)), (.long ((vo1 + vl1) + (1 : Int64)))]))
  refine Go.step (fun t k => XS.ladd X0.here hx rfl (hb hby at_55) rfl k) ?_
  show Go _ _ _ _ _ _ _ (s₁.setTop (mkF m 56 #[.val (.int nn), .val (.long qa), .second, .val (.long qb), .second, .val (.long qc), .second, .val (.long qo), .second, .val (.long ql), .second, .val (.int vk), .val (.long vo0), .second, .val (.long vl0), .second, .val (.long vo1), .second, .val (.long vl1), .second, .unset, .unset, .unset, .unset, .unset, .unset, .unset, .unset, .unset, .unset, .unset, .unset, .unset, .unset] [(.long (((vo1 + vl1) + (1 : Int64)) + ((qc.toUInt64 >>> ((32 : Int32) &&& 0x3f).toInt64.toUInt64).toInt64)))]))
  refine Go.step (fun t k => XS.lstore X0.here hx rfl (hb hby at_56) rfl (l' := #[.val (.int nn), .val (.long qa), .second, .val (.long qb), .second, .val (.long qc), .second, .val (.long qo), .second, .val (.long ql), .second, .val (.int vk), .val (.long vo0), .second, .val (.long vl0), .second, .val (.long vo1), .second, .val (.long vl1), .second, .val (.long (((vo1 + vl1) + (1 : Int64)) + ((qc.toUInt64 >>> ((32 : Int32) &&& 0x3f).toInt64.toUInt64).toInt64))), .second, .unset, .unset, .unset, .unset, .unset, .unset, .unset, .unset, .unset, .unset, .unset, .unset]) rfl k) ?_
  show Go _ _ _ _ _ _ _ (s₁.setTop (mkF m 58 #[.val (.int nn), .val (.long qa), .second, .val (.long qb), .second, .val (.long qc), .second, .val (.long qo), .second, .val (.long ql), .second, .val (.int vk), .val (.long vo0), .second, .val (.long vl0), .second, .val (.long vo1), .second, .val (.long vl1), .second, .val (.long (((vo1 + vl1) + (1 : Int64)) + ((qc.toUInt64 >>> ((32 : Int32) &&& 0x3f).toInt64.toUInt64).toInt64))), .second, .unset, .unset, .unset, .unset, .unset, .unset, .unset, .unset, .unset, .unset, .unset, .unset] []))
  generalize hvo2 : (((vo1 + vl1) + (1 : Int64)) + ((qc.toUInt64 >>> ((32 : Int32) &&& 0x3f).toInt64.toUInt64).toInt64)) = vo2
  show Go _ _ _ _ _ _ _ (s₁.setTop (mkF m 58 #[.val (.int nn), .val (.long qa), .second, .val (.long qb), .second, .val (.long qc), .second, .val (.long qo), .second, .val (.long ql), .second, .val (.int vk), .val (.long vo0), .second, .val (.long vl0), .second, .val (.long vo1), .second, .val (.long vl1), .second, .val (.long vo2), .second, .unset, .unset, .unset, .unset, .unset, .unset, .unset, .unset, .unset, .unset, .unset, .unset] []))
  refine Go.step (fun t k => XS.lload X0.here hx rfl (hb hby at_58) rfl k) ?_
  show Go _ _ _ _ _ _ _ (s₁.setTop (mkF m 60 #[.val (.int nn), .val (.long qa), .second, .val (.long qb), .second, .val (.long qc), .second, .val (.long qo), .second, .val (.long ql), .second, .val (.int vk), .val (.long vo0), .second, .val (.long vl0), .second, .val (.long vo1), .second, .val (.long vl1), .second, .val (.long vo2), .second, .unset, .unset, .unset, .unset, .unset, .unset, .unset, .unset, .unset, .unset, .unset, .unset] [(.long qc)]))
  refine Go.step (fun t k => X0.ldc2Long hx hown (mvT hZ (hw _ (List.mem_of_getElem? (i := 0) rfl))) (g := (mkF m 60 #[.val (.int nn), .val (.long qa), .second, .val (.long qb), .second, .val (.long qc), .second, .val (.long qo), .second, .val (.long ql), .second, .val (.int vk), .val (.long vo0), .second, .val (.long vl0), .second, .val (.long vo1), .second, .val (.long vl1), .second, .val (.long vo2), .second, .unset, .unset, .unset, .unset, .unset, .unset, .unset, .unset, .unset, .unset, .unset, .unset] [(.long qc)])) rfl (hb hby at_60) _ k) ?_
  show Go _ _ _ _ _ _ _ (s₁.setTop (mkF m 63 #[.val (.int nn), .val (.long qa), .second, .val (.long qb), .second, .val (.long qc), .second, .val (.long qo), .second, .val (.long ql), .second, .val (.int vk), .val (.long vo0), .second, .val (.long vl0), .second, .val (.long vo1), .second, .val (.long vl1), .second, .val (.long vo2), .second, .unset, .unset, .unset, .unset, .unset, .unset, .unset, .unset, .unset, .unset, .unset, .unset] [(.long (4294967295 : Int64)), (.long qc)]))
  refine Go.step (fun t k => XS.land X0.here hx rfl (hb hby at_63) rfl k) ?_
  show Go _ _ _ _ _ _ _ (s₁.setTop (mkF m 64 #[.val (.int nn), .val (.long qa), .second, .val (.long qb), .second, .val (.long qc), .second, .val (.long qo), .second, .val (.long ql), .second, .val (.int vk), .val (.long vo0), .second, .val (.long vl0), .second, .val (.long vo1), .second, .val (.long vl1), .second, .val (.long vo2), .second, .unset, .unset, .unset, .unset, .unset, .unset, .unset, .unset, .unset, .unset, .unset, .unset] [(.long (qc &&& (4294967295 : Int64)))]))
  refine Go.step (fun t k => XS.lconst X0.here hx rfl (hb hby at_64) k) ?_
  show Go _ _ _ _ _ _ _ (s₁.setTop (mkF m 65 #[.val (.int nn), .val (.long qa), .second, .val (.long qb), .second, .val (.long qc), .second, .val (.long qo), .second, .val (.long ql), .second, .val (.int vk), .val (.long vo0), .second, .val (.long vl0), .second, .val (.long vo1), .second, .val (.long vl1), .second, .val (.long vo2), .second, .unset, .unset, .unset, .unset, .unset, .unset, .unset, .unset, .unset, .unset, .unset, .unset] [(.long (1 : Int64)), (.long (qc &&& (4294967295 : Int64)))]))
  refine Go.step (fun t k => XS.ladd X0.here hx rfl (hb hby at_65) rfl k) ?_
  show Go _ _ _ _ _ _ _ (s₁.setTop (mkF m 66 #[.val (.int nn), .val (.long qa), .second, .val (.long qb), .second, .val (.long qc), .second, .val (.long qo), .second, .val (.long ql), .second, .val (.int vk), .val (.long vo0), .second, .val (.long vl0), .second, .val (.long vo1), .second, .val (.long vl1), .second, .val (.long vo2), .second, .unset, .unset, .unset, .unset, .unset, .unset, .unset, .unset, .unset, .unset, .unset, .unset] [(.long ((qc &&& (4294967295 : Int64)) + (1 : Int64)))]))
  refine Go.step (fun t k => XS.lstore X0.here hx rfl (hb hby at_66) rfl (l' := #[.val (.int nn), .val (.long qa), .second, .val (.long qb), .second, .val (.long qc), .second, .val (.long qo), .second, .val (.long ql), .second, .val (.int vk), .val (.long vo0), .second, .val (.long vl0), .second, .val (.long vo1), .second, .val (.long vl1), .second, .val (.long vo2), .second, .val (.long ((qc &&& (4294967295 : Int64)) + (1 : Int64))), .second, .unset, .unset, .unset, .unset, .unset, .unset, .unset, .unset, .unset, .unset]) rfl k) ?_
  show Go _ _ _ _ _ _ _ (s₁.setTop (mkF m 68 #[.val (.int nn), .val (.long qa), .second, .val (.long qb), .second, .val (.long qc), .second, .val (.long qo), .second, .val (.long ql), .second, .val (.int vk), .val (.long vo0), .second, .val (.long vl0), .second, .val (.long vo1), .second, .val (.long vl1), .second, .val (.long vo2), .second, .val (.long ((qc &&& (4294967295 : Int64)) + (1 : Int64))), .second, .unset, .unset, .unset, .unset, .unset, .unset, .unset, .unset, .unset, .unset] []))
  generalize hvl2 : ((qc &&& (4294967295 : Int64)) + (1 : Int64)) = vl2
  show Go _ _ _ _ _ _ _ (s₁.setTop (mkF m 68 #[.val (.int nn), .val (.long qa), .second, .val (.long qb), .second, .val (.long qc), .second, .val (.long qo), .second, .val (.long ql), .second, .val (.int vk), .val (.long vo0), .second, .val (.long vl0), .second, .val (.long vo1), .second, .val (.long vl1), .second, .val (.long vo2), .second, .val (.long vl2), .second, .unset, .unset, .unset, .unset, .unset, .unset, .unset, .unset, .unset, .unset] []))
  refine Go.step (fun t k => XS.lload X0.here hx rfl (hb hby at_68) rfl k) ?_
  show Go _ _ _ _ _ _ _ (s₁.setTop (mkF m 70 #[.val (.int nn), .val (.long qa), .second, .val (.long qb), .second, .val (.long qc), .second, .val (.long qo), .second, .val (.long ql), .second, .val (.int vk), .val (.long vo0), .second, .val (.long vl0), .second, .val (.long vo1), .second, .val (.long vl1), .second, .val (.long vo2), .second, .val (.long vl2), .second, .unset, .unset, .unset, .unset, .unset, .unset, .unset, .unset, .unset, .unset] [(.long qo)]))
  refine Go.step (fun t k => X0.ldc2Long hx hown (mvT hZ (hw _ (List.mem_of_getElem? (i := 1) rfl))) (g := (mkF m 70 #[.val (.int nn), .val (.long qa), .second, .val (.long qb), .second, .val (.long qc), .second, .val (.long qo), .second, .val (.long ql), .second, .val (.int vk), .val (.long vo0), .second, .val (.long vl0), .second, .val (.long vo1), .second, .val (.long vl1), .second, .val (.long vo2), .second, .val (.long vl2), .second, .unset, .unset, .unset, .unset, .unset, .unset, .unset, .unset, .unset, .unset] [(.long qo)])) rfl (hb hby at_70) _ k) ?_
  show Go _ _ _ _ _ _ _ (s₁.setTop (mkF m 73 #[.val (.int nn), .val (.long qa), .second, .val (.long qb), .second, .val (.long qc), .second, .val (.long qo), .second, .val (.long ql), .second, .val (.int vk), .val (.long vo0), .second, .val (.long vl0), .second, .val (.long vo1), .second, .val (.long vl1), .second, .val (.long vo2), .second, .val (.long vl2), .second, .unset, .unset, .unset, .unset, .unset, .unset, .unset, .unset, .unset, .unset] [(.long (68719476735 : Int64)), (.long qo)]))
  refine Go.step (fun t k => XS.land X0.here hx rfl (hb hby at_73) rfl k) ?_
  show Go _ _ _ _ _ _ _ (s₁.setTop (mkF m 74 #[.val (.int nn), .val (.long qa), .second, .val (.long qb), .second, .val (.long qc), .second, .val (.long qo), .second, .val (.long ql), .second, .val (.int vk), .val (.long vo0), .second, .val (.long vl0), .second, .val (.long vo1), .second, .val (.long vl1), .second, .val (.long vo2), .second, .val (.long vl2), .second, .unset, .unset, .unset, .unset, .unset, .unset, .unset, .unset, .unset, .unset] [(.long (qo &&& (68719476735 : Int64)))]))
  refine Go.step (fun t k => XS.lstore X0.here hx rfl (hb hby at_74) rfl (l' := #[.val (.int nn), .val (.long qa), .second, .val (.long qb), .second, .val (.long qc), .second, .val (.long qo), .second, .val (.long ql), .second, .val (.int vk), .val (.long vo0), .second, .val (.long vl0), .second, .val (.long vo1), .second, .val (.long vl1), .second, .val (.long vo2), .second, .val (.long vl2), .second, .val (.long (qo &&& (68719476735 : Int64))), .second, .unset, .unset, .unset, .unset, .unset, .unset, .unset, .unset]) rfl k) ?_
  show Go _ _ _ _ _ _ _ (s₁.setTop (mkF m 76 #[.val (.int nn), .val (.long qa), .second, .val (.long qb), .second, .val (.long qc), .second, .val (.long qo), .second, .val (.long ql), .second, .val (.int vk), .val (.long vo0), .second, .val (.long vl0), .second, .val (.long vo1), .second, .val (.long vl1), .second, .val (.long vo2), .second, .val (.long vl2), .second, .val (.long (qo &&& (68719476735 : Int64))), .second, .unset, .unset, .unset, .unset, .unset, .unset, .unset, .unset] []))
  generalize hvof : (qo &&& (68719476735 : Int64)) = vof
  show Go _ _ _ _ _ _ _ (s₁.setTop (mkF m 76 #[.val (.int nn), .val (.long qa), .second, .val (.long qb), .second, .val (.long qc), .second, .val (.long qo), .second, .val (.long ql), .second, .val (.int vk), .val (.long vo0), .second, .val (.long vl0), .second, .val (.long vo1), .second, .val (.long vl1), .second, .val (.long vo2), .second, .val (.long vl2), .second, .val (.long vof), .second, .unset, .unset, .unset, .unset, .unset, .unset, .unset, .unset] []))
  refine Go.step (fun t k => XS.lload X0.here hx rfl (hb hby at_76) rfl k) ?_
  show Go _ _ _ _ _ _ _ (s₁.setTop (mkF m 78 #[.val (.int nn), .val (.long qa), .second, .val (.long qb), .second, .val (.long qc), .second, .val (.long qo), .second, .val (.long ql), .second, .val (.int vk), .val (.long vo0), .second, .val (.long vl0), .second, .val (.long vo1), .second, .val (.long vl1), .second, .val (.long vo2), .second, .val (.long vl2), .second, .val (.long vof), .second, .unset, .unset, .unset, .unset, .unset, .unset, .unset, .unset] [(.long ql)]))
  refine Go.step (fun t k => X0.ldc2Long hx hown (mvT hZ (hw _ (List.mem_of_getElem? (i := 2) rfl))) (g := (mkF m 78 #[.val (.int nn), .val (.long qa), .second, .val (.long qb), .second, .val (.long qc), .second, .val (.long qo), .second, .val (.long ql), .second, .val (.int vk), .val (.long vo0), .second, .val (.long vl0), .second, .val (.long vo1), .second, .val (.long vl1), .second, .val (.long vo2), .second, .val (.long vl2), .second, .val (.long vof), .second, .unset, .unset, .unset, .unset, .unset, .unset, .unset, .unset] [(.long ql)])) rfl (hb hby at_78) _ k) ?_
  show Go _ _ _ _ _ _ _ (s₁.setTop (mkF m 81 #[.val (.int nn), .val (.long qa), .second, .val (.long qb), .second, .val (.long qc), .second, .val (.long qo), .second, .val (.long ql), .second, .val (.int vk), .val (.long vo0), .second, .val (.long vl0), .second, .val (.long vo1), .second, .val (.long vl1), .second, .val (.long vo2), .second, .val (.long vl2), .second, .val (.long vof), .second, .unset, .unset, .unset, .unset, .unset, .unset, .unset, .unset] [(.long (68719476736 : Int64)), (.long ql)]))
  refine Go.step (fun t k => XS.lrem X0.here hx rfl (hb hby at_81) rfl (by decide) k) ?_
  show Go _ _ _ _ _ _ _ (s₁.setTop (mkF m 82 #[.val (.int nn), .val (.long qa), .second, .val (.long qb), .second, .val (.long qc), .second, .val (.long qo), .second, .val (.long ql), .second, .val (.int vk), .val (.long vo0), .second, .val (.long vl0), .second, .val (.long vo1), .second, .val (.long vl1), .second, .val (.long vo2), .second, .val (.long vl2), .second, .val (.long vof), .second, .unset, .unset, .unset, .unset, .unset, .unset, .unset, .unset] [(.long (ql - (ql / (68719476736 : Int64)) * (68719476736 : Int64)))]))
  refine Go.step (fun t k => XS.lstore X0.here hx rfl (hb hby at_82) rfl (l' := #[.val (.int nn), .val (.long qa), .second, .val (.long qb), .second, .val (.long qc), .second, .val (.long qo), .second, .val (.long ql), .second, .val (.int vk), .val (.long vo0), .second, .val (.long vl0), .second, .val (.long vo1), .second, .val (.long vl1), .second, .val (.long vo2), .second, .val (.long vl2), .second, .val (.long vof), .second, .val (.long (ql - (ql / (68719476736 : Int64)) * (68719476736 : Int64))), .second, .unset, .unset, .unset, .unset, .unset, .unset]) rfl k) ?_
  show Go _ _ _ _ _ _ _ (s₁.setTop (mkF m 84 #[.val (.int nn), .val (.long qa), .second, .val (.long qb), .second, .val (.long qc), .second, .val (.long qo), .second, .val (.long ql), .second, .val (.int vk), .val (.long vo0), .second, .val (.long vl0), .second, .val (.long vo1), .second, .val (.long vl1), .second, .val (.long vo2), .second, .val (.long vl2), .second, .val (.long vof), .second, .val (.long (ql - (ql / (68719476736 : Int64)) * (68719476736 : Int64))), .second, .unset, .unset, .unset, .unset, .unset, .unset] []))
  generalize hvln : (ql - (ql / (68719476736 : Int64)) * (68719476736 : Int64)) = vln
  show Go _ _ _ _ _ _ _ (s₁.setTop (mkF m 84 #[.val (.int nn), .val (.long qa), .second, .val (.long qb), .second, .val (.long qc), .second, .val (.long qo), .second, .val (.long ql), .second, .val (.int vk), .val (.long vo0), .second, .val (.long vl0), .second, .val (.long vo1), .second, .val (.long vl1), .second, .val (.long vo2), .second, .val (.long vl2), .second, .val (.long vof), .second, .val (.long vln), .second, .unset, .unset, .unset, .unset, .unset, .unset] []))
  refine Go.step (fun t k => XS.iconst X0.here hx rfl (hb hby at_84) k) ?_
  show Go _ _ _ _ _ _ _ (s₁.setTop (mkF m 85 #[.val (.int nn), .val (.long qa), .second, .val (.long qb), .second, .val (.long qc), .second, .val (.long qo), .second, .val (.long ql), .second, .val (.int vk), .val (.long vo0), .second, .val (.long vl0), .second, .val (.long vo1), .second, .val (.long vl1), .second, .val (.long vo2), .second, .val (.long vl2), .second, .val (.long vof), .second, .val (.long vln), .second, .unset, .unset, .unset, .unset, .unset, .unset] [(.int (0 : Int32))]))
  obtain ⟨T1, h1, k1, X1, e1, E1, A1, st1⟩ := newP X0 hx hZ (hw _ (List.mem_of_getElem? (i := 3) rfl)) e0 (g := (mkF m 85 #[.val (.int nn), .val (.long qa), .second, .val (.long qb), .second, .val (.long qc), .second, .val (.long qo), .second, .val (.long ql), .second, .val (.int vk), .val (.long vo0), .second, .val (.long vl0), .second, .val (.long vo1), .second, .val (.long vl1), .second, .val (.long vo2), .second, .val (.long vl2), .second, .val (.long vof), .second, .val (.long vln), .second, .unset, .unset, .unset, .unset, .unset, .unset] [(.int (0 : Int32))])) rfl (hb hby at_85) rfl (by decide) (cap := 0) (by decide) (by decide) (by decide) (by decide)
  obtain ⟨r0, gz1⟩ : ∃ z, z = h0.size := ⟨_, rfl⟩
  have g_r0 : n0 ≤ r0 := Nat.le_trans Z0 (Nat.le_of_eq gz1.symm)
  rw [← gz1] at A1 st1
  have Z1 := Nat.le_trans Z0 E1.1
  have A_r0 : AryJ Z h1 r0 0 (fun _ => (0 : Int64)) := Ary.new A1 rfl
  refine Go.step st1 ?_
  show Go _ _ _ _ _ _ _ (T1.setTop (mkF m 87 #[.val (.int nn), .val (.long qa), .second, .val (.long qb), .second, .val (.long qc), .second, .val (.long qo), .second, .val (.long ql), .second, .val (.int vk), .val (.long vo0), .second, .val (.long vl0), .second, .val (.long vo1), .second, .val (.long vl1), .second, .val (.long vo2), .second, .val (.long vl2), .second, .val (.long vof), .second, .val (.long vln), .second, .unset, .unset, .unset, .unset, .unset, .unset] [(.ref r0)]))
  refine Go.step (fun t k => XS.astore X1.here hx rfl (hb hby at_87) rfl rfl (l' := #[.val (.int nn), .val (.long qa), .second, .val (.long qb), .second, .val (.long qc), .second, .val (.long qo), .second, .val (.long ql), .second, .val (.int vk), .val (.long vo0), .second, .val (.long vl0), .second, .val (.long vo1), .second, .val (.long vl1), .second, .val (.long vo2), .second, .val (.long vl2), .second, .val (.long vof), .second, .val (.long vln), .second, .val (.ref r0), .unset, .unset, .unset, .unset, .unset]) rfl k) ?_
  show Go _ _ _ _ _ _ _ (T1.setTop (mkF m 89 #[.val (.int nn), .val (.long qa), .second, .val (.long qb), .second, .val (.long qc), .second, .val (.long qo), .second, .val (.long ql), .second, .val (.int vk), .val (.long vo0), .second, .val (.long vl0), .second, .val (.long vo1), .second, .val (.long vl1), .second, .val (.long vo2), .second, .val (.long vl2), .second, .val (.long vof), .second, .val (.long vln), .second, .val (.ref r0), .unset, .unset, .unset, .unset, .unset] []))
  refine Go.step (fun t k => XS.iconst X1.here hx rfl (hb hby at_89) k) ?_
  show Go _ _ _ _ _ _ _ (T1.setTop (mkF m 90 #[.val (.int nn), .val (.long qa), .second, .val (.long qb), .second, .val (.long qc), .second, .val (.long qo), .second, .val (.long ql), .second, .val (.int vk), .val (.long vo0), .second, .val (.long vl0), .second, .val (.long vo1), .second, .val (.long vl1), .second, .val (.long vo2), .second, .val (.long vl2), .second, .val (.long vof), .second, .val (.long vln), .second, .val (.ref r0), .unset, .unset, .unset, .unset, .unset] [(.int (2 : Int32))]))
  obtain ⟨T2, h2, k2, X2, e2, E2, A2, st2⟩ := newP X1 hx hZ (hw _ (List.mem_of_getElem? (i := 3) rfl)) e1 (g := (mkF m 90 #[.val (.int nn), .val (.long qa), .second, .val (.long qb), .second, .val (.long qc), .second, .val (.long qo), .second, .val (.long ql), .second, .val (.int vk), .val (.long vo0), .second, .val (.long vl0), .second, .val (.long vo1), .second, .val (.long vl1), .second, .val (.long vo2), .second, .val (.long vl2), .second, .val (.long vof), .second, .val (.long vln), .second, .val (.ref r0), .unset, .unset, .unset, .unset, .unset] [(.int (2 : Int32))])) rfl (hb hby at_90) rfl (by decide) (cap := 2) (by decide) (by decide) (by decide) (by decide)
  obtain ⟨r1, gz2⟩ : ∃ z, z = h1.size := ⟨_, rfl⟩
  have ne_r0_r1 : r0 ≠ r1 := Nat.ne_of_lt (Nat.lt_of_lt_of_le A_r0.lt (Nat.le_of_eq gz2.symm))
  have g_r1 : n0 ≤ r1 := Nat.le_trans Z1 (Nat.le_of_eq gz2.symm)
  rw [← gz2] at A2 st2
  replace A_r0 := A_r0.ext E2
  have Z2 := Nat.le_trans Z1 E2.1
  have A_r1 : AryJ Z h2 r1 2 (fun _ => (0 : Int64)) := Ary.new A2 rfl
  refine Go.step st2 ?_
  show Go _ _ _ _ _ _ _ (T2.setTop (mkF m 92 #[.val (.int nn), .val (.long qa), .second, .val (.long qb), .second, .val (.long qc), .second, .val (.long qo), .second, .val (.long ql), .second, .val (.int vk), .val (.long vo0), .second, .val (.long vl0), .second, .val (.long vo1), .second, .val (.long vl1), .second, .val (.long vo2), .second, .val (.long vl2), .second, .val (.long vof), .second, .val (.long vln), .second, .val (.ref r0), .unset, .unset, .unset, .unset, .unset] [(.ref r1)]))
  refine Go.step (fun t k => XS.astore X2.here hx rfl (hb hby at_92) rfl rfl (l' := #[.val (.int nn), .val (.long qa), .second, .val (.long qb), .second, .val (.long qc), .second, .val (.long qo), .second, .val (.long ql), .second, .val (.int vk), .val (.long vo0), .second, .val (.long vl0), .second, .val (.long vo1), .second, .val (.long vl1), .second, .val (.long vo2), .second, .val (.long vl2), .second, .val (.long vof), .second, .val (.long vln), .second, .val (.ref r0), .val (.ref r1), .unset, .unset, .unset, .unset]) rfl k) ?_
  show Go _ _ _ _ _ _ _ (T2.setTop (mkF m 94 #[.val (.int nn), .val (.long qa), .second, .val (.long qb), .second, .val (.long qc), .second, .val (.long qo), .second, .val (.long ql), .second, .val (.int vk), .val (.long vo0), .second, .val (.long vl0), .second, .val (.long vo1), .second, .val (.long vl1), .second, .val (.long vo2), .second, .val (.long vl2), .second, .val (.long vof), .second, .val (.long vln), .second, .val (.ref r0), .val (.ref r1), .unset, .unset, .unset, .unset] []))
  refine Go.step (fun t k => XS.iconst X2.here hx rfl (hb hby at_94) k) ?_
  show Go _ _ _ _ _ _ _ (T2.setTop (mkF m 95 #[.val (.int nn), .val (.long qa), .second, .val (.long qb), .second, .val (.long qc), .second, .val (.long qo), .second, .val (.long ql), .second, .val (.int vk), .val (.long vo0), .second, .val (.long vl0), .second, .val (.long vo1), .second, .val (.long vl1), .second, .val (.long vo2), .second, .val (.long vl2), .second, .val (.long vof), .second, .val (.long vln), .second, .val (.ref r0), .val (.ref r1), .unset, .unset, .unset, .unset] [(.int (4 : Int32))]))
  obtain ⟨T3, h3, k3, X3, e3, E3, A3, st3⟩ := newP X2 hx hZ (hw _ (List.mem_of_getElem? (i := 3) rfl)) e2 (g := (mkF m 95 #[.val (.int nn), .val (.long qa), .second, .val (.long qb), .second, .val (.long qc), .second, .val (.long qo), .second, .val (.long ql), .second, .val (.int vk), .val (.long vo0), .second, .val (.long vl0), .second, .val (.long vo1), .second, .val (.long vl1), .second, .val (.long vo2), .second, .val (.long vl2), .second, .val (.long vof), .second, .val (.long vln), .second, .val (.ref r0), .val (.ref r1), .unset, .unset, .unset, .unset] [(.int (4 : Int32))])) rfl (hb hby at_95) rfl (by decide) (cap := 4) (by decide) (by decide) (by decide) (by decide)
  obtain ⟨r2, gz3⟩ : ∃ z, z = h2.size := ⟨_, rfl⟩
  have ne_r0_r2 : r0 ≠ r2 := Nat.ne_of_lt (Nat.lt_of_lt_of_le A_r0.lt (Nat.le_of_eq gz3.symm))
  have ne_r1_r2 : r1 ≠ r2 := Nat.ne_of_lt (Nat.lt_of_lt_of_le A_r1.lt (Nat.le_of_eq gz3.symm))
  have g_r2 : n0 ≤ r2 := Nat.le_trans Z2 (Nat.le_of_eq gz3.symm)
  rw [← gz3] at A3 st3
  replace A_r0 := A_r0.ext E3
  replace A_r1 := A_r1.ext E3
  have Z3 := Nat.le_trans Z2 E3.1
  have A_r2 : AryJ Z h3 r2 4 (fun _ => (0 : Int64)) := Ary.new A3 rfl
  refine Go.step st3 ?_
  show Go _ _ _ _ _ _ _ (T3.setTop (mkF m 97 #[.val (.int nn), .val (.long qa), .second, .val (.long qb), .second, .val (.long qc), .second, .val (.long qo), .second, .val (.long ql), .second, .val (.int vk), .val (.long vo0), .second, .val (.long vl0), .second, .val (.long vo1), .second, .val (.long vl1), .second, .val (.long vo2), .second, .val (.long vl2), .second, .val (.long vof), .second, .val (.long vln), .second, .val (.ref r0), .val (.ref r1), .unset, .unset, .unset, .unset] [(.ref r2)]))
  refine Go.step (fun t k => XS.astore X3.here hx rfl (hb hby at_97) rfl rfl (l' := #[.val (.int nn), .val (.long qa), .second, .val (.long qb), .second, .val (.long qc), .second, .val (.long qo), .second, .val (.long ql), .second, .val (.int vk), .val (.long vo0), .second, .val (.long vl0), .second, .val (.long vo1), .second, .val (.long vl1), .second, .val (.long vo2), .second, .val (.long vl2), .second, .val (.long vof), .second, .val (.long vln), .second, .val (.ref r0), .val (.ref r1), .val (.ref r2), .unset, .unset, .unset]) rfl k) ?_
  show Go _ _ _ _ _ _ _ (T3.setTop (mkF m 99 #[.val (.int nn), .val (.long qa), .second, .val (.long qb), .second, .val (.long qc), .second, .val (.long qo), .second, .val (.long ql), .second, .val (.int vk), .val (.long vo0), .second, .val (.long vl0), .second, .val (.long vo1), .second, .val (.long vl1), .second, .val (.long vo2), .second, .val (.long vl2), .second, .val (.long vof), .second, .val (.long vln), .second, .val (.ref r0), .val (.ref r1), .val (.ref r2), .unset, .unset, .unset] []))
  refine Go.step (fun t k => XS.bipush X3.here hx rfl (hb hby at_99) k) ?_
  show Go _ _ _ _ _ _ _ (T3.setTop (mkF m 101 #[.val (.int nn), .val (.long qa), .second, .val (.long qb), .second, .val (.long qc), .second, .val (.long qo), .second, .val (.long ql), .second, .val (.int vk), .val (.long vo0), .second, .val (.long vl0), .second, .val (.long vo1), .second, .val (.long vl1), .second, .val (.long vo2), .second, .val (.long vl2), .second, .val (.long vof), .second, .val (.long vln), .second, .val (.ref r0), .val (.ref r1), .val (.ref r2), .unset, .unset, .unset] [(.int (6 : Int32))]))
  obtain ⟨T4, h4, k4, X4, e4, E4, A4, st4⟩ := newP X3 hx hZ (hw _ (List.mem_of_getElem? (i := 3) rfl)) e3 (g := (mkF m 101 #[.val (.int nn), .val (.long qa), .second, .val (.long qb), .second, .val (.long qc), .second, .val (.long qo), .second, .val (.long ql), .second, .val (.int vk), .val (.long vo0), .second, .val (.long vl0), .second, .val (.long vo1), .second, .val (.long vl1), .second, .val (.long vo2), .second, .val (.long vl2), .second, .val (.long vof), .second, .val (.long vln), .second, .val (.ref r0), .val (.ref r1), .val (.ref r2), .unset, .unset, .unset] [(.int (6 : Int32))])) rfl (hb hby at_101) rfl (by decide) (cap := 6) (by decide) (by decide) (by decide) (by decide)
  obtain ⟨r3, gz4⟩ : ∃ z, z = h3.size := ⟨_, rfl⟩
  have ne_r0_r3 : r0 ≠ r3 := Nat.ne_of_lt (Nat.lt_of_lt_of_le A_r0.lt (Nat.le_of_eq gz4.symm))
  have ne_r1_r3 : r1 ≠ r3 := Nat.ne_of_lt (Nat.lt_of_lt_of_le A_r1.lt (Nat.le_of_eq gz4.symm))
  have ne_r2_r3 : r2 ≠ r3 := Nat.ne_of_lt (Nat.lt_of_lt_of_le A_r2.lt (Nat.le_of_eq gz4.symm))
  have g_r3 : n0 ≤ r3 := Nat.le_trans Z3 (Nat.le_of_eq gz4.symm)
  rw [← gz4] at A4 st4
  replace A_r0 := A_r0.ext E4
  replace A_r1 := A_r1.ext E4
  replace A_r2 := A_r2.ext E4
  have Z4 := Nat.le_trans Z3 E4.1
  have A_r3 : AryJ Z h4 r3 6 (fun _ => (0 : Int64)) := Ary.new A4 rfl
  refine Go.step st4 ?_
  show Go _ _ _ _ _ _ _ (T4.setTop (mkF m 103 #[.val (.int nn), .val (.long qa), .second, .val (.long qb), .second, .val (.long qc), .second, .val (.long qo), .second, .val (.long ql), .second, .val (.int vk), .val (.long vo0), .second, .val (.long vl0), .second, .val (.long vo1), .second, .val (.long vl1), .second, .val (.long vo2), .second, .val (.long vl2), .second, .val (.long vof), .second, .val (.long vln), .second, .val (.ref r0), .val (.ref r1), .val (.ref r2), .unset, .unset, .unset] [(.ref r3)]))
  refine Go.step (fun t k => XS.astore X4.here hx rfl (hb hby at_103) rfl rfl (l' := #[.val (.int nn), .val (.long qa), .second, .val (.long qb), .second, .val (.long qc), .second, .val (.long qo), .second, .val (.long ql), .second, .val (.int vk), .val (.long vo0), .second, .val (.long vl0), .second, .val (.long vo1), .second, .val (.long vl1), .second, .val (.long vo2), .second, .val (.long vl2), .second, .val (.long vof), .second, .val (.long vln), .second, .val (.ref r0), .val (.ref r1), .val (.ref r2), .val (.ref r3), .unset, .unset]) rfl k) ?_
  show Go _ _ _ _ _ _ _ (T4.setTop (mkF m 105 #[.val (.int nn), .val (.long qa), .second, .val (.long qb), .second, .val (.long qc), .second, .val (.long qo), .second, .val (.long ql), .second, .val (.int vk), .val (.long vo0), .second, .val (.long vl0), .second, .val (.long vo1), .second, .val (.long vl1), .second, .val (.long vo2), .second, .val (.long vl2), .second, .val (.long vof), .second, .val (.long vln), .second, .val (.ref r0), .val (.ref r1), .val (.ref r2), .val (.ref r3), .unset, .unset] []))
  refine Go.step (fun t k => XS.aload X4.here hx rfl (hb hby at_105) rfl rfl k) ?_
  show Go _ _ _ _ _ _ _ (T4.setTop (mkF m 107 #[.val (.int nn), .val (.long qa), .second, .val (.long qb), .second, .val (.long qc), .second, .val (.long qo), .second, .val (.long ql), .second, .val (.int vk), .val (.long vo0), .second, .val (.long vl0), .second, .val (.long vo1), .second, .val (.long vl1), .second, .val (.long vo2), .second, .val (.long vl2), .second, .val (.long vof), .second, .val (.long vln), .second, .val (.ref r0), .val (.ref r1), .val (.ref r2), .val (.ref r3), .unset, .unset] [(.ref r1)]))
  refine Go.step (fun t k => XS.iconst X4.here hx rfl (hb hby at_107) k) ?_
  show Go _ _ _ _ _ _ _ (T4.setTop (mkF m 108 #[.val (.int nn), .val (.long qa), .second, .val (.long qb), .second, .val (.long qc), .second, .val (.long qo), .second, .val (.long ql), .second, .val (.int vk), .val (.long vo0), .second, .val (.long vl0), .second, .val (.long vo1), .second, .val (.long vl1), .second, .val (.long vo2), .second, .val (.long vl2), .second, .val (.long vof), .second, .val (.long vln), .second, .val (.ref r0), .val (.ref r1), .val (.ref r2), .val (.ref r3), .unset, .unset] [(.int (0 : Int32)), (.ref r1)]))
  refine Go.step (fun t k => XS.lload X4.here hx rfl (hb hby at_108) rfl k) ?_
  show Go _ _ _ _ _ _ _ (T4.setTop (mkF m 110 #[.val (.int nn), .val (.long qa), .second, .val (.long qb), .second, .val (.long qc), .second, .val (.long qo), .second, .val (.long ql), .second, .val (.int vk), .val (.long vo0), .second, .val (.long vl0), .second, .val (.long vo1), .second, .val (.long vl1), .second, .val (.long vo2), .second, .val (.long vl2), .second, .val (.long vof), .second, .val (.long vln), .second, .val (.ref r0), .val (.ref r1), .val (.ref r2), .val (.ref r3), .unset, .unset] [(.long vo0), (.int (0 : Int32)), (.ref r1)]))
  obtain ⟨T5, h5, X5, e5, W5, st5⟩ := own_stJ X4 hx hZ e4 A_r1 0 rfl (by decide) (f := (mkF m 110 #[.val (.int nn), .val (.long qa), .second, .val (.long qb), .second, .val (.long qc), .second, .val (.long qo), .second, .val (.long ql), .second, .val (.int vk), .val (.long vo0), .second, .val (.long vl0), .second, .val (.long vo1), .second, .val (.long vl1), .second, .val (.long vo2), .second, .val (.long vl2), .second, .val (.long vof), .second, .val (.long vln), .second, .val (.ref r0), .val (.ref r1), .val (.ref r2), .val (.ref r3), .unset, .unset] [(.long vo0), (.int (0 : Int32)), (.ref r1)])) rfl rfl (hb hby at_110)
  replace A_r0 := A_r0.other W5 ne_r0_r1
  replace A_r2 := A_r2.other W5 (Ne.symm ne_r1_r2)
  replace A_r3 := A_r3.other W5 (Ne.symm ne_r1_r3)
  have Z5 := Nat.le_trans Z4 (Keep.of_wr W5).1
  have N5 := Fr.snoc X5 N0 g_r1
  replace A_r1 := A_r1.setJ W5
  refine Go.step st5 ?_
  show Go _ _ _ _ _ _ _ (T5.setTop (mkF m 111 #[.val (.int nn), .val (.long qa), .second, .val (.long qb), .second, .val (.long qc), .second, .val (.long qo), .second, .val (.long ql), .second, .val (.int vk), .val (.long vo0), .second, .val (.long vl0), .second, .val (.long vo1), .second, .val (.long vl1), .second, .val (.long vo2), .second, .val (.long vl2), .second, .val (.long vof), .second, .val (.long vln), .second, .val (.ref r0), .val (.ref r1), .val (.ref r2), .val (.ref r3), .unset, .unset] []))
  refine Go.step (fun t k => XS.aload X5.here hx rfl (hb hby at_111) rfl rfl k) ?_
  show Go _ _ _ _ _ _ _ (T5.setTop (mkF m 113 #[.val (.int nn), .val (.long qa), .second, .val (.long qb), .second, .val (.long qc), .second, .val (.long qo), .second, .val (.long ql), .second, .val (.int vk), .val (.long vo0), .second, .val (.long vl0), .second, .val (.long vo1), .second, .val (.long vl1), .second, .val (.long vo2), .second, .val (.long vl2), .second, .val (.long vof), .second, .val (.long vln), .second, .val (.ref r0), .val (.ref r1), .val (.ref r2), .val (.ref r3), .unset, .unset] [(.ref r1)]))
  refine Go.step (fun t k => XS.iconst X5.here hx rfl (hb hby at_113) k) ?_
  show Go _ _ _ _ _ _ _ (T5.setTop (mkF m 114 #[.val (.int nn), .val (.long qa), .second, .val (.long qb), .second, .val (.long qc), .second, .val (.long qo), .second, .val (.long ql), .second, .val (.int vk), .val (.long vo0), .second, .val (.long vl0), .second, .val (.long vo1), .second, .val (.long vl1), .second, .val (.long vo2), .second, .val (.long vl2), .second, .val (.long vof), .second, .val (.long vln), .second, .val (.ref r0), .val (.ref r1), .val (.ref r2), .val (.ref r3), .unset, .unset] [(.int (1 : Int32)), (.ref r1)]))
  refine Go.step (fun t k => XS.lload X5.here hx rfl (hb hby at_114) rfl k) ?_
  show Go _ _ _ _ _ _ _ (T5.setTop (mkF m 116 #[.val (.int nn), .val (.long qa), .second, .val (.long qb), .second, .val (.long qc), .second, .val (.long qo), .second, .val (.long ql), .second, .val (.int vk), .val (.long vo0), .second, .val (.long vl0), .second, .val (.long vo1), .second, .val (.long vl1), .second, .val (.long vo2), .second, .val (.long vl2), .second, .val (.long vof), .second, .val (.long vln), .second, .val (.ref r0), .val (.ref r1), .val (.ref r2), .val (.ref r3), .unset, .unset] [(.long vl0), (.int (1 : Int32)), (.ref r1)]))
  obtain ⟨T6, h6, X6, e6, W6, st6⟩ := own_stJ X5 hx hZ e5 A_r1 1 rfl (by decide) (f := (mkF m 116 #[.val (.int nn), .val (.long qa), .second, .val (.long qb), .second, .val (.long qc), .second, .val (.long qo), .second, .val (.long ql), .second, .val (.int vk), .val (.long vo0), .second, .val (.long vl0), .second, .val (.long vo1), .second, .val (.long vl1), .second, .val (.long vo2), .second, .val (.long vl2), .second, .val (.long vof), .second, .val (.long vln), .second, .val (.ref r0), .val (.ref r1), .val (.ref r2), .val (.ref r3), .unset, .unset] [(.long vl0), (.int (1 : Int32)), (.ref r1)])) rfl rfl (hb hby at_116)
  replace A_r0 := A_r0.other W6 ne_r0_r1
  replace A_r2 := A_r2.other W6 (Ne.symm ne_r1_r2)
  replace A_r3 := A_r3.other W6 (Ne.symm ne_r1_r3)
  have Z6 := Nat.le_trans Z5 (Keep.of_wr W6).1
  have N6 := Fr.snoc X6 N5 g_r1
  replace A_r1 := A_r1.setJ W6
  refine Go.step st6 ?_
  show Go _ _ _ _ _ _ _ (T6.setTop (mkF m 117 #[.val (.int nn), .val (.long qa), .second, .val (.long qb), .second, .val (.long qc), .second, .val (.long qo), .second, .val (.long ql), .second, .val (.int vk), .val (.long vo0), .second, .val (.long vl0), .second, .val (.long vo1), .second, .val (.long vl1), .second, .val (.long vo2), .second, .val (.long vl2), .second, .val (.long vof), .second, .val (.long vln), .second, .val (.ref r0), .val (.ref r1), .val (.ref r2), .val (.ref r3), .unset, .unset] []))
  refine Go.step (fun t k => XS.aload X6.here hx rfl (hb hby at_117) rfl rfl k) ?_
  show Go _ _ _ _ _ _ _ (T6.setTop (mkF m 119 #[.val (.int nn), .val (.long qa), .second, .val (.long qb), .second, .val (.long qc), .second, .val (.long qo), .second, .val (.long ql), .second, .val (.int vk), .val (.long vo0), .second, .val (.long vl0), .second, .val (.long vo1), .second, .val (.long vl1), .second, .val (.long vo2), .second, .val (.long vl2), .second, .val (.long vof), .second, .val (.long vln), .second, .val (.ref r0), .val (.ref r1), .val (.ref r2), .val (.ref r3), .unset, .unset] [(.ref r2)]))
  refine Go.step (fun t k => XS.iconst X6.here hx rfl (hb hby at_119) k) ?_
  show Go _ _ _ _ _ _ _ (T6.setTop (mkF m 120 #[.val (.int nn), .val (.long qa), .second, .val (.long qb), .second, .val (.long qc), .second, .val (.long qo), .second, .val (.long ql), .second, .val (.int vk), .val (.long vo0), .second, .val (.long vl0), .second, .val (.long vo1), .second, .val (.long vl1), .second, .val (.long vo2), .second, .val (.long vl2), .second, .val (.long vof), .second, .val (.long vln), .second, .val (.ref r0), .val (.ref r1), .val (.ref r2), .val (.ref r3), .unset, .unset] [(.int (0 : Int32)), (.ref r2)]))
  refine Go.step (fun t k => XS.lload X6.here hx rfl (hb hby at_120) rfl k) ?_
  show Go _ _ _ _ _ _ _ (T6.setTop (mkF m 122 #[.val (.int nn), .val (.long qa), .second, .val (.long qb), .second, .val (.long qc), .second, .val (.long qo), .second, .val (.long ql), .second, .val (.int vk), .val (.long vo0), .second, .val (.long vl0), .second, .val (.long vo1), .second, .val (.long vl1), .second, .val (.long vo2), .second, .val (.long vl2), .second, .val (.long vof), .second, .val (.long vln), .second, .val (.ref r0), .val (.ref r1), .val (.ref r2), .val (.ref r3), .unset, .unset] [(.long vo0), (.int (0 : Int32)), (.ref r2)]))
  obtain ⟨T7, h7, X7, e7, W7, st7⟩ := own_stJ X6 hx hZ e6 A_r2 0 rfl (by decide) (f := (mkF m 122 #[.val (.int nn), .val (.long qa), .second, .val (.long qb), .second, .val (.long qc), .second, .val (.long qo), .second, .val (.long ql), .second, .val (.int vk), .val (.long vo0), .second, .val (.long vl0), .second, .val (.long vo1), .second, .val (.long vl1), .second, .val (.long vo2), .second, .val (.long vl2), .second, .val (.long vof), .second, .val (.long vln), .second, .val (.ref r0), .val (.ref r1), .val (.ref r2), .val (.ref r3), .unset, .unset] [(.long vo0), (.int (0 : Int32)), (.ref r2)])) rfl rfl (hb hby at_122)
  replace A_r0 := A_r0.other W7 ne_r0_r2
  replace A_r1 := A_r1.other W7 ne_r1_r2
  replace A_r3 := A_r3.other W7 (Ne.symm ne_r2_r3)
  have Z7 := Nat.le_trans Z6 (Keep.of_wr W7).1
  have N7 := Fr.snoc X7 N6 g_r2
  replace A_r2 := A_r2.setJ W7
  refine Go.step st7 ?_
  show Go _ _ _ _ _ _ _ (T7.setTop (mkF m 123 #[.val (.int nn), .val (.long qa), .second, .val (.long qb), .second, .val (.long qc), .second, .val (.long qo), .second, .val (.long ql), .second, .val (.int vk), .val (.long vo0), .second, .val (.long vl0), .second, .val (.long vo1), .second, .val (.long vl1), .second, .val (.long vo2), .second, .val (.long vl2), .second, .val (.long vof), .second, .val (.long vln), .second, .val (.ref r0), .val (.ref r1), .val (.ref r2), .val (.ref r3), .unset, .unset] []))
  refine Go.step (fun t k => XS.aload X7.here hx rfl (hb hby at_123) rfl rfl k) ?_
  show Go _ _ _ _ _ _ _ (T7.setTop (mkF m 125 #[.val (.int nn), .val (.long qa), .second, .val (.long qb), .second, .val (.long qc), .second, .val (.long qo), .second, .val (.long ql), .second, .val (.int vk), .val (.long vo0), .second, .val (.long vl0), .second, .val (.long vo1), .second, .val (.long vl1), .second, .val (.long vo2), .second, .val (.long vl2), .second, .val (.long vof), .second, .val (.long vln), .second, .val (.ref r0), .val (.ref r1), .val (.ref r2), .val (.ref r3), .unset, .unset] [(.ref r2)]))
  refine Go.step (fun t k => XS.iconst X7.here hx rfl (hb hby at_125) k) ?_
  show Go _ _ _ _ _ _ _ (T7.setTop (mkF m 126 #[.val (.int nn), .val (.long qa), .second, .val (.long qb), .second, .val (.long qc), .second, .val (.long qo), .second, .val (.long ql), .second, .val (.int vk), .val (.long vo0), .second, .val (.long vl0), .second, .val (.long vo1), .second, .val (.long vl1), .second, .val (.long vo2), .second, .val (.long vl2), .second, .val (.long vof), .second, .val (.long vln), .second, .val (.ref r0), .val (.ref r1), .val (.ref r2), .val (.ref r3), .unset, .unset] [(.int (1 : Int32)), (.ref r2)]))
  refine Go.step (fun t k => XS.lload X7.here hx rfl (hb hby at_126) rfl k) ?_
  show Go _ _ _ _ _ _ _ (T7.setTop (mkF m 128 #[.val (.int nn), .val (.long qa), .second, .val (.long qb), .second, .val (.long qc), .second, .val (.long qo), .second, .val (.long ql), .second, .val (.int vk), .val (.long vo0), .second, .val (.long vl0), .second, .val (.long vo1), .second, .val (.long vl1), .second, .val (.long vo2), .second, .val (.long vl2), .second, .val (.long vof), .second, .val (.long vln), .second, .val (.ref r0), .val (.ref r1), .val (.ref r2), .val (.ref r3), .unset, .unset] [(.long vl0), (.int (1 : Int32)), (.ref r2)]))
  obtain ⟨T8, h8, X8, e8, W8, st8⟩ := own_stJ X7 hx hZ e7 A_r2 1 rfl (by decide) (f := (mkF m 128 #[.val (.int nn), .val (.long qa), .second, .val (.long qb), .second, .val (.long qc), .second, .val (.long qo), .second, .val (.long ql), .second, .val (.int vk), .val (.long vo0), .second, .val (.long vl0), .second, .val (.long vo1), .second, .val (.long vl1), .second, .val (.long vo2), .second, .val (.long vl2), .second, .val (.long vof), .second, .val (.long vln), .second, .val (.ref r0), .val (.ref r1), .val (.ref r2), .val (.ref r3), .unset, .unset] [(.long vl0), (.int (1 : Int32)), (.ref r2)])) rfl rfl (hb hby at_128)
  replace A_r0 := A_r0.other W8 ne_r0_r2
  replace A_r1 := A_r1.other W8 ne_r1_r2
  replace A_r3 := A_r3.other W8 (Ne.symm ne_r2_r3)
  have Z8 := Nat.le_trans Z7 (Keep.of_wr W8).1
  have N8 := Fr.snoc X8 N7 g_r2
  replace A_r2 := A_r2.setJ W8
  refine Go.step st8 ?_
  show Go _ _ _ _ _ _ _ (T8.setTop (mkF m 129 #[.val (.int nn), .val (.long qa), .second, .val (.long qb), .second, .val (.long qc), .second, .val (.long qo), .second, .val (.long ql), .second, .val (.int vk), .val (.long vo0), .second, .val (.long vl0), .second, .val (.long vo1), .second, .val (.long vl1), .second, .val (.long vo2), .second, .val (.long vl2), .second, .val (.long vof), .second, .val (.long vln), .second, .val (.ref r0), .val (.ref r1), .val (.ref r2), .val (.ref r3), .unset, .unset] []))
  refine Go.step (fun t k => XS.aload X8.here hx rfl (hb hby at_129) rfl rfl k) ?_
  show Go _ _ _ _ _ _ _ (T8.setTop (mkF m 131 #[.val (.int nn), .val (.long qa), .second, .val (.long qb), .second, .val (.long qc), .second, .val (.long qo), .second, .val (.long ql), .second, .val (.int vk), .val (.long vo0), .second, .val (.long vl0), .second, .val (.long vo1), .second, .val (.long vl1), .second, .val (.long vo2), .second, .val (.long vl2), .second, .val (.long vof), .second, .val (.long vln), .second, .val (.ref r0), .val (.ref r1), .val (.ref r2), .val (.ref r3), .unset, .unset] [(.ref r2)]))
  refine Go.step (fun t k => XS.iconst X8.here hx rfl (hb hby at_131) k) ?_
  show Go _ _ _ _ _ _ _ (T8.setTop (mkF m 132 #[.val (.int nn), .val (.long qa), .second, .val (.long qb), .second, .val (.long qc), .second, .val (.long qo), .second, .val (.long ql), .second, .val (.int vk), .val (.long vo0), .second, .val (.long vl0), .second, .val (.long vo1), .second, .val (.long vl1), .second, .val (.long vo2), .second, .val (.long vl2), .second, .val (.long vof), .second, .val (.long vln), .second, .val (.ref r0), .val (.ref r1), .val (.ref r2), .val (.ref r3), .unset, .unset] [(.int (2 : Int32)), (.ref r2)]))
  refine Go.step (fun t k => XS.lload X8.here hx rfl (hb hby at_132) rfl k) ?_
  show Go _ _ _ _ _ _ _ (T8.setTop (mkF m 134 #[.val (.int nn), .val (.long qa), .second, .val (.long qb), .second, .val (.long qc), .second, .val (.long qo), .second, .val (.long ql), .second, .val (.int vk), .val (.long vo0), .second, .val (.long vl0), .second, .val (.long vo1), .second, .val (.long vl1), .second, .val (.long vo2), .second, .val (.long vl2), .second, .val (.long vof), .second, .val (.long vln), .second, .val (.ref r0), .val (.ref r1), .val (.ref r2), .val (.ref r3), .unset, .unset] [(.long vo1), (.int (2 : Int32)), (.ref r2)]))
  obtain ⟨T9, h9, X9, e9, W9, st9⟩ := own_stJ X8 hx hZ e8 A_r2 2 rfl (by decide) (f := (mkF m 134 #[.val (.int nn), .val (.long qa), .second, .val (.long qb), .second, .val (.long qc), .second, .val (.long qo), .second, .val (.long ql), .second, .val (.int vk), .val (.long vo0), .second, .val (.long vl0), .second, .val (.long vo1), .second, .val (.long vl1), .second, .val (.long vo2), .second, .val (.long vl2), .second, .val (.long vof), .second, .val (.long vln), .second, .val (.ref r0), .val (.ref r1), .val (.ref r2), .val (.ref r3), .unset, .unset] [(.long vo1), (.int (2 : Int32)), (.ref r2)])) rfl rfl (hb hby at_134)
  replace A_r0 := A_r0.other W9 ne_r0_r2
  replace A_r1 := A_r1.other W9 ne_r1_r2
  replace A_r3 := A_r3.other W9 (Ne.symm ne_r2_r3)
  have Z9 := Nat.le_trans Z8 (Keep.of_wr W9).1
  have N9 := Fr.snoc X9 N8 g_r2
  replace A_r2 := A_r2.setJ W9
  refine Go.step st9 ?_
  show Go _ _ _ _ _ _ _ (T9.setTop (mkF m 135 #[.val (.int nn), .val (.long qa), .second, .val (.long qb), .second, .val (.long qc), .second, .val (.long qo), .second, .val (.long ql), .second, .val (.int vk), .val (.long vo0), .second, .val (.long vl0), .second, .val (.long vo1), .second, .val (.long vl1), .second, .val (.long vo2), .second, .val (.long vl2), .second, .val (.long vof), .second, .val (.long vln), .second, .val (.ref r0), .val (.ref r1), .val (.ref r2), .val (.ref r3), .unset, .unset] []))
  refine Go.step (fun t k => XS.aload X9.here hx rfl (hb hby at_135) rfl rfl k) ?_
  show Go _ _ _ _ _ _ _ (T9.setTop (mkF m 137 #[.val (.int nn), .val (.long qa), .second, .val (.long qb), .second, .val (.long qc), .second, .val (.long qo), .second, .val (.long ql), .second, .val (.int vk), .val (.long vo0), .second, .val (.long vl0), .second, .val (.long vo1), .second, .val (.long vl1), .second, .val (.long vo2), .second, .val (.long vl2), .second, .val (.long vof), .second, .val (.long vln), .second, .val (.ref r0), .val (.ref r1), .val (.ref r2), .val (.ref r3), .unset, .unset] [(.ref r2)]))
  refine Go.step (fun t k => XS.iconst X9.here hx rfl (hb hby at_137) k) ?_
  show Go _ _ _ _ _ _ _ (T9.setTop (mkF m 138 #[.val (.int nn), .val (.long qa), .second, .val (.long qb), .second, .val (.long qc), .second, .val (.long qo), .second, .val (.long ql), .second, .val (.int vk), .val (.long vo0), .second, .val (.long vl0), .second, .val (.long vo1), .second, .val (.long vl1), .second, .val (.long vo2), .second, .val (.long vl2), .second, .val (.long vof), .second, .val (.long vln), .second, .val (.ref r0), .val (.ref r1), .val (.ref r2), .val (.ref r3), .unset, .unset] [(.int (3 : Int32)), (.ref r2)]))
  refine Go.step (fun t k => XS.lload X9.here hx rfl (hb hby at_138) rfl k) ?_
  show Go _ _ _ _ _ _ _ (T9.setTop (mkF m 140 #[.val (.int nn), .val (.long qa), .second, .val (.long qb), .second, .val (.long qc), .second, .val (.long qo), .second, .val (.long ql), .second, .val (.int vk), .val (.long vo0), .second, .val (.long vl0), .second, .val (.long vo1), .second, .val (.long vl1), .second, .val (.long vo2), .second, .val (.long vl2), .second, .val (.long vof), .second, .val (.long vln), .second, .val (.ref r0), .val (.ref r1), .val (.ref r2), .val (.ref r3), .unset, .unset] [(.long vl1), (.int (3 : Int32)), (.ref r2)]))
  obtain ⟨T10, h10, X10, e10, W10, st10⟩ := own_stJ X9 hx hZ e9 A_r2 3 rfl (by decide) (f := (mkF m 140 #[.val (.int nn), .val (.long qa), .second, .val (.long qb), .second, .val (.long qc), .second, .val (.long qo), .second, .val (.long ql), .second, .val (.int vk), .val (.long vo0), .second, .val (.long vl0), .second, .val (.long vo1), .second, .val (.long vl1), .second, .val (.long vo2), .second, .val (.long vl2), .second, .val (.long vof), .second, .val (.long vln), .second, .val (.ref r0), .val (.ref r1), .val (.ref r2), .val (.ref r3), .unset, .unset] [(.long vl1), (.int (3 : Int32)), (.ref r2)])) rfl rfl (hb hby at_140)
  replace A_r0 := A_r0.other W10 ne_r0_r2
  replace A_r1 := A_r1.other W10 ne_r1_r2
  replace A_r3 := A_r3.other W10 (Ne.symm ne_r2_r3)
  have Z10 := Nat.le_trans Z9 (Keep.of_wr W10).1
  have N10 := Fr.snoc X10 N9 g_r2
  replace A_r2 := A_r2.setJ W10
  refine Go.step st10 ?_
  show Go _ _ _ _ _ _ _ (T10.setTop (mkF m 141 #[.val (.int nn), .val (.long qa), .second, .val (.long qb), .second, .val (.long qc), .second, .val (.long qo), .second, .val (.long ql), .second, .val (.int vk), .val (.long vo0), .second, .val (.long vl0), .second, .val (.long vo1), .second, .val (.long vl1), .second, .val (.long vo2), .second, .val (.long vl2), .second, .val (.long vof), .second, .val (.long vln), .second, .val (.ref r0), .val (.ref r1), .val (.ref r2), .val (.ref r3), .unset, .unset] []))
  refine Go.step (fun t k => XS.aload X10.here hx rfl (hb hby at_141) rfl rfl k) ?_
  show Go _ _ _ _ _ _ _ (T10.setTop (mkF m 143 #[.val (.int nn), .val (.long qa), .second, .val (.long qb), .second, .val (.long qc), .second, .val (.long qo), .second, .val (.long ql), .second, .val (.int vk), .val (.long vo0), .second, .val (.long vl0), .second, .val (.long vo1), .second, .val (.long vl1), .second, .val (.long vo2), .second, .val (.long vl2), .second, .val (.long vof), .second, .val (.long vln), .second, .val (.ref r0), .val (.ref r1), .val (.ref r2), .val (.ref r3), .unset, .unset] [(.ref r3)]))
  refine Go.step (fun t k => XS.iconst X10.here hx rfl (hb hby at_143) k) ?_
  show Go _ _ _ _ _ _ _ (T10.setTop (mkF m 144 #[.val (.int nn), .val (.long qa), .second, .val (.long qb), .second, .val (.long qc), .second, .val (.long qo), .second, .val (.long ql), .second, .val (.int vk), .val (.long vo0), .second, .val (.long vl0), .second, .val (.long vo1), .second, .val (.long vl1), .second, .val (.long vo2), .second, .val (.long vl2), .second, .val (.long vof), .second, .val (.long vln), .second, .val (.ref r0), .val (.ref r1), .val (.ref r2), .val (.ref r3), .unset, .unset] [(.int (0 : Int32)), (.ref r3)]))
  refine Go.step (fun t k => XS.lload X10.here hx rfl (hb hby at_144) rfl k) ?_
  show Go _ _ _ _ _ _ _ (T10.setTop (mkF m 146 #[.val (.int nn), .val (.long qa), .second, .val (.long qb), .second, .val (.long qc), .second, .val (.long qo), .second, .val (.long ql), .second, .val (.int vk), .val (.long vo0), .second, .val (.long vl0), .second, .val (.long vo1), .second, .val (.long vl1), .second, .val (.long vo2), .second, .val (.long vl2), .second, .val (.long vof), .second, .val (.long vln), .second, .val (.ref r0), .val (.ref r1), .val (.ref r2), .val (.ref r3), .unset, .unset] [(.long vo0), (.int (0 : Int32)), (.ref r3)]))
  obtain ⟨T11, h11, X11, e11, W11, st11⟩ := own_stJ X10 hx hZ e10 A_r3 0 rfl (by decide) (f := (mkF m 146 #[.val (.int nn), .val (.long qa), .second, .val (.long qb), .second, .val (.long qc), .second, .val (.long qo), .second, .val (.long ql), .second, .val (.int vk), .val (.long vo0), .second, .val (.long vl0), .second, .val (.long vo1), .second, .val (.long vl1), .second, .val (.long vo2), .second, .val (.long vl2), .second, .val (.long vof), .second, .val (.long vln), .second, .val (.ref r0), .val (.ref r1), .val (.ref r2), .val (.ref r3), .unset, .unset] [(.long vo0), (.int (0 : Int32)), (.ref r3)])) rfl rfl (hb hby at_146)
  replace A_r0 := A_r0.other W11 ne_r0_r3
  replace A_r1 := A_r1.other W11 ne_r1_r3
  replace A_r2 := A_r2.other W11 ne_r2_r3
  have Z11 := Nat.le_trans Z10 (Keep.of_wr W11).1
  have N11 := Fr.snoc X11 N10 g_r3
  replace A_r3 := A_r3.setJ W11
  refine Go.step st11 ?_
  show Go _ _ _ _ _ _ _ (T11.setTop (mkF m 147 #[.val (.int nn), .val (.long qa), .second, .val (.long qb), .second, .val (.long qc), .second, .val (.long qo), .second, .val (.long ql), .second, .val (.int vk), .val (.long vo0), .second, .val (.long vl0), .second, .val (.long vo1), .second, .val (.long vl1), .second, .val (.long vo2), .second, .val (.long vl2), .second, .val (.long vof), .second, .val (.long vln), .second, .val (.ref r0), .val (.ref r1), .val (.ref r2), .val (.ref r3), .unset, .unset] []))
  refine Go.step (fun t k => XS.aload X11.here hx rfl (hb hby at_147) rfl rfl k) ?_
  show Go _ _ _ _ _ _ _ (T11.setTop (mkF m 149 #[.val (.int nn), .val (.long qa), .second, .val (.long qb), .second, .val (.long qc), .second, .val (.long qo), .second, .val (.long ql), .second, .val (.int vk), .val (.long vo0), .second, .val (.long vl0), .second, .val (.long vo1), .second, .val (.long vl1), .second, .val (.long vo2), .second, .val (.long vl2), .second, .val (.long vof), .second, .val (.long vln), .second, .val (.ref r0), .val (.ref r1), .val (.ref r2), .val (.ref r3), .unset, .unset] [(.ref r3)]))
  refine Go.step (fun t k => XS.iconst X11.here hx rfl (hb hby at_149) k) ?_
  show Go _ _ _ _ _ _ _ (T11.setTop (mkF m 150 #[.val (.int nn), .val (.long qa), .second, .val (.long qb), .second, .val (.long qc), .second, .val (.long qo), .second, .val (.long ql), .second, .val (.int vk), .val (.long vo0), .second, .val (.long vl0), .second, .val (.long vo1), .second, .val (.long vl1), .second, .val (.long vo2), .second, .val (.long vl2), .second, .val (.long vof), .second, .val (.long vln), .second, .val (.ref r0), .val (.ref r1), .val (.ref r2), .val (.ref r3), .unset, .unset] [(.int (1 : Int32)), (.ref r3)]))
  refine Go.step (fun t k => XS.lload X11.here hx rfl (hb hby at_150) rfl k) ?_
  show Go _ _ _ _ _ _ _ (T11.setTop (mkF m 152 #[.val (.int nn), .val (.long qa), .second, .val (.long qb), .second, .val (.long qc), .second, .val (.long qo), .second, .val (.long ql), .second, .val (.int vk), .val (.long vo0), .second, .val (.long vl0), .second, .val (.long vo1), .second, .val (.long vl1), .second, .val (.long vo2), .second, .val (.long vl2), .second, .val (.long vof), .second, .val (.long vln), .second, .val (.ref r0), .val (.ref r1), .val (.ref r2), .val (.ref r3), .unset, .unset] [(.long vl0), (.int (1 : Int32)), (.ref r3)]))
  obtain ⟨T12, h12, X12, e12, W12, st12⟩ := own_stJ X11 hx hZ e11 A_r3 1 rfl (by decide) (f := (mkF m 152 #[.val (.int nn), .val (.long qa), .second, .val (.long qb), .second, .val (.long qc), .second, .val (.long qo), .second, .val (.long ql), .second, .val (.int vk), .val (.long vo0), .second, .val (.long vl0), .second, .val (.long vo1), .second, .val (.long vl1), .second, .val (.long vo2), .second, .val (.long vl2), .second, .val (.long vof), .second, .val (.long vln), .second, .val (.ref r0), .val (.ref r1), .val (.ref r2), .val (.ref r3), .unset, .unset] [(.long vl0), (.int (1 : Int32)), (.ref r3)])) rfl rfl (hb hby at_152)
  replace A_r0 := A_r0.other W12 ne_r0_r3
  replace A_r1 := A_r1.other W12 ne_r1_r3
  replace A_r2 := A_r2.other W12 ne_r2_r3
  have Z12 := Nat.le_trans Z11 (Keep.of_wr W12).1
  have N12 := Fr.snoc X12 N11 g_r3
  replace A_r3 := A_r3.setJ W12
  refine Go.step st12 ?_
  show Go _ _ _ _ _ _ _ (T12.setTop (mkF m 153 #[.val (.int nn), .val (.long qa), .second, .val (.long qb), .second, .val (.long qc), .second, .val (.long qo), .second, .val (.long ql), .second, .val (.int vk), .val (.long vo0), .second, .val (.long vl0), .second, .val (.long vo1), .second, .val (.long vl1), .second, .val (.long vo2), .second, .val (.long vl2), .second, .val (.long vof), .second, .val (.long vln), .second, .val (.ref r0), .val (.ref r1), .val (.ref r2), .val (.ref r3), .unset, .unset] []))
  refine Go.step (fun t k => XS.aload X12.here hx rfl (hb hby at_153) rfl rfl k) ?_
  show Go _ _ _ _ _ _ _ (T12.setTop (mkF m 155 #[.val (.int nn), .val (.long qa), .second, .val (.long qb), .second, .val (.long qc), .second, .val (.long qo), .second, .val (.long ql), .second, .val (.int vk), .val (.long vo0), .second, .val (.long vl0), .second, .val (.long vo1), .second, .val (.long vl1), .second, .val (.long vo2), .second, .val (.long vl2), .second, .val (.long vof), .second, .val (.long vln), .second, .val (.ref r0), .val (.ref r1), .val (.ref r2), .val (.ref r3), .unset, .unset] [(.ref r3)]))
  refine Go.step (fun t k => XS.iconst X12.here hx rfl (hb hby at_155) k) ?_
  show Go _ _ _ _ _ _ _ (T12.setTop (mkF m 156 #[.val (.int nn), .val (.long qa), .second, .val (.long qb), .second, .val (.long qc), .second, .val (.long qo), .second, .val (.long ql), .second, .val (.int vk), .val (.long vo0), .second, .val (.long vl0), .second, .val (.long vo1), .second, .val (.long vl1), .second, .val (.long vo2), .second, .val (.long vl2), .second, .val (.long vof), .second, .val (.long vln), .second, .val (.ref r0), .val (.ref r1), .val (.ref r2), .val (.ref r3), .unset, .unset] [(.int (2 : Int32)), (.ref r3)]))
  refine Go.step (fun t k => XS.lload X12.here hx rfl (hb hby at_156) rfl k) ?_
  show Go _ _ _ _ _ _ _ (T12.setTop (mkF m 158 #[.val (.int nn), .val (.long qa), .second, .val (.long qb), .second, .val (.long qc), .second, .val (.long qo), .second, .val (.long ql), .second, .val (.int vk), .val (.long vo0), .second, .val (.long vl0), .second, .val (.long vo1), .second, .val (.long vl1), .second, .val (.long vo2), .second, .val (.long vl2), .second, .val (.long vof), .second, .val (.long vln), .second, .val (.ref r0), .val (.ref r1), .val (.ref r2), .val (.ref r3), .unset, .unset] [(.long vo1), (.int (2 : Int32)), (.ref r3)]))
  obtain ⟨T13, h13, X13, e13, W13, st13⟩ := own_stJ X12 hx hZ e12 A_r3 2 rfl (by decide) (f := (mkF m 158 #[.val (.int nn), .val (.long qa), .second, .val (.long qb), .second, .val (.long qc), .second, .val (.long qo), .second, .val (.long ql), .second, .val (.int vk), .val (.long vo0), .second, .val (.long vl0), .second, .val (.long vo1), .second, .val (.long vl1), .second, .val (.long vo2), .second, .val (.long vl2), .second, .val (.long vof), .second, .val (.long vln), .second, .val (.ref r0), .val (.ref r1), .val (.ref r2), .val (.ref r3), .unset, .unset] [(.long vo1), (.int (2 : Int32)), (.ref r3)])) rfl rfl (hb hby at_158)
  replace A_r0 := A_r0.other W13 ne_r0_r3
  replace A_r1 := A_r1.other W13 ne_r1_r3
  replace A_r2 := A_r2.other W13 ne_r2_r3
  have Z13 := Nat.le_trans Z12 (Keep.of_wr W13).1
  have N13 := Fr.snoc X13 N12 g_r3
  replace A_r3 := A_r3.setJ W13
  refine Go.step st13 ?_
  show Go _ _ _ _ _ _ _ (T13.setTop (mkF m 159 #[.val (.int nn), .val (.long qa), .second, .val (.long qb), .second, .val (.long qc), .second, .val (.long qo), .second, .val (.long ql), .second, .val (.int vk), .val (.long vo0), .second, .val (.long vl0), .second, .val (.long vo1), .second, .val (.long vl1), .second, .val (.long vo2), .second, .val (.long vl2), .second, .val (.long vof), .second, .val (.long vln), .second, .val (.ref r0), .val (.ref r1), .val (.ref r2), .val (.ref r3), .unset, .unset] []))
  refine Go.step (fun t k => XS.aload X13.here hx rfl (hb hby at_159) rfl rfl k) ?_
  show Go _ _ _ _ _ _ _ (T13.setTop (mkF m 161 #[.val (.int nn), .val (.long qa), .second, .val (.long qb), .second, .val (.long qc), .second, .val (.long qo), .second, .val (.long ql), .second, .val (.int vk), .val (.long vo0), .second, .val (.long vl0), .second, .val (.long vo1), .second, .val (.long vl1), .second, .val (.long vo2), .second, .val (.long vl2), .second, .val (.long vof), .second, .val (.long vln), .second, .val (.ref r0), .val (.ref r1), .val (.ref r2), .val (.ref r3), .unset, .unset] [(.ref r3)]))
  refine Go.step (fun t k => XS.iconst X13.here hx rfl (hb hby at_161) k) ?_
  show Go _ _ _ _ _ _ _ (T13.setTop (mkF m 162 #[.val (.int nn), .val (.long qa), .second, .val (.long qb), .second, .val (.long qc), .second, .val (.long qo), .second, .val (.long ql), .second, .val (.int vk), .val (.long vo0), .second, .val (.long vl0), .second, .val (.long vo1), .second, .val (.long vl1), .second, .val (.long vo2), .second, .val (.long vl2), .second, .val (.long vof), .second, .val (.long vln), .second, .val (.ref r0), .val (.ref r1), .val (.ref r2), .val (.ref r3), .unset, .unset] [(.int (3 : Int32)), (.ref r3)]))
  refine Go.step (fun t k => XS.lload X13.here hx rfl (hb hby at_162) rfl k) ?_
  show Go _ _ _ _ _ _ _ (T13.setTop (mkF m 164 #[.val (.int nn), .val (.long qa), .second, .val (.long qb), .second, .val (.long qc), .second, .val (.long qo), .second, .val (.long ql), .second, .val (.int vk), .val (.long vo0), .second, .val (.long vl0), .second, .val (.long vo1), .second, .val (.long vl1), .second, .val (.long vo2), .second, .val (.long vl2), .second, .val (.long vof), .second, .val (.long vln), .second, .val (.ref r0), .val (.ref r1), .val (.ref r2), .val (.ref r3), .unset, .unset] [(.long vl1), (.int (3 : Int32)), (.ref r3)]))
  obtain ⟨T14, h14, X14, e14, W14, st14⟩ := own_stJ X13 hx hZ e13 A_r3 3 rfl (by decide) (f := (mkF m 164 #[.val (.int nn), .val (.long qa), .second, .val (.long qb), .second, .val (.long qc), .second, .val (.long qo), .second, .val (.long ql), .second, .val (.int vk), .val (.long vo0), .second, .val (.long vl0), .second, .val (.long vo1), .second, .val (.long vl1), .second, .val (.long vo2), .second, .val (.long vl2), .second, .val (.long vof), .second, .val (.long vln), .second, .val (.ref r0), .val (.ref r1), .val (.ref r2), .val (.ref r3), .unset, .unset] [(.long vl1), (.int (3 : Int32)), (.ref r3)])) rfl rfl (hb hby at_164)
  replace A_r0 := A_r0.other W14 ne_r0_r3
  replace A_r1 := A_r1.other W14 ne_r1_r3
  replace A_r2 := A_r2.other W14 ne_r2_r3
  have Z14 := Nat.le_trans Z13 (Keep.of_wr W14).1
  have N14 := Fr.snoc X14 N13 g_r3
  replace A_r3 := A_r3.setJ W14
  refine Go.step st14 ?_
  show Go _ _ _ _ _ _ _ (T14.setTop (mkF m 165 #[.val (.int nn), .val (.long qa), .second, .val (.long qb), .second, .val (.long qc), .second, .val (.long qo), .second, .val (.long ql), .second, .val (.int vk), .val (.long vo0), .second, .val (.long vl0), .second, .val (.long vo1), .second, .val (.long vl1), .second, .val (.long vo2), .second, .val (.long vl2), .second, .val (.long vof), .second, .val (.long vln), .second, .val (.ref r0), .val (.ref r1), .val (.ref r2), .val (.ref r3), .unset, .unset] []))
  refine Go.step (fun t k => XS.aload X14.here hx rfl (hb hby at_165) rfl rfl k) ?_
  show Go _ _ _ _ _ _ _ (T14.setTop (mkF m 167 #[.val (.int nn), .val (.long qa), .second, .val (.long qb), .second, .val (.long qc), .second, .val (.long qo), .second, .val (.long ql), .second, .val (.int vk), .val (.long vo0), .second, .val (.long vl0), .second, .val (.long vo1), .second, .val (.long vl1), .second, .val (.long vo2), .second, .val (.long vl2), .second, .val (.long vof), .second, .val (.long vln), .second, .val (.ref r0), .val (.ref r1), .val (.ref r2), .val (.ref r3), .unset, .unset] [(.ref r3)]))
  refine Go.step (fun t k => XS.iconst X14.here hx rfl (hb hby at_167) k) ?_
  show Go _ _ _ _ _ _ _ (T14.setTop (mkF m 168 #[.val (.int nn), .val (.long qa), .second, .val (.long qb), .second, .val (.long qc), .second, .val (.long qo), .second, .val (.long ql), .second, .val (.int vk), .val (.long vo0), .second, .val (.long vl0), .second, .val (.long vo1), .second, .val (.long vl1), .second, .val (.long vo2), .second, .val (.long vl2), .second, .val (.long vof), .second, .val (.long vln), .second, .val (.ref r0), .val (.ref r1), .val (.ref r2), .val (.ref r3), .unset, .unset] [(.int (4 : Int32)), (.ref r3)]))
  refine Go.step (fun t k => XS.lload X14.here hx rfl (hb hby at_168) rfl k) ?_
  show Go _ _ _ _ _ _ _ (T14.setTop (mkF m 170 #[.val (.int nn), .val (.long qa), .second, .val (.long qb), .second, .val (.long qc), .second, .val (.long qo), .second, .val (.long ql), .second, .val (.int vk), .val (.long vo0), .second, .val (.long vl0), .second, .val (.long vo1), .second, .val (.long vl1), .second, .val (.long vo2), .second, .val (.long vl2), .second, .val (.long vof), .second, .val (.long vln), .second, .val (.ref r0), .val (.ref r1), .val (.ref r2), .val (.ref r3), .unset, .unset] [(.long vo2), (.int (4 : Int32)), (.ref r3)]))
  obtain ⟨T15, h15, X15, e15, W15, st15⟩ := own_stJ X14 hx hZ e14 A_r3 4 rfl (by decide) (f := (mkF m 170 #[.val (.int nn), .val (.long qa), .second, .val (.long qb), .second, .val (.long qc), .second, .val (.long qo), .second, .val (.long ql), .second, .val (.int vk), .val (.long vo0), .second, .val (.long vl0), .second, .val (.long vo1), .second, .val (.long vl1), .second, .val (.long vo2), .second, .val (.long vl2), .second, .val (.long vof), .second, .val (.long vln), .second, .val (.ref r0), .val (.ref r1), .val (.ref r2), .val (.ref r3), .unset, .unset] [(.long vo2), (.int (4 : Int32)), (.ref r3)])) rfl rfl (hb hby at_170)
  replace A_r0 := A_r0.other W15 ne_r0_r3
  replace A_r1 := A_r1.other W15 ne_r1_r3
  replace A_r2 := A_r2.other W15 ne_r2_r3
  have Z15 := Nat.le_trans Z14 (Keep.of_wr W15).1
  have N15 := Fr.snoc X15 N14 g_r3
  replace A_r3 := A_r3.setJ W15
  refine Go.step st15 ?_
  show Go _ _ _ _ _ _ _ (T15.setTop (mkF m 171 #[.val (.int nn), .val (.long qa), .second, .val (.long qb), .second, .val (.long qc), .second, .val (.long qo), .second, .val (.long ql), .second, .val (.int vk), .val (.long vo0), .second, .val (.long vl0), .second, .val (.long vo1), .second, .val (.long vl1), .second, .val (.long vo2), .second, .val (.long vl2), .second, .val (.long vof), .second, .val (.long vln), .second, .val (.ref r0), .val (.ref r1), .val (.ref r2), .val (.ref r3), .unset, .unset] []))
  refine Go.step (fun t k => XS.aload X15.here hx rfl (hb hby at_171) rfl rfl k) ?_
  show Go _ _ _ _ _ _ _ (T15.setTop (mkF m 173 #[.val (.int nn), .val (.long qa), .second, .val (.long qb), .second, .val (.long qc), .second, .val (.long qo), .second, .val (.long ql), .second, .val (.int vk), .val (.long vo0), .second, .val (.long vl0), .second, .val (.long vo1), .second, .val (.long vl1), .second, .val (.long vo2), .second, .val (.long vl2), .second, .val (.long vof), .second, .val (.long vln), .second, .val (.ref r0), .val (.ref r1), .val (.ref r2), .val (.ref r3), .unset, .unset] [(.ref r3)]))
  refine Go.step (fun t k => XS.iconst X15.here hx rfl (hb hby at_173) k) ?_
  show Go _ _ _ _ _ _ _ (T15.setTop (mkF m 174 #[.val (.int nn), .val (.long qa), .second, .val (.long qb), .second, .val (.long qc), .second, .val (.long qo), .second, .val (.long ql), .second, .val (.int vk), .val (.long vo0), .second, .val (.long vl0), .second, .val (.long vo1), .second, .val (.long vl1), .second, .val (.long vo2), .second, .val (.long vl2), .second, .val (.long vof), .second, .val (.long vln), .second, .val (.ref r0), .val (.ref r1), .val (.ref r2), .val (.ref r3), .unset, .unset] [(.int (5 : Int32)), (.ref r3)]))
  refine Go.step (fun t k => XS.lload X15.here hx rfl (hb hby at_174) rfl k) ?_
  show Go _ _ _ _ _ _ _ (T15.setTop (mkF m 176 #[.val (.int nn), .val (.long qa), .second, .val (.long qb), .second, .val (.long qc), .second, .val (.long qo), .second, .val (.long ql), .second, .val (.int vk), .val (.long vo0), .second, .val (.long vl0), .second, .val (.long vo1), .second, .val (.long vl1), .second, .val (.long vo2), .second, .val (.long vl2), .second, .val (.long vof), .second, .val (.long vln), .second, .val (.ref r0), .val (.ref r1), .val (.ref r2), .val (.ref r3), .unset, .unset] [(.long vl2), (.int (5 : Int32)), (.ref r3)]))
  obtain ⟨T16, h16, X16, e16, W16, st16⟩ := own_stJ X15 hx hZ e15 A_r3 5 rfl (by decide) (f := (mkF m 176 #[.val (.int nn), .val (.long qa), .second, .val (.long qb), .second, .val (.long qc), .second, .val (.long qo), .second, .val (.long ql), .second, .val (.int vk), .val (.long vo0), .second, .val (.long vl0), .second, .val (.long vo1), .second, .val (.long vl1), .second, .val (.long vo2), .second, .val (.long vl2), .second, .val (.long vof), .second, .val (.long vln), .second, .val (.ref r0), .val (.ref r1), .val (.ref r2), .val (.ref r3), .unset, .unset] [(.long vl2), (.int (5 : Int32)), (.ref r3)])) rfl rfl (hb hby at_176)
  replace A_r0 := A_r0.other W16 ne_r0_r3
  replace A_r1 := A_r1.other W16 ne_r1_r3
  replace A_r2 := A_r2.other W16 ne_r2_r3
  have Z16 := Nat.le_trans Z15 (Keep.of_wr W16).1
  have N16 := Fr.snoc X16 N15 g_r3
  replace A_r3 := A_r3.setJ W16
  refine Go.step st16 ?_
  show Go _ _ _ _ _ _ _ (T16.setTop (mkF m 177 #[.val (.int nn), .val (.long qa), .second, .val (.long qb), .second, .val (.long qc), .second, .val (.long qo), .second, .val (.long ql), .second, .val (.int vk), .val (.long vo0), .second, .val (.long vl0), .second, .val (.long vo1), .second, .val (.long vl1), .second, .val (.long vo2), .second, .val (.long vl2), .second, .val (.long vof), .second, .val (.long vln), .second, .val (.ref r0), .val (.ref r1), .val (.ref r2), .val (.ref r3), .unset, .unset] []))
  have hord := own_ord hvo0 hvl0 hvo1 hvl1 hvo2 hvl2
  rcases own_four hvk with hk | hk | hk | hk
  · rw [hk]
    show Go _ _ _ _ _ _ _ (T16.setTop (mkF m 177 #[.val (.int nn), .val (.long qa), .second, .val (.long qb), .second, .val (.long qc), .second, .val (.long qo), .second, .val (.long ql), .second, .val (.int (0 : Int32)), .val (.long vo0), .second, .val (.long vl0), .second, .val (.long vo1), .second, .val (.long vl1), .second, .val (.long vo2), .second, .val (.long vl2), .second, .val (.long vof), .second, .val (.long vln), .second, .val (.ref r0), .val (.ref r1), .val (.ref r2), .val (.ref r3), .unset, .unset] []))
    refine Go.step (fun t k => XS.iload X16.here hx rfl (hb hby at_177) rfl k) ?_
    show Go _ _ _ _ _ _ _ (T16.setTop (mkF m 179 #[.val (.int nn), .val (.long qa), .second, .val (.long qb), .second, .val (.long qc), .second, .val (.long qo), .second, .val (.long ql), .second, .val (.int (0 : Int32)), .val (.long vo0), .second, .val (.long vl0), .second, .val (.long vo1), .second, .val (.long vl1), .second, .val (.long vo2), .second, .val (.long vl2), .second, .val (.long vof), .second, .val (.long vln), .second, .val (.ref r0), .val (.ref r1), .val (.ref r2), .val (.ref r3), .unset, .unset] [(.int (0 : Int32))]))
    refine Go.step (fun t k => XS.ifNo X16.here hx rfl (hb hby at_179) rfl ((if0 _ _).trans (teq (by decide : (0 : Int32) = (0 : Int32))).2) k) ?_
    show Go _ _ _ _ _ _ _ (T16.setTop (mkF m 182 #[.val (.int nn), .val (.long qa), .second, .val (.long qb), .second, .val (.long qc), .second, .val (.long qo), .second, .val (.long ql), .second, .val (.int (0 : Int32)), .val (.long vo0), .second, .val (.long vl0), .second, .val (.long vo1), .second, .val (.long vl1), .second, .val (.long vo2), .second, .val (.long vl2), .second, .val (.long vof), .second, .val (.long vln), .second, .val (.ref r0), .val (.ref r1), .val (.ref r2), .val (.ref r3), .unset, .unset] []))
    refine Go.step (fun t k => XS.aload X16.here hx rfl (hb hby at_182) rfl rfl k) ?_
    show Go _ _ _ _ _ _ _ (T16.setTop (mkF m 184 #[.val (.int nn), .val (.long qa), .second, .val (.long qb), .second, .val (.long qc), .second, .val (.long qo), .second, .val (.long ql), .second, .val (.int (0 : Int32)), .val (.long vo0), .second, .val (.long vl0), .second, .val (.long vo1), .second, .val (.long vl1), .second, .val (.long vo2), .second, .val (.long vl2), .second, .val (.long vof), .second, .val (.long vln), .second, .val (.ref r0), .val (.ref r1), .val (.ref r2), .val (.ref r3), .unset, .unset] [(.ref r0)]))
    refine Go.step (fun t k => XS.goto X16.here hx rfl (pc0 := 184) (pc' := 211) rfl (hb hby at_184) (by decide) (by decide) k) ?_
    show Go _ _ _ _ _ _ _ (T16.setTop (mkF m 211 #[.val (.int nn), .val (.long qa), .second, .val (.long qb), .second, .val (.long qc), .second, .val (.long qo), .second, .val (.long ql), .second, .val (.int (0 : Int32)), .val (.long vo0), .second, .val (.long vl0), .second, .val (.long vo1), .second, .val (.long vl1), .second, .val (.long vo2), .second, .val (.long vl2), .second, .val (.long vof), .second, .val (.long vln), .second, .val (.ref r0), .val (.ref r1), .val (.ref r2), .val (.ref r3), .unset, .unset] [(.ref r0)]))
    refine Go.step (fun t k => XS.astore X16.here hx rfl (hb hby at_211) rfl rfl (l' := #[.val (.int nn), .val (.long qa), .second, .val (.long qb), .second, .val (.long qc), .second, .val (.long qo), .second, .val (.long ql), .second, .val (.int (0 : Int32)), .val (.long vo0), .second, .val (.long vl0), .second, .val (.long vo1), .second, .val (.long vl1), .second, .val (.long vo2), .second, .val (.long vl2), .second, .val (.long vof), .second, .val (.long vln), .second, .val (.ref r0), .val (.ref r1), .val (.ref r2), .val (.ref r3), .val (.ref r0), .unset]) rfl k) ?_
    show Go _ _ _ _ _ _ _ (T16.setTop (mkF m 213 #[.val (.int nn), .val (.long qa), .second, .val (.long qb), .second, .val (.long qc), .second, .val (.long qo), .second, .val (.long ql), .second, .val (.int (0 : Int32)), .val (.long vo0), .second, .val (.long vl0), .second, .val (.long vo1), .second, .val (.long vl1), .second, .val (.long vo2), .second, .val (.long vl2), .second, .val (.long vof), .second, .val (.long vln), .second, .val (.ref r0), .val (.ref r1), .val (.ref r2), .val (.ref r3), .val (.ref r0), .unset] []))
    refine Go.step (fun t k => XS.iload X16.here hx rfl (hb hby at_213) rfl k) ?_
    show Go _ _ _ _ _ _ _ (T16.setTop (mkF m 215 #[.val (.int nn), .val (.long qa), .second, .val (.long qb), .second, .val (.long qc), .second, .val (.long qo), .second, .val (.long ql), .second, .val (.int (0 : Int32)), .val (.long vo0), .second, .val (.long vl0), .second, .val (.long vo1), .second, .val (.long vl1), .second, .val (.long vo2), .second, .val (.long vl2), .second, .val (.long vof), .second, .val (.long vln), .second, .val (.ref r0), .val (.ref r1), .val (.ref r2), .val (.ref r3), .val (.ref r0), .unset] [(.int (0 : Int32))]))
    refine Go.step (fun t k => XS.iconst X16.here hx rfl (hb hby at_215) k) ?_
    show Go _ _ _ _ _ _ _ (T16.setTop (mkF m 216 #[.val (.int nn), .val (.long qa), .second, .val (.long qb), .second, .val (.long qc), .second, .val (.long qo), .second, .val (.long ql), .second, .val (.int (0 : Int32)), .val (.long vo0), .second, .val (.long vl0), .second, .val (.long vo1), .second, .val (.long vl1), .second, .val (.long vo2), .second, .val (.long vl2), .second, .val (.long vof), .second, .val (.long vln), .second, .val (.ref r0), .val (.ref r1), .val (.ref r2), .val (.ref r3), .val (.ref r0), .unset] [(.int (1 : Int32)), (.int (0 : Int32))]))
    refine Go.step (fun t k => XS.icmpYes X16.here hx rfl (pc0 := 216) (pc' := 233) rfl (hb hby at_216) rfl (tlt (by decide : (0 : Int32) < (1 : Int32))).1 (by decide) (by decide) k) ?_
    show Go _ _ _ _ _ _ _ (T16.setTop (mkF m 233 #[.val (.int nn), .val (.long qa), .second, .val (.long qb), .second, .val (.long qc), .second, .val (.long qo), .second, .val (.long ql), .second, .val (.int (0 : Int32)), .val (.long vo0), .second, .val (.long vl0), .second, .val (.long vo1), .second, .val (.long vl1), .second, .val (.long vo2), .second, .val (.long vl2), .second, .val (.long vof), .second, .val (.long vln), .second, .val (.ref r0), .val (.ref r1), .val (.ref r2), .val (.ref r3), .val (.ref r0), .unset] []))
    refine Go.step (fun t k => XS.iload X16.here hx rfl (hb hby at_233) rfl k) ?_
    show Go _ _ _ _ _ _ _ (T16.setTop (mkF m 235 #[.val (.int nn), .val (.long qa), .second, .val (.long qb), .second, .val (.long qc), .second, .val (.long qo), .second, .val (.long ql), .second, .val (.int (0 : Int32)), .val (.long vo0), .second, .val (.long vl0), .second, .val (.long vo1), .second, .val (.long vl1), .second, .val (.long vo2), .second, .val (.long vl2), .second, .val (.long vof), .second, .val (.long vln), .second, .val (.ref r0), .val (.ref r1), .val (.ref r2), .val (.ref r3), .val (.ref r0), .unset] [(.int (0 : Int32))]))
    refine Go.step (fun t k => XS.iconst X16.here hx rfl (hb hby at_235) k) ?_
    show Go _ _ _ _ _ _ _ (T16.setTop (mkF m 236 #[.val (.int nn), .val (.long qa), .second, .val (.long qb), .second, .val (.long qc), .second, .val (.long qo), .second, .val (.long ql), .second, .val (.int (0 : Int32)), .val (.long vo0), .second, .val (.long vl0), .second, .val (.long vo1), .second, .val (.long vl1), .second, .val (.long vo2), .second, .val (.long vl2), .second, .val (.long vof), .second, .val (.long vln), .second, .val (.ref r0), .val (.ref r1), .val (.ref r2), .val (.ref r3), .val (.ref r0), .unset] [(.int (2 : Int32)), (.int (0 : Int32))]))
    refine Go.step (fun t k => XS.icmpYes X16.here hx rfl (pc0 := 236) (pc' := 253) rfl (hb hby at_236) rfl (tlt (by decide : (0 : Int32) < (2 : Int32))).1 (by decide) (by decide) k) ?_
    show Go _ _ _ _ _ _ _ (T16.setTop (mkF m 253 #[.val (.int nn), .val (.long qa), .second, .val (.long qb), .second, .val (.long qc), .second, .val (.long qo), .second, .val (.long ql), .second, .val (.int (0 : Int32)), .val (.long vo0), .second, .val (.long vl0), .second, .val (.long vo1), .second, .val (.long vl1), .second, .val (.long vo2), .second, .val (.long vl2), .second, .val (.long vof), .second, .val (.long vln), .second, .val (.ref r0), .val (.ref r1), .val (.ref r2), .val (.ref r3), .val (.ref r0), .unset] []))
    refine Go.step (fun t k => XS.iload X16.here hx rfl (hb hby at_253) rfl k) ?_
    show Go _ _ _ _ _ _ _ (T16.setTop (mkF m 255 #[.val (.int nn), .val (.long qa), .second, .val (.long qb), .second, .val (.long qc), .second, .val (.long qo), .second, .val (.long ql), .second, .val (.int (0 : Int32)), .val (.long vo0), .second, .val (.long vl0), .second, .val (.long vo1), .second, .val (.long vl1), .second, .val (.long vo2), .second, .val (.long vl2), .second, .val (.long vof), .second, .val (.long vln), .second, .val (.ref r0), .val (.ref r1), .val (.ref r2), .val (.ref r3), .val (.ref r0), .unset] [(.int (0 : Int32))]))
    refine Go.step (fun t k => XS.iconst X16.here hx rfl (hb hby at_255) k) ?_
    show Go _ _ _ _ _ _ _ (T16.setTop (mkF m 256 #[.val (.int nn), .val (.long qa), .second, .val (.long qb), .second, .val (.long qc), .second, .val (.long qo), .second, .val (.long ql), .second, .val (.int (0 : Int32)), .val (.long vo0), .second, .val (.long vl0), .second, .val (.long vo1), .second, .val (.long vl1), .second, .val (.long vo2), .second, .val (.long vl2), .second, .val (.long vof), .second, .val (.long vln), .second, .val (.ref r0), .val (.ref r1), .val (.ref r2), .val (.ref r3), .val (.ref r0), .unset] [(.int (3 : Int32)), (.int (0 : Int32))]))
    refine Go.step (fun t k => XS.icmpYes X16.here hx rfl (pc0 := 256) (pc' := 277) rfl (hb hby at_256) rfl (tlt (by decide : (0 : Int32) < (3 : Int32))).1 (by decide) (by decide) k) ?_
    show Go _ _ _ _ _ _ _ (T16.setTop (mkF m 277 #[.val (.int nn), .val (.long qa), .second, .val (.long qb), .second, .val (.long qc), .second, .val (.long qo), .second, .val (.long ql), .second, .val (.int (0 : Int32)), .val (.long vo0), .second, .val (.long vl0), .second, .val (.long vo1), .second, .val (.long vl1), .second, .val (.long vo2), .second, .val (.long vl2), .second, .val (.long vof), .second, .val (.long vln), .second, .val (.ref r0), .val (.ref r1), .val (.ref r2), .val (.ref r3), .val (.ref r0), .unset] []))
    refine Go.step (fun t k => XS.iconst X16.here hx rfl (hb hby at_277) k) ?_
    show Go _ _ _ _ _ _ _ (T16.setTop (mkF m 278 #[.val (.int nn), .val (.long qa), .second, .val (.long qb), .second, .val (.long qc), .second, .val (.long qo), .second, .val (.long ql), .second, .val (.int (0 : Int32)), .val (.long vo0), .second, .val (.long vl0), .second, .val (.long vo1), .second, .val (.long vl1), .second, .val (.long vo2), .second, .val (.long vl2), .second, .val (.long vof), .second, .val (.long vln), .second, .val (.ref r0), .val (.ref r1), .val (.ref r2), .val (.ref r3), .val (.ref r0), .unset] [(.int (0 : Int32))]))
    refine Go.step (fun t k => XS.istore X16.here hx rfl (hb hby at_278) rfl (l' := #[.val (.int nn), .val (.long qa), .second, .val (.long qb), .second, .val (.long qc), .second, .val (.long qo), .second, .val (.long ql), .second, .val (.int (0 : Int32)), .val (.long vo0), .second, .val (.long vl0), .second, .val (.long vo1), .second, .val (.long vl1), .second, .val (.long vo2), .second, .val (.long vl2), .second, .val (.long vof), .second, .val (.long vln), .second, .val (.ref r0), .val (.ref r1), .val (.ref r2), .val (.ref r3), .val (.ref r0), .val (.int (0 : Int32))]) rfl k) ?_
    show Go _ _ _ _ _ _ _ (T16.setTop (mkF m 280 #[.val (.int nn), .val (.long qa), .second, .val (.long qb), .second, .val (.long qc), .second, .val (.long qo), .second, .val (.long ql), .second, .val (.int (0 : Int32)), .val (.long vo0), .second, .val (.long vl0), .second, .val (.long vo1), .second, .val (.long vl1), .second, .val (.long vo2), .second, .val (.long vl2), .second, .val (.long vof), .second, .val (.long vln), .second, .val (.ref r0), .val (.ref r1), .val (.ref r2), .val (.ref r3), .val (.ref r0), .val (.int (0 : Int32))] []))
    refine Go.step (fun t k => XS.aload X16.here hx rfl (hb hby at_280) rfl rfl k) ?_
    show Go _ _ _ _ _ _ _ (T16.setTop (mkF m 282 #[.val (.int nn), .val (.long qa), .second, .val (.long qb), .second, .val (.long qc), .second, .val (.long qo), .second, .val (.long ql), .second, .val (.int (0 : Int32)), .val (.long vo0), .second, .val (.long vl0), .second, .val (.long vo1), .second, .val (.long vl1), .second, .val (.long vo2), .second, .val (.long vl2), .second, .val (.long vof), .second, .val (.long vln), .second, .val (.ref r0), .val (.ref r1), .val (.ref r2), .val (.ref r3), .val (.ref r0), .val (.int (0 : Int32))] [(.ref r0)]))
    refine Go.step (fun t k => XS.lload X16.here hx rfl (hb hby at_282) rfl k) ?_
    show Go _ _ _ _ _ _ _ (T16.setTop (mkF m 284 #[.val (.int nn), .val (.long qa), .second, .val (.long qb), .second, .val (.long qc), .second, .val (.long qo), .second, .val (.long ql), .second, .val (.int (0 : Int32)), .val (.long vo0), .second, .val (.long vl0), .second, .val (.long vo1), .second, .val (.long vl1), .second, .val (.long vo2), .second, .val (.long vl2), .second, .val (.long vof), .second, .val (.long vln), .second, .val (.ref r0), .val (.ref r1), .val (.ref r2), .val (.ref r3), .val (.ref r0), .val (.int (0 : Int32))] [(.long vof), (.ref r0)]))
    refine Go.step (fun t k => XS.lload X16.here hx rfl (hb hby at_284) rfl k) ?_
    show Go _ _ _ _ _ _ _ (T16.setTop (mkF m 286 #[.val (.int nn), .val (.long qa), .second, .val (.long qb), .second, .val (.long qc), .second, .val (.long qo), .second, .val (.long ql), .second, .val (.int (0 : Int32)), .val (.long vo0), .second, .val (.long vl0), .second, .val (.long vo1), .second, .val (.long vl1), .second, .val (.long vo2), .second, .val (.long vl2), .second, .val (.long vof), .second, .val (.long vln), .second, .val (.ref r0), .val (.ref r1), .val (.ref r2), .val (.ref r3), .val (.ref r0), .val (.int (0 : Int32))] [(.long vln), (.long vof), (.ref r0)]))
    obtain ⟨_, _, ⟨T17, L17, k17, n17⟩, -, X17, ⟨Lc17, hQ17, l17, y17, z17⟩, st17⟩ := Jvm.LawKit.callS X16 hx (y := (⟨"com/example/rootkeep/rootkeep/file/FreeSpace", "overlaps", "([JJJ)Z"⟩ : MethodName)) hown (mvT hZ (hw _ (List.mem_of_getElem? (i := 4) rfl))) (mvT hZ (hw _ (List.mem_of_getElem? (i := 5) rfl))) (mvT hZ (hw _ (List.mem_of_getElem? (i := 6) rfl))) (mvT hZ (hw _ (List.mem_of_getElem? (i := 7) rfl))) (by decide) (backOf (W := 0) (rm1_0 l Z a0 hw [] r0 vof vln h16 n0 Z16 A_r0) hZ (hw _ (List.mem_of_getElem? (i := 7) rfl)) (hw _ (List.mem_of_getElem? (i := 6) rfl)) (by decide) (by decide)) (g := (mkF m 286 #[.val (.int nn), .val (.long qa), .second, .val (.long qb), .second, .val (.long qc), .second, .val (.long qo), .second, .val (.long ql), .second, .val (.int (0 : Int32)), .val (.long vo0), .second, .val (.long vl0), .second, .val (.long vo1), .second, .val (.long vl1), .second, .val (.long vo2), .second, .val (.long vl2), .second, .val (.long vof), .second, .val (.long vln), .second, .val (.ref r0), .val (.ref r1), .val (.ref r2), .val (.ref r3), .val (.ref r0), .val (.int (0 : Int32))] [(.long vln), (.long vof), (.ref r0)])) rfl (by rw [hml]; rfl) (argsL := [(.ref r0), (.long vof), (.long vln)]) (rest := []) (lenOf pd_0_0 rfl) rfl (by show 2 * 0 + _ ≤ _; exact Nat.le_of_eq rfl) (hb hby at_286) (fun _ _ => ⟨rfl, e16, (by decide : 4 + 0 ≤ _), (by decide : 12 + 0 ≤ _)⟩)
    dsimp only [Pt.U, Pt.locs, Pt.cells, Pt.slots] at X17 l17 y17 z17 st17 hQ17
    subst l17 y17 z17
    obtain ⟨z_17, rfl, N17q, K17q, o17_hz⟩ := hQ17
    have N17 := Fr.app N16 N17q
    refine Go.step st17 ?_
    show Go _ _ _ _ _ _ _ (T17.setTop (mkF m 289 #[.val (.int nn), .val (.long qa), .second, .val (.long qb), .second, .val (.long qc), .second, .val (.long qo), .second, .val (.long ql), .second, .val (.int (0 : Int32)), .val (.long vo0), .second, .val (.long vl0), .second, .val (.long vo1), .second, .val (.long vl1), .second, .val (.long vo2), .second, .val (.long vl2), .second, .val (.long vof), .second, .val (.long vln), .second, .val (.ref r0), .val (.ref r1), .val (.ref r2), .val (.ref r3), .val (.ref r0), .val (.int (0 : Int32))] [(.int z_17)]))
    refine Go.step (fun t k => XS.iload X17.here hx rfl (hb hby at_289) rfl k) ?_
    show Go _ _ _ _ _ _ _ (T17.setTop (mkF m 291 #[.val (.int nn), .val (.long qa), .second, .val (.long qb), .second, .val (.long qc), .second, .val (.long qo), .second, .val (.long ql), .second, .val (.int (0 : Int32)), .val (.long vo0), .second, .val (.long vl0), .second, .val (.long vo1), .second, .val (.long vl1), .second, .val (.long vo2), .second, .val (.long vl2), .second, .val (.long vof), .second, .val (.long vln), .second, .val (.ref r0), .val (.ref r1), .val (.ref r2), .val (.ref r3), .val (.ref r0), .val (.int (0 : Int32))] [(.int (0 : Int32)), (.int z_17)]))
    refine Go.step (fun t k => XS.icmpNo X17.here hx rfl (hb hby at_291) rfl (teq (own_zero o17_hz (fun r => r.elim) : z_17 = (0 : Int32))).2 k) ?_
    show Go _ _ _ _ _ _ _ (T17.setTop (mkF m 294 #[.val (.int nn), .val (.long qa), .second, .val (.long qb), .second, .val (.long qc), .second, .val (.long qo), .second, .val (.long ql), .second, .val (.int (0 : Int32)), .val (.long vo0), .second, .val (.long vl0), .second, .val (.long vo1), .second, .val (.long vl1), .second, .val (.long vo2), .second, .val (.long vl2), .second, .val (.long vof), .second, .val (.long vln), .second, .val (.ref r0), .val (.ref r1), .val (.ref r2), .val (.ref r3), .val (.ref r0), .val (.int (0 : Int32))] []))
    refine Go.step (fun t k => XS.iconst X17.here hx rfl (hb hby at_294) k) ?_
    show Go _ _ _ _ _ _ _ (T17.setTop (mkF m 295 #[.val (.int nn), .val (.long qa), .second, .val (.long qb), .second, .val (.long qc), .second, .val (.long qo), .second, .val (.long ql), .second, .val (.int (0 : Int32)), .val (.long vo0), .second, .val (.long vl0), .second, .val (.long vo1), .second, .val (.long vl1), .second, .val (.long vo2), .second, .val (.long vl2), .second, .val (.long vof), .second, .val (.long vln), .second, .val (.ref r0), .val (.ref r1), .val (.ref r2), .val (.ref r3), .val (.ref r0), .val (.int (0 : Int32))] [(.int (1 : Int32))]))
    refine Go.step (fun t k => XS.goto X17.here hx rfl (pc0 := 295) (pc' := 299) rfl (hb hby at_295) (by decide) (by decide) k) ?_
    show Go _ _ _ _ _ _ _ (T17.setTop (mkF m 299 #[.val (.int nn), .val (.long qa), .second, .val (.long qb), .second, .val (.long qc), .second, .val (.long qo), .second, .val (.long ql), .second, .val (.int (0 : Int32)), .val (.long vo0), .second, .val (.long vl0), .second, .val (.long vo1), .second, .val (.long vl1), .second, .val (.long vo2), .second, .val (.long vl2), .second, .val (.long vof), .second, .val (.long vln), .second, .val (.ref r0), .val (.ref r1), .val (.ref r2), .val (.ref r3), .val (.ref r0), .val (.int (0 : Int32))] [(.int (1 : Int32))]))
    refine Go.retN X17 Bd.notSynchronized hx (t := .boolean) Bd.returns (by simp) (hb hby at_299) (by decide) (by decide) (1 : Int32) rfl ?_
    rw [K17q]
    exact ⟨rfl, N17⟩
  · rw [hk]
    show Go _ _ _ _ _ _ _ (T16.setTop (mkF m 177 #[.val (.int nn), .val (.long qa), .second, .val (.long qb), .second, .val (.long qc), .second, .val (.long qo), .second, .val (.long ql), .second, .val (.int (1 : Int32)), .val (.long vo0), .second, .val (.long vl0), .second, .val (.long vo1), .second, .val (.long vl1), .second, .val (.long vo2), .second, .val (.long vl2), .second, .val (.long vof), .second, .val (.long vln), .second, .val (.ref r0), .val (.ref r1), .val (.ref r2), .val (.ref r3), .unset, .unset] []))
    refine Go.step (fun t k => XS.iload X16.here hx rfl (hb hby at_177) rfl k) ?_
    show Go _ _ _ _ _ _ _ (T16.setTop (mkF m 179 #[.val (.int nn), .val (.long qa), .second, .val (.long qb), .second, .val (.long qc), .second, .val (.long qo), .second, .val (.long ql), .second, .val (.int (1 : Int32)), .val (.long vo0), .second, .val (.long vl0), .second, .val (.long vo1), .second, .val (.long vl1), .second, .val (.long vo2), .second, .val (.long vl2), .second, .val (.long vof), .second, .val (.long vln), .second, .val (.ref r0), .val (.ref r1), .val (.ref r2), .val (.ref r3), .unset, .unset] [(.int (1 : Int32))]))
    refine Go.step (fun t k => XS.ifYes X16.here hx rfl (pc0 := 179) (pc' := 187) rfl (hb hby at_179) rfl ((if0 _ _).trans (feq (by decide : ¬ (1 : Int32) = (0 : Int32))).2) (by decide) (by decide) k) ?_
    show Go _ _ _ _ _ _ _ (T16.setTop (mkF m 187 #[.val (.int nn), .val (.long qa), .second, .val (.long qb), .second, .val (.long qc), .second, .val (.long qo), .second, .val (.long ql), .second, .val (.int (1 : Int32)), .val (.long vo0), .second, .val (.long vl0), .second, .val (.long vo1), .second, .val (.long vl1), .second, .val (.long vo2), .second, .val (.long vl2), .second, .val (.long vof), .second, .val (.long vln), .second, .val (.ref r0), .val (.ref r1), .val (.ref r2), .val (.ref r3), .unset, .unset] []))
    refine Go.step (fun t k => XS.iload X16.here hx rfl (hb hby at_187) rfl k) ?_
    show Go _ _ _ _ _ _ _ (T16.setTop (mkF m 189 #[.val (.int nn), .val (.long qa), .second, .val (.long qb), .second, .val (.long qc), .second, .val (.long qo), .second, .val (.long ql), .second, .val (.int (1 : Int32)), .val (.long vo0), .second, .val (.long vl0), .second, .val (.long vo1), .second, .val (.long vl1), .second, .val (.long vo2), .second, .val (.long vl2), .second, .val (.long vof), .second, .val (.long vln), .second, .val (.ref r0), .val (.ref r1), .val (.ref r2), .val (.ref r3), .unset, .unset] [(.int (1 : Int32))]))
    refine Go.step (fun t k => XS.iconst X16.here hx rfl (hb hby at_189) k) ?_
    show Go _ _ _ _ _ _ _ (T16.setTop (mkF m 190 #[.val (.int nn), .val (.long qa), .second, .val (.long qb), .second, .val (.long qc), .second, .val (.long qo), .second, .val (.long ql), .second, .val (.int (1 : Int32)), .val (.long vo0), .second, .val (.long vl0), .second, .val (.long vo1), .second, .val (.long vl1), .second, .val (.long vo2), .second, .val (.long vl2), .second, .val (.long vof), .second, .val (.long vln), .second, .val (.ref r0), .val (.ref r1), .val (.ref r2), .val (.ref r3), .unset, .unset] [(.int (1 : Int32)), (.int (1 : Int32))]))
    refine Go.step (fun t k => XS.icmpNo X16.here hx rfl (hb hby at_190) rfl (teq (by decide : (1 : Int32) = (1 : Int32))).2 k) ?_
    show Go _ _ _ _ _ _ _ (T16.setTop (mkF m 193 #[.val (.int nn), .val (.long qa), .second, .val (.long qb), .second, .val (.long qc), .second, .val (.long qo), .second, .val (.long ql), .second, .val (.int (1 : Int32)), .val (.long vo0), .second, .val (.long vl0), .second, .val (.long vo1), .second, .val (.long vl1), .second, .val (.long vo2), .second, .val (.long vl2), .second, .val (.long vof), .second, .val (.long vln), .second, .val (.ref r0), .val (.ref r1), .val (.ref r2), .val (.ref r3), .unset, .unset] []))
    refine Go.step (fun t k => XS.aload X16.here hx rfl (hb hby at_193) rfl rfl k) ?_
    show Go _ _ _ _ _ _ _ (T16.setTop (mkF m 195 #[.val (.int nn), .val (.long qa), .second, .val (.long qb), .second, .val (.long qc), .second, .val (.long qo), .second, .val (.long ql), .second, .val (.int (1 : Int32)), .val (.long vo0), .second, .val (.long vl0), .second, .val (.long vo1), .second, .val (.long vl1), .second, .val (.long vo2), .second, .val (.long vl2), .second, .val (.long vof), .second, .val (.long vln), .second, .val (.ref r0), .val (.ref r1), .val (.ref r2), .val (.ref r3), .unset, .unset] [(.ref r1)]))
    refine Go.step (fun t k => XS.goto X16.here hx rfl (pc0 := 195) (pc' := 211) rfl (hb hby at_195) (by decide) (by decide) k) ?_
    show Go _ _ _ _ _ _ _ (T16.setTop (mkF m 211 #[.val (.int nn), .val (.long qa), .second, .val (.long qb), .second, .val (.long qc), .second, .val (.long qo), .second, .val (.long ql), .second, .val (.int (1 : Int32)), .val (.long vo0), .second, .val (.long vl0), .second, .val (.long vo1), .second, .val (.long vl1), .second, .val (.long vo2), .second, .val (.long vl2), .second, .val (.long vof), .second, .val (.long vln), .second, .val (.ref r0), .val (.ref r1), .val (.ref r2), .val (.ref r3), .unset, .unset] [(.ref r1)]))
    refine Go.step (fun t k => XS.astore X16.here hx rfl (hb hby at_211) rfl rfl (l' := #[.val (.int nn), .val (.long qa), .second, .val (.long qb), .second, .val (.long qc), .second, .val (.long qo), .second, .val (.long ql), .second, .val (.int (1 : Int32)), .val (.long vo0), .second, .val (.long vl0), .second, .val (.long vo1), .second, .val (.long vl1), .second, .val (.long vo2), .second, .val (.long vl2), .second, .val (.long vof), .second, .val (.long vln), .second, .val (.ref r0), .val (.ref r1), .val (.ref r2), .val (.ref r3), .val (.ref r1), .unset]) rfl k) ?_
    show Go _ _ _ _ _ _ _ (T16.setTop (mkF m 213 #[.val (.int nn), .val (.long qa), .second, .val (.long qb), .second, .val (.long qc), .second, .val (.long qo), .second, .val (.long ql), .second, .val (.int (1 : Int32)), .val (.long vo0), .second, .val (.long vl0), .second, .val (.long vo1), .second, .val (.long vl1), .second, .val (.long vo2), .second, .val (.long vl2), .second, .val (.long vof), .second, .val (.long vln), .second, .val (.ref r0), .val (.ref r1), .val (.ref r2), .val (.ref r3), .val (.ref r1), .unset] []))
    refine Go.step (fun t k => XS.iload X16.here hx rfl (hb hby at_213) rfl k) ?_
    show Go _ _ _ _ _ _ _ (T16.setTop (mkF m 215 #[.val (.int nn), .val (.long qa), .second, .val (.long qb), .second, .val (.long qc), .second, .val (.long qo), .second, .val (.long ql), .second, .val (.int (1 : Int32)), .val (.long vo0), .second, .val (.long vl0), .second, .val (.long vo1), .second, .val (.long vl1), .second, .val (.long vo2), .second, .val (.long vl2), .second, .val (.long vof), .second, .val (.long vln), .second, .val (.ref r0), .val (.ref r1), .val (.ref r2), .val (.ref r3), .val (.ref r1), .unset] [(.int (1 : Int32))]))
    refine Go.step (fun t k => XS.iconst X16.here hx rfl (hb hby at_215) k) ?_
    show Go _ _ _ _ _ _ _ (T16.setTop (mkF m 216 #[.val (.int nn), .val (.long qa), .second, .val (.long qb), .second, .val (.long qc), .second, .val (.long qo), .second, .val (.long ql), .second, .val (.int (1 : Int32)), .val (.long vo0), .second, .val (.long vl0), .second, .val (.long vo1), .second, .val (.long vl1), .second, .val (.long vo2), .second, .val (.long vl2), .second, .val (.long vof), .second, .val (.long vln), .second, .val (.ref r0), .val (.ref r1), .val (.ref r2), .val (.ref r3), .val (.ref r1), .unset] [(.int (1 : Int32)), (.int (1 : Int32))]))
    refine Go.step (fun t k => XS.icmpNo X16.here hx rfl (hb hby at_216) rfl (flt (by decide : ¬ (1 : Int32) < (1 : Int32))).1 k) ?_
    show Go _ _ _ _ _ _ _ (T16.setTop (mkF m 219 #[.val (.int nn), .val (.long qa), .second, .val (.long qb), .second, .val (.long qc), .second, .val (.long qo), .second, .val (.long ql), .second, .val (.int (1 : Int32)), .val (.long vo0), .second, .val (.long vl0), .second, .val (.long vo1), .second, .val (.long vl1), .second, .val (.long vo2), .second, .val (.long vl2), .second, .val (.long vof), .second, .val (.long vln), .second, .val (.ref r0), .val (.ref r1), .val (.ref r2), .val (.ref r3), .val (.ref r1), .unset] []))
    refine Go.step (fun t k => XS.lload X16.here hx rfl (hb hby at_219) rfl k) ?_
    show Go _ _ _ _ _ _ _ (T16.setTop (mkF m 221 #[.val (.int nn), .val (.long qa), .second, .val (.long qb), .second, .val (.long qc), .second, .val (.long qo), .second, .val (.long ql), .second, .val (.int (1 : Int32)), .val (.long vo0), .second, .val (.long vl0), .second, .val (.long vo1), .second, .val (.long vl1), .second, .val (.long vo2), .second, .val (.long vl2), .second, .val (.long vof), .second, .val (.long vln), .second, .val (.ref r0), .val (.ref r1), .val (.ref r2), .val (.ref r3), .val (.ref r1), .unset] [(.long vo0)]))
    refine Go.step (fun t k => XS.lload X16.here hx rfl (hb hby at_221) rfl k) ?_
    show Go _ _ _ _ _ _ _ (T16.setTop (mkF m 223 #[.val (.int nn), .val (.long qa), .second, .val (.long qb), .second, .val (.long qc), .second, .val (.long qo), .second, .val (.long ql), .second, .val (.int (1 : Int32)), .val (.long vo0), .second, .val (.long vl0), .second, .val (.long vo1), .second, .val (.long vl1), .second, .val (.long vo2), .second, .val (.long vl2), .second, .val (.long vof), .second, .val (.long vln), .second, .val (.ref r0), .val (.ref r1), .val (.ref r2), .val (.ref r3), .val (.ref r1), .unset] [(.long vl0), (.long vo0)]))
    refine Go.step (fun t k => XS.lload X16.here hx rfl (hb hby at_223) rfl k) ?_
    show Go _ _ _ _ _ _ _ (T16.setTop (mkF m 225 #[.val (.int nn), .val (.long qa), .second, .val (.long qb), .second, .val (.long qc), .second, .val (.long qo), .second, .val (.long ql), .second, .val (.int (1 : Int32)), .val (.long vo0), .second, .val (.long vl0), .second, .val (.long vo1), .second, .val (.long vl1), .second, .val (.long vo2), .second, .val (.long vl2), .second, .val (.long vof), .second, .val (.long vln), .second, .val (.ref r0), .val (.ref r1), .val (.ref r2), .val (.ref r3), .val (.ref r1), .unset] [(.long vof), (.long vl0), (.long vo0)]))
    refine Go.step (fun t k => XS.lload X16.here hx rfl (hb hby at_225) rfl k) ?_
    show Go _ _ _ _ _ _ _ (T16.setTop (mkF m 227 #[.val (.int nn), .val (.long qa), .second, .val (.long qb), .second, .val (.long qc), .second, .val (.long qo), .second, .val (.long ql), .second, .val (.int (1 : Int32)), .val (.long vo0), .second, .val (.long vl0), .second, .val (.long vo1), .second, .val (.long vl1), .second, .val (.long vo2), .second, .val (.long vl2), .second, .val (.long vof), .second, .val (.long vln), .second, .val (.ref r0), .val (.ref r1), .val (.ref r2), .val (.ref r3), .val (.ref r1), .unset] [(.long vln), (.long vof), (.long vl0), (.long vo0)]))
    obtain ⟨_, _, ⟨T18, L18, k18, n18⟩, -, X18, ⟨Lc18, hQ18, l18, y18, z18⟩, st18⟩ := Jvm.LawKit.callS X16 hx (y := (⟨"com/example/rootkeep/rootkeep/file/FreeSpaceOverlapsPinLaw", "hits", "(JJJJ)Z"⟩ : MethodName)) hown (mvT hZ (hw _ (List.mem_of_getElem? (i := 8) rfl))) (mvT hZ (hw _ (List.mem_of_getElem? (i := 9) rfl))) (mvT hZ (hw _ (List.mem_of_getElem? (i := 10) rfl))) (mvT hZ (hw _ (List.mem_of_getElem? (i := 11) rfl))) (by decide) (backOf (W := 0) (rm2 l Z a0 hw [] vo0 vl0 vof vln h16 n0 Z16) hZ (hw _ (List.mem_of_getElem? (i := 11) rfl)) (hw _ (List.mem_of_getElem? (i := 10) rfl)) (by decide) (by decide)) (g := (mkF m 227 #[.val (.int nn), .val (.long qa), .second, .val (.long qb), .second, .val (.long qc), .second, .val (.long qo), .second, .val (.long ql), .second, .val (.int (1 : Int32)), .val (.long vo0), .second, .val (.long vl0), .second, .val (.long vo1), .second, .val (.long vl1), .second, .val (.long vo2), .second, .val (.long vl2), .second, .val (.long vof), .second, .val (.long vln), .second, .val (.ref r0), .val (.ref r1), .val (.ref r2), .val (.ref r3), .val (.ref r1), .unset] [(.long vln), (.long vof), (.long vl0), (.long vo0)])) rfl (by rw [hml]; rfl) (argsL := [(.long vo0), (.long vl0), (.long vof), (.long vln)]) (rest := []) (lenOf pd_0_1 rfl) rfl (by show 2 * 0 + _ ≤ _; exact Nat.le_of_eq rfl) (hb hby at_227) (fun _ _ => ⟨rfl, e16, (by decide : 4 + 0 ≤ _), (by decide : 12 + 0 ≤ _)⟩)
    dsimp only [Pt.U, Pt.locs, Pt.cells, Pt.slots] at X18 l18 y18 z18 st18 hQ18
    subst l18 y18 z18
    obtain ⟨z_18, rfl, N18q, K18q, o18_hz⟩ := hQ18
    have N18 := Fr.app N16 N18q
    refine Go.step st18 ?_
    show Go _ _ _ _ _ _ _ (T18.setTop (mkF m 230 #[.val (.int nn), .val (.long qa), .second, .val (.long qb), .second, .val (.long qc), .second, .val (.long qo), .second, .val (.long ql), .second, .val (.int (1 : Int32)), .val (.long vo0), .second, .val (.long vl0), .second, .val (.long vo1), .second, .val (.long vl1), .second, .val (.long vo2), .second, .val (.long vl2), .second, .val (.long vof), .second, .val (.long vln), .second, .val (.ref r0), .val (.ref r1), .val (.ref r2), .val (.ref r3), .val (.ref r1), .unset] [(.int z_18)]))
    by_cases hc230_19 : z_18 = (0 : Int32)
    · refine Go.step (fun t k => XS.ifNo X18.here hx rfl (hb hby at_230) rfl ((if0 _ _).trans (teq hc230_19).2) k) ?_
      show Go _ _ _ _ _ _ _ (T18.setTop (mkF m 233 #[.val (.int nn), .val (.long qa), .second, .val (.long qb), .second, .val (.long qc), .second, .val (.long qo), .second, .val (.long ql), .second, .val (.int (1 : Int32)), .val (.long vo0), .second, .val (.long vl0), .second, .val (.long vo1), .second, .val (.long vl1), .second, .val (.long vo2), .second, .val (.long vl2), .second, .val (.long vof), .second, .val (.long vln), .second, .val (.ref r0), .val (.ref r1), .val (.ref r2), .val (.ref r3), .val (.ref r1), .unset] []))
      refine Go.step (fun t k => XS.iload X18.here hx rfl (hb hby at_233) rfl k) ?_
      show Go _ _ _ _ _ _ _ (T18.setTop (mkF m 235 #[.val (.int nn), .val (.long qa), .second, .val (.long qb), .second, .val (.long qc), .second, .val (.long qo), .second, .val (.long ql), .second, .val (.int (1 : Int32)), .val (.long vo0), .second, .val (.long vl0), .second, .val (.long vo1), .second, .val (.long vl1), .second, .val (.long vo2), .second, .val (.long vl2), .second, .val (.long vof), .second, .val (.long vln), .second, .val (.ref r0), .val (.ref r1), .val (.ref r2), .val (.ref r3), .val (.ref r1), .unset] [(.int (1 : Int32))]))
      refine Go.step (fun t k => XS.iconst X18.here hx rfl (hb hby at_235) k) ?_
      show Go _ _ _ _ _ _ _ (T18.setTop (mkF m 236 #[.val (.int nn), .val (.long qa), .second, .val (.long qb), .second, .val (.long qc), .second, .val (.long qo), .second, .val (.long ql), .second, .val (.int (1 : Int32)), .val (.long vo0), .second, .val (.long vl0), .second, .val (.long vo1), .second, .val (.long vl1), .second, .val (.long vo2), .second, .val (.long vl2), .second, .val (.long vof), .second, .val (.long vln), .second, .val (.ref r0), .val (.ref r1), .val (.ref r2), .val (.ref r3), .val (.ref r1), .unset] [(.int (2 : Int32)), (.int (1 : Int32))]))
      refine Go.step (fun t k => XS.icmpYes X18.here hx rfl (pc0 := 236) (pc' := 253) rfl (hb hby at_236) rfl (tlt (by decide : (1 : Int32) < (2 : Int32))).1 (by decide) (by decide) k) ?_
      show Go _ _ _ _ _ _ _ (T18.setTop (mkF m 253 #[.val (.int nn), .val (.long qa), .second, .val (.long qb), .second, .val (.long qc), .second, .val (.long qo), .second, .val (.long ql), .second, .val (.int (1 : Int32)), .val (.long vo0), .second, .val (.long vl0), .second, .val (.long vo1), .second, .val (.long vl1), .second, .val (.long vo2), .second, .val (.long vl2), .second, .val (.long vof), .second, .val (.long vln), .second, .val (.ref r0), .val (.ref r1), .val (.ref r2), .val (.ref r3), .val (.ref r1), .unset] []))
      refine Go.step (fun t k => XS.iload X18.here hx rfl (hb hby at_253) rfl k) ?_
      show Go _ _ _ _ _ _ _ (T18.setTop (mkF m 255 #[.val (.int nn), .val (.long qa), .second, .val (.long qb), .second, .val (.long qc), .second, .val (.long qo), .second, .val (.long ql), .second, .val (.int (1 : Int32)), .val (.long vo0), .second, .val (.long vl0), .second, .val (.long vo1), .second, .val (.long vl1), .second, .val (.long vo2), .second, .val (.long vl2), .second, .val (.long vof), .second, .val (.long vln), .second, .val (.ref r0), .val (.ref r1), .val (.ref r2), .val (.ref r3), .val (.ref r1), .unset] [(.int (1 : Int32))]))
      refine Go.step (fun t k => XS.iconst X18.here hx rfl (hb hby at_255) k) ?_
      show Go _ _ _ _ _ _ _ (T18.setTop (mkF m 256 #[.val (.int nn), .val (.long qa), .second, .val (.long qb), .second, .val (.long qc), .second, .val (.long qo), .second, .val (.long ql), .second, .val (.int (1 : Int32)), .val (.long vo0), .second, .val (.long vl0), .second, .val (.long vo1), .second, .val (.long vl1), .second, .val (.long vo2), .second, .val (.long vl2), .second, .val (.long vof), .second, .val (.long vln), .second, .val (.ref r0), .val (.ref r1), .val (.ref r2), .val (.ref r3), .val (.ref r1), .unset] [(.int (3 : Int32)), (.int (1 : Int32))]))
      refine Go.step (fun t k => XS.icmpYes X18.here hx rfl (pc0 := 256) (pc' := 277) rfl (hb hby at_256) rfl (tlt (by decide : (1 : Int32) < (3 : Int32))).1 (by decide) (by decide) k) ?_
      show Go _ _ _ _ _ _ _ (T18.setTop (mkF m 277 #[.val (.int nn), .val (.long qa), .second, .val (.long qb), .second, .val (.long qc), .second, .val (.long qo), .second, .val (.long ql), .second, .val (.int (1 : Int32)), .val (.long vo0), .second, .val (.long vl0), .second, .val (.long vo1), .second, .val (.long vl1), .second, .val (.long vo2), .second, .val (.long vl2), .second, .val (.long vof), .second, .val (.long vln), .second, .val (.ref r0), .val (.ref r1), .val (.ref r2), .val (.ref r3), .val (.ref r1), .unset] []))
      refine Go.step (fun t k => XS.iconst X18.here hx rfl (hb hby at_277) k) ?_
      show Go _ _ _ _ _ _ _ (T18.setTop (mkF m 278 #[.val (.int nn), .val (.long qa), .second, .val (.long qb), .second, .val (.long qc), .second, .val (.long qo), .second, .val (.long ql), .second, .val (.int (1 : Int32)), .val (.long vo0), .second, .val (.long vl0), .second, .val (.long vo1), .second, .val (.long vl1), .second, .val (.long vo2), .second, .val (.long vl2), .second, .val (.long vof), .second, .val (.long vln), .second, .val (.ref r0), .val (.ref r1), .val (.ref r2), .val (.ref r3), .val (.ref r1), .unset] [(.int (0 : Int32))]))
      refine Go.step (fun t k => XS.istore X18.here hx rfl (hb hby at_278) rfl (l' := #[.val (.int nn), .val (.long qa), .second, .val (.long qb), .second, .val (.long qc), .second, .val (.long qo), .second, .val (.long ql), .second, .val (.int (1 : Int32)), .val (.long vo0), .second, .val (.long vl0), .second, .val (.long vo1), .second, .val (.long vl1), .second, .val (.long vo2), .second, .val (.long vl2), .second, .val (.long vof), .second, .val (.long vln), .second, .val (.ref r0), .val (.ref r1), .val (.ref r2), .val (.ref r3), .val (.ref r1), .val (.int (0 : Int32))]) rfl k) ?_
      show Go _ _ _ _ _ _ _ (T18.setTop (mkF m 280 #[.val (.int nn), .val (.long qa), .second, .val (.long qb), .second, .val (.long qc), .second, .val (.long qo), .second, .val (.long ql), .second, .val (.int (1 : Int32)), .val (.long vo0), .second, .val (.long vl0), .second, .val (.long vo1), .second, .val (.long vl1), .second, .val (.long vo2), .second, .val (.long vl2), .second, .val (.long vof), .second, .val (.long vln), .second, .val (.ref r0), .val (.ref r1), .val (.ref r2), .val (.ref r3), .val (.ref r1), .val (.int (0 : Int32))] []))
      refine Go.step (fun t k => XS.aload X18.here hx rfl (hb hby at_280) rfl rfl k) ?_
      show Go _ _ _ _ _ _ _ (T18.setTop (mkF m 282 #[.val (.int nn), .val (.long qa), .second, .val (.long qb), .second, .val (.long qc), .second, .val (.long qo), .second, .val (.long ql), .second, .val (.int (1 : Int32)), .val (.long vo0), .second, .val (.long vl0), .second, .val (.long vo1), .second, .val (.long vl1), .second, .val (.long vo2), .second, .val (.long vl2), .second, .val (.long vof), .second, .val (.long vln), .second, .val (.ref r0), .val (.ref r1), .val (.ref r2), .val (.ref r3), .val (.ref r1), .val (.int (0 : Int32))] [(.ref r1)]))
      refine Go.step (fun t k => XS.lload X18.here hx rfl (hb hby at_282) rfl k) ?_
      show Go _ _ _ _ _ _ _ (T18.setTop (mkF m 284 #[.val (.int nn), .val (.long qa), .second, .val (.long qb), .second, .val (.long qc), .second, .val (.long qo), .second, .val (.long ql), .second, .val (.int (1 : Int32)), .val (.long vo0), .second, .val (.long vl0), .second, .val (.long vo1), .second, .val (.long vl1), .second, .val (.long vo2), .second, .val (.long vl2), .second, .val (.long vof), .second, .val (.long vln), .second, .val (.ref r0), .val (.ref r1), .val (.ref r2), .val (.ref r3), .val (.ref r1), .val (.int (0 : Int32))] [(.long vof), (.ref r1)]))
      refine Go.step (fun t k => XS.lload X18.here hx rfl (hb hby at_284) rfl k) ?_
      show Go _ _ _ _ _ _ _ (T18.setTop (mkF m 286 #[.val (.int nn), .val (.long qa), .second, .val (.long qb), .second, .val (.long qc), .second, .val (.long qo), .second, .val (.long ql), .second, .val (.int (1 : Int32)), .val (.long vo0), .second, .val (.long vl0), .second, .val (.long vo1), .second, .val (.long vl1), .second, .val (.long vo2), .second, .val (.long vl2), .second, .val (.long vof), .second, .val (.long vln), .second, .val (.ref r0), .val (.ref r1), .val (.ref r2), .val (.ref r3), .val (.ref r1), .val (.int (0 : Int32))] [(.long vln), (.long vof), (.ref r1)]))
      obtain ⟨_, _, ⟨T20, L20, k20, n20⟩, -, X20, ⟨Lc20, hQ20, l20, y20, z20⟩, st20⟩ := Jvm.LawKit.callS X18 hx (y := (⟨"com/example/rootkeep/rootkeep/file/FreeSpace", "overlaps", "([JJJ)Z"⟩ : MethodName)) hown (mvT hZ (hw _ (List.mem_of_getElem? (i := 4) rfl))) (mvT hZ (hw _ (List.mem_of_getElem? (i := 5) rfl))) (mvT hZ (hw _ (List.mem_of_getElem? (i := 6) rfl))) (mvT hZ (hw _ (List.mem_of_getElem? (i := 7) rfl))) (by decide) (backOf (W := 0) (rm1_1 l Z a0 hw [] r1 vof vln vo0 vl0 h16 n0 Z16 A_r1 hord.1.1) hZ (hw _ (List.mem_of_getElem? (i := 7) rfl)) (hw _ (List.mem_of_getElem? (i := 6) rfl)) (by decide) (by decide)) (g := (mkF m 286 #[.val (.int nn), .val (.long qa), .second, .val (.long qb), .second, .val (.long qc), .second, .val (.long qo), .second, .val (.long ql), .second, .val (.int (1 : Int32)), .val (.long vo0), .second, .val (.long vl0), .second, .val (.long vo1), .second, .val (.long vl1), .second, .val (.long vo2), .second, .val (.long vl2), .second, .val (.long vof), .second, .val (.long vln), .second, .val (.ref r0), .val (.ref r1), .val (.ref r2), .val (.ref r3), .val (.ref r1), .val (.int (0 : Int32))] [(.long vln), (.long vof), (.ref r1)])) rfl (by rw [hml]; rfl) (argsL := [(.ref r1), (.long vof), (.long vln)]) (rest := []) (lenOf pd_0_0 rfl) rfl (by show 2 * 0 + _ ≤ _; exact Nat.le_of_eq rfl) (hb hby at_286) (fun _ _ => ⟨rfl, K18q, (by decide : 4 + 0 ≤ _), (by decide : 12 + 0 ≤ _)⟩)
      dsimp only [Pt.U, Pt.locs, Pt.cells, Pt.slots] at X20 l20 y20 z20 st20 hQ20
      subst l20 y20 z20
      obtain ⟨z_20, rfl, N20q, K20q, o20_hz⟩ := hQ20
      have N20 := Fr.app N18 N20q
      refine Go.step st20 ?_
      show Go _ _ _ _ _ _ _ (T20.setTop (mkF m 289 #[.val (.int nn), .val (.long qa), .second, .val (.long qb), .second, .val (.long qc), .second, .val (.long qo), .second, .val (.long ql), .second, .val (.int (1 : Int32)), .val (.long vo0), .second, .val (.long vl0), .second, .val (.long vo1), .second, .val (.long vl1), .second, .val (.long vo2), .second, .val (.long vl2), .second, .val (.long vof), .second, .val (.long vln), .second, .val (.ref r0), .val (.ref r1), .val (.ref r2), .val (.ref r3), .val (.ref r1), .val (.int (0 : Int32))] [(.int z_20)]))
      refine Go.step (fun t k => XS.iload X20.here hx rfl (hb hby at_289) rfl k) ?_
      show Go _ _ _ _ _ _ _ (T20.setTop (mkF m 291 #[.val (.int nn), .val (.long qa), .second, .val (.long qb), .second, .val (.long qc), .second, .val (.long qo), .second, .val (.long ql), .second, .val (.int (1 : Int32)), .val (.long vo0), .second, .val (.long vl0), .second, .val (.long vo1), .second, .val (.long vl1), .second, .val (.long vo2), .second, .val (.long vl2), .second, .val (.long vof), .second, .val (.long vln), .second, .val (.ref r0), .val (.ref r1), .val (.ref r2), .val (.ref r3), .val (.ref r1), .val (.int (0 : Int32))] [(.int (0 : Int32)), (.int z_20)]))
      refine Go.step (fun t k => XS.icmpNo X20.here hx rfl (hb hby at_291) rfl (teq (own_zero o20_hz (own_not o18_hz hc230_19) : z_20 = (0 : Int32))).2 k) ?_
      show Go _ _ _ _ _ _ _ (T20.setTop (mkF m 294 #[.val (.int nn), .val (.long qa), .second, .val (.long qb), .second, .val (.long qc), .second, .val (.long qo), .second, .val (.long ql), .second, .val (.int (1 : Int32)), .val (.long vo0), .second, .val (.long vl0), .second, .val (.long vo1), .second, .val (.long vl1), .second, .val (.long vo2), .second, .val (.long vl2), .second, .val (.long vof), .second, .val (.long vln), .second, .val (.ref r0), .val (.ref r1), .val (.ref r2), .val (.ref r3), .val (.ref r1), .val (.int (0 : Int32))] []))
      refine Go.step (fun t k => XS.iconst X20.here hx rfl (hb hby at_294) k) ?_
      show Go _ _ _ _ _ _ _ (T20.setTop (mkF m 295 #[.val (.int nn), .val (.long qa), .second, .val (.long qb), .second, .val (.long qc), .second, .val (.long qo), .second, .val (.long ql), .second, .val (.int (1 : Int32)), .val (.long vo0), .second, .val (.long vl0), .second, .val (.long vo1), .second, .val (.long vl1), .second, .val (.long vo2), .second, .val (.long vl2), .second, .val (.long vof), .second, .val (.long vln), .second, .val (.ref r0), .val (.ref r1), .val (.ref r2), .val (.ref r3), .val (.ref r1), .val (.int (0 : Int32))] [(.int (1 : Int32))]))
      refine Go.step (fun t k => XS.goto X20.here hx rfl (pc0 := 295) (pc' := 299) rfl (hb hby at_295) (by decide) (by decide) k) ?_
      show Go _ _ _ _ _ _ _ (T20.setTop (mkF m 299 #[.val (.int nn), .val (.long qa), .second, .val (.long qb), .second, .val (.long qc), .second, .val (.long qo), .second, .val (.long ql), .second, .val (.int (1 : Int32)), .val (.long vo0), .second, .val (.long vl0), .second, .val (.long vo1), .second, .val (.long vl1), .second, .val (.long vo2), .second, .val (.long vl2), .second, .val (.long vof), .second, .val (.long vln), .second, .val (.ref r0), .val (.ref r1), .val (.ref r2), .val (.ref r3), .val (.ref r1), .val (.int (0 : Int32))] [(.int (1 : Int32))]))
      refine Go.retN X20 Bd.notSynchronized hx (t := .boolean) Bd.returns (by simp) (hb hby at_299) (by decide) (by decide) (1 : Int32) rfl ?_
      rw [K20q]
      exact ⟨rfl, N20⟩
    · refine Go.step (fun t k => XS.ifYes X18.here hx rfl (pc0 := 230) (pc' := 273) rfl (hb hby at_230) rfl ((if0 _ _).trans (feq hc230_19).2) (by decide) (by decide) k) ?_
      show Go _ _ _ _ _ _ _ (T18.setTop (mkF m 273 #[.val (.int nn), .val (.long qa), .second, .val (.long qb), .second, .val (.long qc), .second, .val (.long qo), .second, .val (.long ql), .second, .val (.int (1 : Int32)), .val (.long vo0), .second, .val (.long vl0), .second, .val (.long vo1), .second, .val (.long vl1), .second, .val (.long vo2), .second, .val (.long vl2), .second, .val (.long vof), .second, .val (.long vln), .second, .val (.ref r0), .val (.ref r1), .val (.ref r2), .val (.ref r3), .val (.ref r1), .unset] []))
      refine Go.step (fun t k => XS.iconst X18.here hx rfl (hb hby at_273) k) ?_
      show Go _ _ _ _ _ _ _ (T18.setTop (mkF m 274 #[.val (.int nn), .val (.long qa), .second, .val (.long qb), .second, .val (.long qc), .second, .val (.long qo), .second, .val (.long ql), .second, .val (.int (1 : Int32)), .val (.long vo0), .second, .val (.long vl0), .second, .val (.long vo1), .second, .val (.long vl1), .second, .val (.long vo2), .second, .val (.long vl2), .second, .val (.long vof), .second, .val (.long vln), .second, .val (.ref r0), .val (.ref r1), .val (.ref r2), .val (.ref r3), .val (.ref r1), .unset] [(.int (1 : Int32))]))
      refine Go.step (fun t k => XS.goto X18.here hx rfl (pc0 := 274) (pc' := 278) rfl (hb hby at_274) (by decide) (by decide) k) ?_
      show Go _ _ _ _ _ _ _ (T18.setTop (mkF m 278 #[.val (.int nn), .val (.long qa), .second, .val (.long qb), .second, .val (.long qc), .second, .val (.long qo), .second, .val (.long ql), .second, .val (.int (1 : Int32)), .val (.long vo0), .second, .val (.long vl0), .second, .val (.long vo1), .second, .val (.long vl1), .second, .val (.long vo2), .second, .val (.long vl2), .second, .val (.long vof), .second, .val (.long vln), .second, .val (.ref r0), .val (.ref r1), .val (.ref r2), .val (.ref r3), .val (.ref r1), .unset] [(.int (1 : Int32))]))
      refine Go.step (fun t k => XS.istore X18.here hx rfl (hb hby at_278) rfl (l' := #[.val (.int nn), .val (.long qa), .second, .val (.long qb), .second, .val (.long qc), .second, .val (.long qo), .second, .val (.long ql), .second, .val (.int (1 : Int32)), .val (.long vo0), .second, .val (.long vl0), .second, .val (.long vo1), .second, .val (.long vl1), .second, .val (.long vo2), .second, .val (.long vl2), .second, .val (.long vof), .second, .val (.long vln), .second, .val (.ref r0), .val (.ref r1), .val (.ref r2), .val (.ref r3), .val (.ref r1), .val (.int (1 : Int32))]) rfl k) ?_
      show Go _ _ _ _ _ _ _ (T18.setTop (mkF m 280 #[.val (.int nn), .val (.long qa), .second, .val (.long qb), .second, .val (.long qc), .second, .val (.long qo), .second, .val (.long ql), .second, .val (.int (1 : Int32)), .val (.long vo0), .second, .val (.long vl0), .second, .val (.long vo1), .second, .val (.long vl1), .second, .val (.long vo2), .second, .val (.long vl2), .second, .val (.long vof), .second, .val (.long vln), .second, .val (.ref r0), .val (.ref r1), .val (.ref r2), .val (.ref r3), .val (.ref r1), .val (.int (1 : Int32))] []))
      refine Go.step (fun t k => XS.aload X18.here hx rfl (hb hby at_280) rfl rfl k) ?_
      show Go _ _ _ _ _ _ _ (T18.setTop (mkF m 282 #[.val (.int nn), .val (.long qa), .second, .val (.long qb), .second, .val (.long qc), .second, .val (.long qo), .second, .val (.long ql), .second, .val (.int (1 : Int32)), .val (.long vo0), .second, .val (.long vl0), .second, .val (.long vo1), .second, .val (.long vl1), .second, .val (.long vo2), .second, .val (.long vl2), .second, .val (.long vof), .second, .val (.long vln), .second, .val (.ref r0), .val (.ref r1), .val (.ref r2), .val (.ref r3), .val (.ref r1), .val (.int (1 : Int32))] [(.ref r1)]))
      refine Go.step (fun t k => XS.lload X18.here hx rfl (hb hby at_282) rfl k) ?_
      show Go _ _ _ _ _ _ _ (T18.setTop (mkF m 284 #[.val (.int nn), .val (.long qa), .second, .val (.long qb), .second, .val (.long qc), .second, .val (.long qo), .second, .val (.long ql), .second, .val (.int (1 : Int32)), .val (.long vo0), .second, .val (.long vl0), .second, .val (.long vo1), .second, .val (.long vl1), .second, .val (.long vo2), .second, .val (.long vl2), .second, .val (.long vof), .second, .val (.long vln), .second, .val (.ref r0), .val (.ref r1), .val (.ref r2), .val (.ref r3), .val (.ref r1), .val (.int (1 : Int32))] [(.long vof), (.ref r1)]))
      refine Go.step (fun t k => XS.lload X18.here hx rfl (hb hby at_284) rfl k) ?_
      show Go _ _ _ _ _ _ _ (T18.setTop (mkF m 286 #[.val (.int nn), .val (.long qa), .second, .val (.long qb), .second, .val (.long qc), .second, .val (.long qo), .second, .val (.long ql), .second, .val (.int (1 : Int32)), .val (.long vo0), .second, .val (.long vl0), .second, .val (.long vo1), .second, .val (.long vl1), .second, .val (.long vo2), .second, .val (.long vl2), .second, .val (.long vof), .second, .val (.long vln), .second, .val (.ref r0), .val (.ref r1), .val (.ref r2), .val (.ref r3), .val (.ref r1), .val (.int (1 : Int32))] [(.long vln), (.long vof), (.ref r1)]))
      obtain ⟨_, _, ⟨T21, L21, k21, n21⟩, -, X21, ⟨Lc21, hQ21, l21, y21, z21⟩, st21⟩ := Jvm.LawKit.callS X18 hx (y := (⟨"com/example/rootkeep/rootkeep/file/FreeSpace", "overlaps", "([JJJ)Z"⟩ : MethodName)) hown (mvT hZ (hw _ (List.mem_of_getElem? (i := 4) rfl))) (mvT hZ (hw _ (List.mem_of_getElem? (i := 5) rfl))) (mvT hZ (hw _ (List.mem_of_getElem? (i := 6) rfl))) (mvT hZ (hw _ (List.mem_of_getElem? (i := 7) rfl))) (by decide) (backOf (W := 0) (rm1_1 l Z a0 hw [] r1 vof vln vo0 vl0 h16 n0 Z16 A_r1 hord.1.1) hZ (hw _ (List.mem_of_getElem? (i := 7) rfl)) (hw _ (List.mem_of_getElem? (i := 6) rfl)) (by decide) (by decide)) (g := (mkF m 286 #[.val (.int nn), .val (.long qa), .second, .val (.long qb), .second, .val (.long qc), .second, .val (.long qo), .second, .val (.long ql), .second, .val (.int (1 : Int32)), .val (.long vo0), .second, .val (.long vl0), .second, .val (.long vo1), .second, .val (.long vl1), .second, .val (.long vo2), .second, .val (.long vl2), .second, .val (.long vof), .second, .val (.long vln), .second, .val (.ref r0), .val (.ref r1), .val (.ref r2), .val (.ref r3), .val (.ref r1), .val (.int (1 : Int32))] [(.long vln), (.long vof), (.ref r1)])) rfl (by rw [hml]; rfl) (argsL := [(.ref r1), (.long vof), (.long vln)]) (rest := []) (lenOf pd_0_0 rfl) rfl (by show 2 * 0 + _ ≤ _; exact Nat.le_of_eq rfl) (hb hby at_286) (fun _ _ => ⟨rfl, K18q, (by decide : 4 + 0 ≤ _), (by decide : 12 + 0 ≤ _)⟩)
      dsimp only [Pt.U, Pt.locs, Pt.cells, Pt.slots] at X21 l21 y21 z21 st21 hQ21
      subst l21 y21 z21
      obtain ⟨z_21, rfl, N21q, K21q, o21_hz⟩ := hQ21
      have N21 := Fr.app N18 N21q
      refine Go.step st21 ?_
      show Go _ _ _ _ _ _ _ (T21.setTop (mkF m 289 #[.val (.int nn), .val (.long qa), .second, .val (.long qb), .second, .val (.long qc), .second, .val (.long qo), .second, .val (.long ql), .second, .val (.int (1 : Int32)), .val (.long vo0), .second, .val (.long vl0), .second, .val (.long vo1), .second, .val (.long vl1), .second, .val (.long vo2), .second, .val (.long vl2), .second, .val (.long vof), .second, .val (.long vln), .second, .val (.ref r0), .val (.ref r1), .val (.ref r2), .val (.ref r3), .val (.ref r1), .val (.int (1 : Int32))] [(.int z_21)]))
      refine Go.step (fun t k => XS.iload X21.here hx rfl (hb hby at_289) rfl k) ?_
      show Go _ _ _ _ _ _ _ (T21.setTop (mkF m 291 #[.val (.int nn), .val (.long qa), .second, .val (.long qb), .second, .val (.long qc), .second, .val (.long qo), .second, .val (.long ql), .second, .val (.int (1 : Int32)), .val (.long vo0), .second, .val (.long vl0), .second, .val (.long vo1), .second, .val (.long vl1), .second, .val (.long vo2), .second, .val (.long vl2), .second, .val (.long vof), .second, .val (.long vln), .second, .val (.ref r0), .val (.ref r1), .val (.ref r2), .val (.ref r3), .val (.ref r1), .val (.int (1 : Int32))] [(.int (1 : Int32)), (.int z_21)]))
      refine Go.step (fun t k => XS.icmpNo X21.here hx rfl (hb hby at_291) rfl (teq (own_one o21_hz (own_pos o18_hz hc230_19) : z_21 = (1 : Int32))).2 k) ?_
      show Go _ _ _ _ _ _ _ (T21.setTop (mkF m 294 #[.val (.int nn), .val (.long qa), .second, .val (.long qb), .second, .val (.long qc), .second, .val (.long qo), .second, .val (.long ql), .second, .val (.int (1 : Int32)), .val (.long vo0), .second, .val (.long vl0), .second, .val (.long vo1), .second, .val (.long vl1), .second, .val (.long vo2), .second, .val (.long vl2), .second, .val (.long vof), .second, .val (.long vln), .second, .val (.ref r0), .val (.ref r1), .val (.ref r2), .val (.ref r3), .val (.ref r1), .val (.int (1 : Int32))] []))
      refine Go.step (fun t k => XS.iconst X21.here hx rfl (hb hby at_294) k) ?_
      show Go _ _ _ _ _ _ _ (T21.setTop (mkF m 295 #[.val (.int nn), .val (.long qa), .second, .val (.long qb), .second, .val (.long qc), .second, .val (.long qo), .second, .val (.long ql), .second, .val (.int (1 : Int32)), .val (.long vo0), .second, .val (.long vl0), .second, .val (.long vo1), .second, .val (.long vl1), .second, .val (.long vo2), .second, .val (.long vl2), .second, .val (.long vof), .second, .val (.long vln), .second, .val (.ref r0), .val (.ref r1), .val (.ref r2), .val (.ref r3), .val (.ref r1), .val (.int (1 : Int32))] [(.int (1 : Int32))]))
      refine Go.step (fun t k => XS.goto X21.here hx rfl (pc0 := 295) (pc' := 299) rfl (hb hby at_295) (by decide) (by decide) k) ?_
      show Go _ _ _ _ _ _ _ (T21.setTop (mkF m 299 #[.val (.int nn), .val (.long qa), .second, .val (.long qb), .second, .val (.long qc), .second, .val (.long qo), .second, .val (.long ql), .second, .val (.int (1 : Int32)), .val (.long vo0), .second, .val (.long vl0), .second, .val (.long vo1), .second, .val (.long vl1), .second, .val (.long vo2), .second, .val (.long vl2), .second, .val (.long vof), .second, .val (.long vln), .second, .val (.ref r0), .val (.ref r1), .val (.ref r2), .val (.ref r3), .val (.ref r1), .val (.int (1 : Int32))] [(.int (1 : Int32))]))
      refine Go.retN X21 Bd.notSynchronized hx (t := .boolean) Bd.returns (by simp) (hb hby at_299) (by decide) (by decide) (1 : Int32) rfl ?_
      rw [K21q]
      exact ⟨rfl, N21⟩
  · rw [hk]
    show Go _ _ _ _ _ _ _ (T16.setTop (mkF m 177 #[.val (.int nn), .val (.long qa), .second, .val (.long qb), .second, .val (.long qc), .second, .val (.long qo), .second, .val (.long ql), .second, .val (.int (2 : Int32)), .val (.long vo0), .second, .val (.long vl0), .second, .val (.long vo1), .second, .val (.long vl1), .second, .val (.long vo2), .second, .val (.long vl2), .second, .val (.long vof), .second, .val (.long vln), .second, .val (.ref r0), .val (.ref r1), .val (.ref r2), .val (.ref r3), .unset, .unset] []))
    refine Go.step (fun t k => XS.iload X16.here hx rfl (hb hby at_177) rfl k) ?_
    show Go _ _ _ _ _ _ _ (T16.setTop (mkF m 179 #[.val (.int nn), .val (.long qa), .second, .val (.long qb), .second, .val (.long qc), .second, .val (.long qo), .second, .val (.long ql), .second, .val (.int (2 : Int32)), .val (.long vo0), .second, .val (.long vl0), .second, .val (.long vo1), .second, .val (.long vl1), .second, .val (.long vo2), .second, .val (.long vl2), .second, .val (.long vof), .second, .val (.long vln), .second, .val (.ref r0), .val (.ref r1), .val (.ref r2), .val (.ref r3), .unset, .unset] [(.int (2 : Int32))]))
    refine Go.step (fun t k => XS.ifYes X16.here hx rfl (pc0 := 179) (pc' := 187) rfl (hb hby at_179) rfl ((if0 _ _).trans (feq (by decide : ¬ (2 : Int32) = (0 : Int32))).2) (by decide) (by decide) k) ?_
    show Go _ _ _ _ _ _ _ (T16.setTop (mkF m 187 #[.val (.int nn), .val (.long qa), .second, .val (.long qb), .second, .val (.long qc), .second, .val (.long qo), .second, .val (.long ql), .second, .val (.int (2 : Int32)), .val (.long vo0), .second, .val (.long vl0), .second, .val (.long vo1), .second, .val (.long vl1), .second, .val (.long vo2), .second, .val (.long vl2), .second, .val (.long vof), .second, .val (.long vln), .second, .val (.ref r0), .val (.ref r1), .val (.ref r2), .val (.ref r3), .unset, .unset] []))
    refine Go.step (fun t k => XS.iload X16.here hx rfl (hb hby at_187) rfl k) ?_
    show Go _ _ _ _ _ _ _ (T16.setTop (mkF m 189 #[.val (.int nn), .val (.long qa), .second, .val (.long qb), .second, .val (.long qc), .second, .val (.long qo), .second, .val (.long ql), .second, .val (.int (2 : Int32)), .val (.long vo0), .second, .val (.long vl0), .second, .val (.long vo1), .second, .val (.long vl1), .second, .val (.long vo2), .second, .val (.long vl2), .second, .val (.long vof), .second, .val (.long vln), .second, .val (.ref r0), .val (.ref r1), .val (.ref r2), .val (.ref r3), .unset, .unset] [(.int (2 : Int32))]))
    refine Go.step (fun t k => XS.iconst X16.here hx rfl (hb hby at_189) k) ?_
    show Go _ _ _ _ _ _ _ (T16.setTop (mkF m 190 #[.val (.int nn), .val (.long qa), .second, .val (.long qb), .second, .val (.long qc), .second, .val (.long qo), .second, .val (.long ql), .second, .val (.int (2 : Int32)), .val (.long vo0), .second, .val (.long vl0), .second, .val (.long vo1), .second, .val (.long vl1), .second, .val (.long vo2), .second, .val (.long vl2), .second, .val (.long vof), .second, .val (.long vln), .second, .val (.ref r0), .val (.ref r1), .val (.ref r2), .val (.ref r3), .unset, .unset] [(.int (1 : Int32)), (.int (2 : Int32))]))
    refine Go.step (fun t k => XS.icmpYes X16.here hx rfl (pc0 := 190) (pc' := 198) rfl (hb hby at_190) rfl (feq (by decide : ¬ (2 : Int32) = (1 : Int32))).2 (by decide) (by decide) k) ?_
    show Go _ _ _ _ _ _ _ (T16.setTop (mkF m 198 #[.val (.int nn), .val (.long qa), .second, .val (.long qb), .second, .val (.long qc), .second, .val (.long qo), .second, .val (.long ql), .second, .val (.int (2 : Int32)), .val (.long vo0), .second, .val (.long vl0), .second, .val (.long vo1), .second, .val (.long vl1), .second, .val (.long vo2), .second, .val (.long vl2), .second, .val (.long vof), .second, .val (.long vln), .second, .val (.ref r0), .val (.ref r1), .val (.ref r2), .val (.ref r3), .unset, .unset] []))
    refine Go.step (fun t k => XS.iload X16.here hx rfl (hb hby at_198) rfl k) ?_
    show Go _ _ _ _ _ _ _ (T16.setTop (mkF m 200 #[.val (.int nn), .val (.long qa), .second, .val (.long qb), .second, .val (.long qc), .second, .val (.long qo), .second, .val (.long ql), .second, .val (.int (2 : Int32)), .val (.long vo0), .second, .val (.long vl0), .second, .val (.long vo1), .second, .val (.long vl1), .second, .val (.long vo2), .second, .val (.long vl2), .second, .val (.long vof), .second, .val (.long vln), .second, .val (.ref r0), .val (.ref r1), .val (.ref r2), .val (.ref r3), .unset, .unset] [(.int (2 : Int32))]))
    refine Go.step (fun t k => XS.iconst X16.here hx rfl (hb hby at_200) k) ?_
    show Go _ _ _ _ _ _ _ (T16.setTop (mkF m 201 #[.val (.int nn), .val (.long qa), .second, .val (.long qb), .second, .val (.long qc), .second, .val (.long qo), .second, .val (.long ql), .second, .val (.int (2 : Int32)), .val (.long vo0), .second, .val (.long vl0), .second, .val (.long vo1), .second, .val (.long vl1), .second, .val (.long vo2), .second, .val (.long vl2), .second, .val (.long vof), .second, .val (.long vln), .second, .val (.ref r0), .val (.ref r1), .val (.ref r2), .val (.ref r3), .unset, .unset] [(.int (2 : Int32)), (.int (2 : Int32))]))
    refine Go.step (fun t k => XS.icmpNo X16.here hx rfl (hb hby at_201) rfl (teq (by decide : (2 : Int32) = (2 : Int32))).2 k) ?_
    show Go _ _ _ _ _ _ _ (T16.setTop (mkF m 204 #[.val (.int nn), .val (.long qa), .second, .val (.long qb), .second, .val (.long qc), .second, .val (.long qo), .second, .val (.long ql), .second, .val (.int (2 : Int32)), .val (.long vo0), .second, .val (.long vl0), .second, .val (.long vo1), .second, .val (.long vl1), .second, .val (.long vo2), .second, .val (.long vl2), .second, .val (.long vof), .second, .val (.long vln), .second, .val (.ref r0), .val (.ref r1), .val (.ref r2), .val (.ref r3), .unset, .unset] []))
    refine Go.step (fun t k => XS.aload X16.here hx rfl (hb hby at_204) rfl rfl k) ?_
    show Go _ _ _ _ _ _ _ (T16.setTop (mkF m 206 #[.val (.int nn), .val (.long qa), .second, .val (.long qb), .second, .val (.long qc), .second, .val (.long qo), .second, .val (.long ql), .second, .val (.int (2 : Int32)), .val (.long vo0), .second, .val (.long vl0), .second, .val (.long vo1), .second, .val (.long vl1), .second, .val (.long vo2), .second, .val (.long vl2), .second, .val (.long vof), .second, .val (.long vln), .second, .val (.ref r0), .val (.ref r1), .val (.ref r2), .val (.ref r3), .unset, .unset] [(.ref r2)]))
    refine Go.step (fun t k => XS.goto X16.here hx rfl (pc0 := 206) (pc' := 211) rfl (hb hby at_206) (by decide) (by decide) k) ?_
    show Go _ _ _ _ _ _ _ (T16.setTop (mkF m 211 #[.val (.int nn), .val (.long qa), .second, .val (.long qb), .second, .val (.long qc), .second, .val (.long qo), .second, .val (.long ql), .second, .val (.int (2 : Int32)), .val (.long vo0), .second, .val (.long vl0), .second, .val (.long vo1), .second, .val (.long vl1), .second, .val (.long vo2), .second, .val (.long vl2), .second, .val (.long vof), .second, .val (.long vln), .second, .val (.ref r0), .val (.ref r1), .val (.ref r2), .val (.ref r3), .unset, .unset] [(.ref r2)]))
    refine Go.step (fun t k => XS.astore X16.here hx rfl (hb hby at_211) rfl rfl (l' := #[.val (.int nn), .val (.long qa), .second, .val (.long qb), .second, .val (.long qc), .second, .val (.long qo), .second, .val (.long ql), .second, .val (.int (2 : Int32)), .val (.long vo0), .second, .val (.long vl0), .second, .val (.long vo1), .second, .val (.long vl1), .second, .val (.long vo2), .second, .val (.long vl2), .second, .val (.long vof), .second, .val (.long vln), .second, .val (.ref r0), .val (.ref r1), .val (.ref r2), .val (.ref r3), .val (.ref r2), .unset]) rfl k) ?_
    show Go _ _ _ _ _ _ _ (T16.setTop (mkF m 213 #[.val (.int nn), .val (.long qa), .second, .val (.long qb), .second, .val (.long qc), .second, .val (.long qo), .second, .val (.long ql), .second, .val (.int (2 : Int32)), .val (.long vo0), .second, .val (.long vl0), .second, .val (.long vo1), .second, .val (.long vl1), .second, .val (.long vo2), .second, .val (.long vl2), .second, .val (.long vof), .second, .val (.long vln), .second, .val (.ref r0), .val (.ref r1), .val (.ref r2), .val (.ref r3), .val (.ref r2), .unset] []))
    refine Go.step (fun t k => XS.iload X16.here hx rfl (hb hby at_213) rfl k) ?_
    show Go _ _ _ _ _ _ _ (T16.setTop (mkF m 215 #[.val (.int nn), .val (.long qa), .second, .val (.long qb), .second, .val (.long qc), .second, .val (.long qo), .second, .val (.long ql), .second, .val (.int (2 : Int32)), .val (.long vo0), .second, .val (.long vl0), .second, .val (.long vo1), .second, .val (.long vl1), .second, .val (.long vo2), .second, .val (.long vl2), .second, .val (.long vof), .second, .val (.long vln), .second, .val (.ref r0), .val (.ref r1), .val (.ref r2), .val (.ref r3), .val (.ref r2), .unset] [(.int (2 : Int32))]))
    refine Go.step (fun t k => XS.iconst X16.here hx rfl (hb hby at_215) k) ?_
    show Go _ _ _ _ _ _ _ (T16.setTop (mkF m 216 #[.val (.int nn), .val (.long qa), .second, .val (.long qb), .second, .val (.long qc), .second, .val (.long qo), .second, .val (.long ql), .second, .val (.int (2 : Int32)), .val (.long vo0), .second, .val (.long vl0), .second, .val (.long vo1), .second, .val (.long vl1), .second, .val (.long vo2), .second, .val (.long vl2), .second, .val (.long vof), .second, .val (.long vln), .second, .val (.ref r0), .val (.ref r1), .val (.ref r2), .val (.ref r3), .val (.ref r2), .unset] [(.int (1 : Int32)), (.int (2 : Int32))]))
    refine Go.step (fun t k => XS.icmpNo X16.here hx rfl (hb hby at_216) rfl (flt (by decide : ¬ (2 : Int32) < (1 : Int32))).1 k) ?_
    show Go _ _ _ _ _ _ _ (T16.setTop (mkF m 219 #[.val (.int nn), .val (.long qa), .second, .val (.long qb), .second, .val (.long qc), .second, .val (.long qo), .second, .val (.long ql), .second, .val (.int (2 : Int32)), .val (.long vo0), .second, .val (.long vl0), .second, .val (.long vo1), .second, .val (.long vl1), .second, .val (.long vo2), .second, .val (.long vl2), .second, .val (.long vof), .second, .val (.long vln), .second, .val (.ref r0), .val (.ref r1), .val (.ref r2), .val (.ref r3), .val (.ref r2), .unset] []))
    refine Go.step (fun t k => XS.lload X16.here hx rfl (hb hby at_219) rfl k) ?_
    show Go _ _ _ _ _ _ _ (T16.setTop (mkF m 221 #[.val (.int nn), .val (.long qa), .second, .val (.long qb), .second, .val (.long qc), .second, .val (.long qo), .second, .val (.long ql), .second, .val (.int (2 : Int32)), .val (.long vo0), .second, .val (.long vl0), .second, .val (.long vo1), .second, .val (.long vl1), .second, .val (.long vo2), .second, .val (.long vl2), .second, .val (.long vof), .second, .val (.long vln), .second, .val (.ref r0), .val (.ref r1), .val (.ref r2), .val (.ref r3), .val (.ref r2), .unset] [(.long vo0)]))
    refine Go.step (fun t k => XS.lload X16.here hx rfl (hb hby at_221) rfl k) ?_
    show Go _ _ _ _ _ _ _ (T16.setTop (mkF m 223 #[.val (.int nn), .val (.long qa), .second, .val (.long qb), .second, .val (.long qc), .second, .val (.long qo), .second, .val (.long ql), .second, .val (.int (2 : Int32)), .val (.long vo0), .second, .val (.long vl0), .second, .val (.long vo1), .second, .val (.long vl1), .second, .val (.long vo2), .second, .val (.long vl2), .second, .val (.long vof), .second, .val (.long vln), .second, .val (.ref r0), .val (.ref r1), .val (.ref r2), .val (.ref r3), .val (.ref r2), .unset] [(.long vl0), (.long vo0)]))
    refine Go.step (fun t k => XS.lload X16.here hx rfl (hb hby at_223) rfl k) ?_
    show Go _ _ _ _ _ _ _ (T16.setTop (mkF m 225 #[.val (.int nn), .val (.long qa), .second, .val (.long qb), .second, .val (.long qc), .second, .val (.long qo), .second, .val (.long ql), .second, .val (.int (2 : Int32)), .val (.long vo0), .second, .val (.long vl0), .second, .val (.long vo1), .second, .val (.long vl1), .second, .val (.long vo2), .second, .val (.long vl2), .second, .val (.long vof), .second, .val (.long vln), .second, .val (.ref r0), .val (.ref r1), .val (.ref r2), .val (.ref r3), .val (.ref r2), .unset] [(.long vof), (.long vl0), (.long vo0)]))
    refine Go.step (fun t k => XS.lload X16.here hx rfl (hb hby at_225) rfl k) ?_
    show Go _ _ _ _ _ _ _ (T16.setTop (mkF m 227 #[.val (.int nn), .val (.long qa), .second, .val (.long qb), .second, .val (.long qc), .second, .val (.long qo), .second, .val (.long ql), .second, .val (.int (2 : Int32)), .val (.long vo0), .second, .val (.long vl0), .second, .val (.long vo1), .second, .val (.long vl1), .second, .val (.long vo2), .second, .val (.long vl2), .second, .val (.long vof), .second, .val (.long vln), .second, .val (.ref r0), .val (.ref r1), .val (.ref r2), .val (.ref r3), .val (.ref r2), .unset] [(.long vln), (.long vof), (.long vl0), (.long vo0)]))
    obtain ⟨_, _, ⟨T22, L22, k22, n22⟩, -, X22, ⟨Lc22, hQ22, l22, y22, z22⟩, st22⟩ := Jvm.LawKit.callS X16 hx (y := (⟨"com/example/rootkeep/rootkeep/file/FreeSpaceOverlapsPinLaw", "hits", "(JJJJ)Z"⟩ : MethodName)) hown (mvT hZ (hw _ (List.mem_of_getElem? (i := 8) rfl))) (mvT hZ (hw _ (List.mem_of_getElem? (i := 9) rfl))) (mvT hZ (hw _ (List.mem_of_getElem? (i := 10) rfl))) (mvT hZ (hw _ (List.mem_of_getElem? (i := 11) rfl))) (by decide) (backOf (W := 0) (rm2 l Z a0 hw [] vo0 vl0 vof vln h16 n0 Z16) hZ (hw _ (List.mem_of_getElem? (i := 11) rfl)) (hw _ (List.mem_of_getElem? (i := 10) rfl)) (by decide) (by decide)) (g := (mkF m 227 #[.val (.int nn), .val (.long qa), .second, .val (.long qb), .second, .val (.long qc), .second, .val (.long qo), .second, .val (.long ql), .second, .val (.int (2 : Int32)), .val (.long vo0), .second, .val (.long vl0), .second, .val (.long vo1), .second, .val (.long vl1), .second, .val (.long vo2), .second, .val (.long vl2), .second, .val (.long vof), .second, .val (.long vln), .second, .val (.ref r0), .val (.ref r1), .val (.ref r2), .val (.ref r3), .val (.ref r2), .unset] [(.long vln), (.long vof), (.long vl0), (.long vo0)])) rfl (by rw [hml]; rfl) (argsL := [(.long vo0), (.long vl0), (.long vof), (.long vln)]) (rest := []) (lenOf pd_0_1 rfl) rfl (by show 2 * 0 + _ ≤ _; exact Nat.le_of_eq rfl) (hb hby at_227) (fun _ _ => ⟨rfl, e16, (by decide : 4 + 0 ≤ _), (by decide : 12 + 0 ≤ _)⟩)
    dsimp only [Pt.U, Pt.locs, Pt.cells, Pt.slots] at X22 l22 y22 z22 st22 hQ22
    subst l22 y22 z22
    obtain ⟨z_22, rfl, N22q, K22q, o22_hz⟩ := hQ22
    have N22 := Fr.app N16 N22q
    refine Go.step st22 ?_
    show Go _ _ _ _ _ _ _ (T22.setTop (mkF m 230 #[.val (.int nn), .val (.long qa), .second, .val (.long qb), .second, .val (.long qc), .second, .val (.long qo), .second, .val (.long ql), .second, .val (.int (2 : Int32)), .val (.long vo0), .second, .val (.long vl0), .second, .val (.long vo1), .second, .val (.long vl1), .second, .val (.long vo2), .second, .val (.long vl2), .second, .val (.long vof), .second, .val (.long vln), .second, .val (.ref r0), .val (.ref r1), .val (.ref r2), .val (.ref r3), .val (.ref r2), .unset] [(.int z_22)]))
    by_cases hc230_23 : z_22 = (0 : Int32)
    · refine Go.step (fun t k => XS.ifNo X22.here hx rfl (hb hby at_230) rfl ((if0 _ _).trans (teq hc230_23).2) k) ?_
      show Go _ _ _ _ _ _ _ (T22.setTop (mkF m 233 #[.val (.int nn), .val (.long qa), .second, .val (.long qb), .second, .val (.long qc), .second, .val (.long qo), .second, .val (.long ql), .second, .val (.int (2 : Int32)), .val (.long vo0), .second, .val (.long vl0), .second, .val (.long vo1), .second, .val (.long vl1), .second, .val (.long vo2), .second, .val (.long vl2), .second, .val (.long vof), .second, .val (.long vln), .second, .val (.ref r0), .val (.ref r1), .val (.ref r2), .val (.ref r3), .val (.ref r2), .unset] []))
      refine Go.step (fun t k => XS.iload X22.here hx rfl (hb hby at_233) rfl k) ?_
      show Go _ _ _ _ _ _ _ (T22.setTop (mkF m 235 #[.val (.int nn), .val (.long qa), .second, .val (.long qb), .second, .val (.long qc), .second, .val (.long qo), .second, .val (.long ql), .second, .val (.int (2 : Int32)), .val (.long vo0), .second, .val (.long vl0), .second, .val (.long vo1), .second, .val (.long vl1), .second, .val (.long vo2), .second, .val (.long vl2), .second, .val (.long vof), .second, .val (.long vln), .second, .val (.ref r0), .val (.ref r1), .val (.ref r2), .val (.ref r3), .val (.ref r2), .unset] [(.int (2 : Int32))]))
      refine Go.step (fun t k => XS.iconst X22.here hx rfl (hb hby at_235) k) ?_
      show Go _ _ _ _ _ _ _ (T22.setTop (mkF m 236 #[.val (.int nn), .val (.long qa), .second, .val (.long qb), .second, .val (.long qc), .second, .val (.long qo), .second, .val (.long ql), .second, .val (.int (2 : Int32)), .val (.long vo0), .second, .val (.long vl0), .second, .val (.long vo1), .second, .val (.long vl1), .second, .val (.long vo2), .second, .val (.long vl2), .second, .val (.long vof), .second, .val (.long vln), .second, .val (.ref r0), .val (.ref r1), .val (.ref r2), .val (.ref r3), .val (.ref r2), .unset] [(.int (2 : Int32)), (.int (2 : Int32))]))
      refine Go.step (fun t k => XS.icmpNo X22.here hx rfl (hb hby at_236) rfl (flt (by decide : ¬ (2 : Int32) < (2 : Int32))).1 k) ?_
      show Go _ _ _ _ _ _ _ (T22.setTop (mkF m 239 #[.val (.int nn), .val (.long qa), .second, .val (.long qb), .second, .val (.long qc), .second, .val (.long qo), .second, .val (.long ql), .second, .val (.int (2 : Int32)), .val (.long vo0), .second, .val (.long vl0), .second, .val (.long vo1), .second, .val (.long vl1), .second, .val (.long vo2), .second, .val (.long vl2), .second, .val (.long vof), .second, .val (.long vln), .second, .val (.ref r0), .val (.ref r1), .val (.ref r2), .val (.ref r3), .val (.ref r2), .unset] []))
      refine Go.step (fun t k => XS.lload X22.here hx rfl (hb hby at_239) rfl k) ?_
      show Go _ _ _ _ _ _ _ (T22.setTop (mkF m 241 #[.val (.int nn), .val (.long qa), .second, .val (.long qb), .second, .val (.long qc), .second, .val (.long qo), .second, .val (.long ql), .second, .val (.int (2 : Int32)), .val (.long vo0), .second, .val (.long vl0), .second, .val (.long vo1), .second, .val (.long vl1), .second, .val (.long vo2), .second, .val (.long vl2), .second, .val (.long vof), .second, .val (.long vln), .second, .val (.ref r0), .val (.ref r1), .val (.ref r2), .val (.ref r3), .val (.ref r2), .unset] [(.long vo1)]))
      refine Go.step (fun t k => XS.lload X22.here hx rfl (hb hby at_241) rfl k) ?_
      show Go _ _ _ _ _ _ _ (T22.setTop (mkF m 243 #[.val (.int nn), .val (.long qa), .second, .val (.long qb), .second, .val (.long qc), .second, .val (.long qo), .second, .val (.long ql), .second, .val (.int (2 : Int32)), .val (.long vo0), .second, .val (.long vl0), .second, .val (.long vo1), .second, .val (.long vl1), .second, .val (.long vo2), .second, .val (.long vl2), .second, .val (.long vof), .second, .val (.long vln), .second, .val (.ref r0), .val (.ref r1), .val (.ref r2), .val (.ref r3), .val (.ref r2), .unset] [(.long vl1), (.long vo1)]))
      refine Go.step (fun t k => XS.lload X22.here hx rfl (hb hby at_243) rfl k) ?_
      show Go _ _ _ _ _ _ _ (T22.setTop (mkF m 245 #[.val (.int nn), .val (.long qa), .second, .val (.long qb), .second, .val (.long qc), .second, .val (.long qo), .second, .val (.long ql), .second, .val (.int (2 : Int32)), .val (.long vo0), .second, .val (.long vl0), .second, .val (.long vo1), .second, .val (.long vl1), .second, .val (.long vo2), .second, .val (.long vl2), .second, .val (.long vof), .second, .val (.long vln), .second, .val (.ref r0), .val (.ref r1), .val (.ref r2), .val (.ref r3), .val (.ref r2), .unset] [(.long vof), (.long vl1), (.long vo1)]))
      refine Go.step (fun t k => XS.lload X22.here hx rfl (hb hby at_245) rfl k) ?_
      show Go _ _ _ _ _ _ _ (T22.setTop (mkF m 247 #[.val (.int nn), .val (.long qa), .second, .val (.long qb), .second, .val (.long qc), .second, .val (.long qo), .second, .val (.long ql), .second, .val (.int (2 : Int32)), .val (.long vo0), .second, .val (.long vl0), .second, .val (.long vo1), .second, .val (.long vl1), .second, .val (.long vo2), .second, .val (.long vl2), .second, .val (.long vof), .second, .val (.long vln), .second, .val (.ref r0), .val (.ref r1), .val (.ref r2), .val (.ref r3), .val (.ref r2), .unset] [(.long vln), (.long vof), (.long vl1), (.long vo1)]))
      obtain ⟨_, _, ⟨T24, L24, k24, n24⟩, -, X24, ⟨Lc24, hQ24, l24, y24, z24⟩, st24⟩ := Jvm.LawKit.callS X22 hx (y := (⟨"com/example/rootkeep/rootkeep/file/FreeSpaceOverlapsPinLaw", "hits", "(JJJJ)Z"⟩ : MethodName)) hown (mvT hZ (hw _ (List.mem_of_getElem? (i := 8) rfl))) (mvT hZ (hw _ (List.mem_of_getElem? (i := 9) rfl))) (mvT hZ (hw _ (List.mem_of_getElem? (i := 10) rfl))) (mvT hZ (hw _ (List.mem_of_getElem? (i := 11) rfl))) (by decide) (backOf (W := 0) (rm2 l Z a0 hw [] vo1 vl1 vof vln h16 n0 Z16) hZ (hw _ (List.mem_of_getElem? (i := 11) rfl)) (hw _ (List.mem_of_getElem? (i := 10) rfl)) (by decide) (by decide)) (g := (mkF m 247 #[.val (.int nn), .val (.long qa), .second, .val (.long qb), .second, .val (.long qc), .second, .val (.long qo), .second, .val (.long ql), .second, .val (.int (2 : Int32)), .val (.long vo0), .second, .val (.long vl0), .second, .val (.long vo1), .second, .val (.long vl1), .second, .val (.long vo2), .second, .val (.long vl2), .second, .val (.long vof), .second, .val (.long vln), .second, .val (.ref r0), .val (.ref r1), .val (.ref r2), .val (.ref r3), .val (.ref r2), .unset] [(.long vln), (.long vof), (.long vl1), (.long vo1)])) rfl (by rw [hml]; rfl) (argsL := [(.long vo1), (.long vl1), (.long vof), (.long vln)]) (rest := []) (lenOf pd_0_1 rfl) rfl (by show 2 * 0 + _ ≤ _; exact Nat.le_of_eq rfl) (hb hby at_247) (fun _ _ => ⟨rfl, K22q, (by decide : 4 + 0 ≤ _), (by decide : 12 + 0 ≤ _)⟩)
      dsimp only [Pt.U, Pt.locs, Pt.cells, Pt.slots] at X24 l24 y24 z24 st24 hQ24
      subst l24 y24 z24
      obtain ⟨z_24, rfl, N24q, K24q, o24_hz⟩ := hQ24
      have N24 := Fr.app N22 N24q
      refine Go.step st24 ?_
      show Go _ _ _ _ _ _ _ (T24.setTop (mkF m 250 #[.val (.int nn), .val (.long qa), .second, .val (.long qb), .second, .val (.long qc), .second, .val (.long qo), .second, .val (.long ql), .second, .val (.int (2 : Int32)), .val (.long vo0), .second, .val (.long vl0), .second, .val (.long vo1), .second, .val (.long vl1), .second, .val (.long vo2), .second, .val (.long vl2), .second, .val (.long vof), .second, .val (.long vln), .second, .val (.ref r0), .val (.ref r1), .val (.ref r2), .val (.ref r3), .val (.ref r2), .unset] [(.int z_24)]))
      by_cases hc250_25 : z_24 = (0 : Int32)
      · refine Go.step (fun t k => XS.ifNo X24.here hx rfl (hb hby at_250) rfl ((if0 _ _).trans (teq hc250_25).2) k) ?_
        show Go _ _ _ _ _ _ _ (T24.setTop (mkF m 253 #[.val (.int nn), .val (.long qa), .second, .val (.long qb), .second, .val (.long qc), .second, .val (.long qo), .second, .val (.long ql), .second, .val (.int (2 : Int32)), .val (.long vo0), .second, .val (.long vl0), .second, .val (.long vo1), .second, .val (.long vl1), .second, .val (.long vo2), .second, .val (.long vl2), .second, .val (.long vof), .second, .val (.long vln), .second, .val (.ref r0), .val (.ref r1), .val (.ref r2), .val (.ref r3), .val (.ref r2), .unset] []))
        refine Go.step (fun t k => XS.iload X24.here hx rfl (hb hby at_253) rfl k) ?_
        show Go _ _ _ _ _ _ _ (T24.setTop (mkF m 255 #[.val (.int nn), .val (.long qa), .second, .val (.long qb), .second, .val (.long qc), .second, .val (.long qo), .second, .val (.long ql), .second, .val (.int (2 : Int32)), .val (.long vo0), .second, .val (.long vl0), .second, .val (.long vo1), .second, .val (.long vl1), .second, .val (.long vo2), .second, .val (.long vl2), .second, .val (.long vof), .second, .val (.long vln), .second, .val (.ref r0), .val (.ref r1), .val (.ref r2), .val (.ref r3), .val (.ref r2), .unset] [(.int (2 : Int32))]))
        refine Go.step (fun t k => XS.iconst X24.here hx rfl (hb hby at_255) k) ?_
        show Go _ _ _ _ _ _ _ (T24.setTop (mkF m 256 #[.val (.int nn), .val (.long qa), .second, .val (.long qb), .second, .val (.long qc), .second, .val (.long qo), .second, .val (.long ql), .second, .val (.int (2 : Int32)), .val (.long vo0), .second, .val (.long vl0), .second, .val (.long vo1), .second, .val (.long vl1), .second, .val (.long vo2), .second, .val (.long vl2), .second, .val (.long vof), .second, .val (.long vln), .second, .val (.ref r0), .val (.ref r1), .val (.ref r2), .val (.ref r3), .val (.ref r2), .unset] [(.int (3 : Int32)), (.int (2 : Int32))]))
        refine Go.step (fun t k => XS.icmpYes X24.here hx rfl (pc0 := 256) (pc' := 277) rfl (hb hby at_256) rfl (tlt (by decide : (2 : Int32) < (3 : Int32))).1 (by decide) (by decide) k) ?_
        show Go _ _ _ _ _ _ _ (T24.setTop (mkF m 277 #[.val (.int nn), .val (.long qa), .second, .val (.long qb), .second, .val (.long qc), .second, .val (.long qo), .second, .val (.long ql), .second, .val (.int (2 : Int32)), .val (.long vo0), .second, .val (.long vl0), .second, .val (.long vo1), .second, .val (.long vl1), .second, .val (.long vo2), .second, .val (.long vl2), .second, .val (.long vof), .second, .val (.long vln), .second, .val (.ref r0), .val (.ref r1), .val (.ref r2), .val (.ref r3), .val (.ref r2), .unset] []))
        refine Go.step (fun t k => XS.iconst X24.here hx rfl (hb hby at_277) k) ?_
        show Go _ _ _ _ _ _ _ (T24.setTop (mkF m 278 #[.val (.int nn), .val (.long qa), .second, .val (.long qb), .second, .val (.long qc), .second, .val (.long qo), .second, .val (.long ql), .second, .val (.int (2 : Int32)), .val (.long vo0), .second, .val (.long vl0), .second, .val (.long vo1), .second, .val (.long vl1), .second, .val (.long vo2), .second, .val (.long vl2), .second, .val (.long vof), .second, .val (.long vln), .second, .val (.ref r0), .val (.ref r1), .val (.ref r2), .val (.ref r3), .val (.ref r2), .unset] [(.int (0 : Int32))]))
        refine Go.step (fun t k => XS.istore X24.here hx rfl (hb hby at_278) rfl (l' := #[.val (.int nn), .val (.long qa), .second, .val (.long qb), .second, .val (.long qc), .second, .val (.long qo), .second, .val (.long ql), .second, .val (.int (2 : Int32)), .val (.long vo0), .second, .val (.long vl0), .second, .val (.long vo1), .second, .val (.long vl1), .second, .val (.long vo2), .second, .val (.long vl2), .second, .val (.long vof), .second, .val (.long vln), .second, .val (.ref r0), .val (.ref r1), .val (.ref r2), .val (.ref r3), .val (.ref r2), .val (.int (0 : Int32))]) rfl k) ?_
        show Go _ _ _ _ _ _ _ (T24.setTop (mkF m 280 #[.val (.int nn), .val (.long qa), .second, .val (.long qb), .second, .val (.long qc), .second, .val (.long qo), .second, .val (.long ql), .second, .val (.int (2 : Int32)), .val (.long vo0), .second, .val (.long vl0), .second, .val (.long vo1), .second, .val (.long vl1), .second, .val (.long vo2), .second, .val (.long vl2), .second, .val (.long vof), .second, .val (.long vln), .second, .val (.ref r0), .val (.ref r1), .val (.ref r2), .val (.ref r3), .val (.ref r2), .val (.int (0 : Int32))] []))
        refine Go.step (fun t k => XS.aload X24.here hx rfl (hb hby at_280) rfl rfl k) ?_
        show Go _ _ _ _ _ _ _ (T24.setTop (mkF m 282 #[.val (.int nn), .val (.long qa), .second, .val (.long qb), .second, .val (.long qc), .second, .val (.long qo), .second, .val (.long ql), .second, .val (.int (2 : Int32)), .val (.long vo0), .second, .val (.long vl0), .second, .val (.long vo1), .second, .val (.long vl1), .second, .val (.long vo2), .second, .val (.long vl2), .second, .val (.long vof), .second, .val (.long vln), .second, .val (.ref r0), .val (.ref r1), .val (.ref r2), .val (.ref r3), .val (.ref r2), .val (.int (0 : Int32))] [(.ref r2)]))
        refine Go.step (fun t k => XS.lload X24.here hx rfl (hb hby at_282) rfl k) ?_
        show Go _ _ _ _ _ _ _ (T24.setTop (mkF m 284 #[.val (.int nn), .val (.long qa), .second, .val (.long qb), .second, .val (.long qc), .second, .val (.long qo), .second, .val (.long ql), .second, .val (.int (2 : Int32)), .val (.long vo0), .second, .val (.long vl0), .second, .val (.long vo1), .second, .val (.long vl1), .second, .val (.long vo2), .second, .val (.long vl2), .second, .val (.long vof), .second, .val (.long vln), .second, .val (.ref r0), .val (.ref r1), .val (.ref r2), .val (.ref r3), .val (.ref r2), .val (.int (0 : Int32))] [(.long vof), (.ref r2)]))
        refine Go.step (fun t k => XS.lload X24.here hx rfl (hb hby at_284) rfl k) ?_
        show Go _ _ _ _ _ _ _ (T24.setTop (mkF m 286 #[.val (.int nn), .val (.long qa), .second, .val (.long qb), .second, .val (.long qc), .second, .val (.long qo), .second, .val (.long ql), .second, .val (.int (2 : Int32)), .val (.long vo0), .second, .val (.long vl0), .second, .val (.long vo1), .second, .val (.long vl1), .second, .val (.long vo2), .second, .val (.long vl2), .second, .val (.long vof), .second, .val (.long vln), .second, .val (.ref r0), .val (.ref r1), .val (.ref r2), .val (.ref r3), .val (.ref r2), .val (.int (0 : Int32))] [(.long vln), (.long vof), (.ref r2)]))
        obtain ⟨_, _, ⟨T26, L26, k26, n26⟩, -, X26, ⟨Lc26, hQ26, l26, y26, z26⟩, st26⟩ := Jvm.LawKit.callS X24 hx (y := (⟨"com/example/rootkeep/rootkeep/file/FreeSpace", "overlaps", "([JJJ)Z"⟩ : MethodName)) hown (mvT hZ (hw _ (List.mem_of_getElem? (i := 4) rfl))) (mvT hZ (hw _ (List.mem_of_getElem? (i := 5) rfl))) (mvT hZ (hw _ (List.mem_of_getElem? (i := 6) rfl))) (mvT hZ (hw _ (List.mem_of_getElem? (i := 7) rfl))) (by decide) (backOf (W := 0) (rm1_2 l Z a0 hw [] r2 vof vln vo0 vl0 vo1 vl1 h16 n0 Z16 A_r2 hord.1) hZ (hw _ (List.mem_of_getElem? (i := 7) rfl)) (hw _ (List.mem_of_getElem? (i := 6) rfl)) (by decide) (by decide)) (g := (mkF m 286 #[.val (.int nn), .val (.long qa), .second, .val (.long qb), .second, .val (.long qc), .second, .val (.long qo), .second, .val (.long ql), .second, .val (.int (2 : Int32)), .val (.long vo0), .second, .val (.long vl0), .second, .val (.long vo1), .second, .val (.long vl1), .second, .val (.long vo2), .second, .val (.long vl2), .second, .val (.long vof), .second, .val (.long vln), .second, .val (.ref r0), .val (.ref r1), .val (.ref r2), .val (.ref r3), .val (.ref r2), .val (.int (0 : Int32))] [(.long vln), (.long vof), (.ref r2)])) rfl (by rw [hml]; rfl) (argsL := [(.ref r2), (.long vof), (.long vln)]) (rest := []) (lenOf pd_0_0 rfl) rfl (by show 2 * 0 + _ ≤ _; exact Nat.le_of_eq rfl) (hb hby at_286) (fun _ _ => ⟨rfl, K24q, (by decide : 4 + 0 ≤ _), (by decide : 12 + 0 ≤ _)⟩)
        dsimp only [Pt.U, Pt.locs, Pt.cells, Pt.slots] at X26 l26 y26 z26 st26 hQ26
        subst l26 y26 z26
        obtain ⟨z_26, rfl, N26q, K26q, o26_hz⟩ := hQ26
        have N26 := Fr.app N24 N26q
        refine Go.step st26 ?_
        show Go _ _ _ _ _ _ _ (T26.setTop (mkF m 289 #[.val (.int nn), .val (.long qa), .second, .val (.long qb), .second, .val (.long qc), .second, .val (.long qo), .second, .val (.long ql), .second, .val (.int (2 : Int32)), .val (.long vo0), .second, .val (.long vl0), .second, .val (.long vo1), .second, .val (.long vl1), .second, .val (.long vo2), .second, .val (.long vl2), .second, .val (.long vof), .second, .val (.long vln), .second, .val (.ref r0), .val (.ref r1), .val (.ref r2), .val (.ref r3), .val (.ref r2), .val (.int (0 : Int32))] [(.int z_26)]))
        refine Go.step (fun t k => XS.iload X26.here hx rfl (hb hby at_289) rfl k) ?_
        show Go _ _ _ _ _ _ _ (T26.setTop (mkF m 291 #[.val (.int nn), .val (.long qa), .second, .val (.long qb), .second, .val (.long qc), .second, .val (.long qo), .second, .val (.long ql), .second, .val (.int (2 : Int32)), .val (.long vo0), .second, .val (.long vl0), .second, .val (.long vo1), .second, .val (.long vl1), .second, .val (.long vo2), .second, .val (.long vl2), .second, .val (.long vof), .second, .val (.long vln), .second, .val (.ref r0), .val (.ref r1), .val (.ref r2), .val (.ref r3), .val (.ref r2), .val (.int (0 : Int32))] [(.int (0 : Int32)), (.int z_26)]))
        refine Go.step (fun t k => XS.icmpNo X26.here hx rfl (hb hby at_291) rfl (teq (own_zero o26_hz (fun r => r.elim (own_not o22_hz hc230_23) (own_not o24_hz hc250_25)) : z_26 = (0 : Int32))).2 k) ?_
        show Go _ _ _ _ _ _ _ (T26.setTop (mkF m 294 #[.val (.int nn), .val (.long qa), .second, .val (.long qb), .second, .val (.long qc), .second, .val (.long qo), .second, .val (.long ql), .second, .val (.int (2 : Int32)), .val (.long vo0), .second, .val (.long vl0), .second, .val (.long vo1), .second, .val (.long vl1), .second, .val (.long vo2), .second, .val (.long vl2), .second, .val (.long vof), .second, .val (.long vln), .second, .val (.ref r0), .val (.ref r1), .val (.ref r2), .val (.ref r3), .val (.ref r2), .val (.int (0 : Int32))] []))
        refine Go.step (fun t k => XS.iconst X26.here hx rfl (hb hby at_294) k) ?_
        show Go _ _ _ _ _ _ _ (T26.setTop (mkF m 295 #[.val (.int nn), .val (.long qa), .second, .val (.long qb), .second, .val (.long qc), .second, .val (.long qo), .second, .val (.long ql), .second, .val (.int (2 : Int32)), .val (.long vo0), .second, .val (.long vl0), .second, .val (.long vo1), .second, .val (.long vl1), .second, .val (.long vo2), .second, .val (.long vl2), .second, .val (.long vof), .second, .val (.long vln), .second, .val (.ref r0), .val (.ref r1), .val (.ref r2), .val (.ref r3), .val (.ref r2), .val (.int (0 : Int32))] [(.int (1 : Int32))]))
        refine Go.step (fun t k => XS.goto X26.here hx rfl (pc0 := 295) (pc' := 299) rfl (hb hby at_295) (by decide) (by decide) k) ?_
        show Go _ _ _ _ _ _ _ (T26.setTop (mkF m 299 #[.val (.int nn), .val (.long qa), .second, .val (.long qb), .second, .val (.long qc), .second, .val (.long qo), .second, .val (.long ql), .second, .val (.int (2 : Int32)), .val (.long vo0), .second, .val (.long vl0), .second, .val (.long vo1), .second, .val (.long vl1), .second, .val (.long vo2), .second, .val (.long vl2), .second, .val (.long vof), .second, .val (.long vln), .second, .val (.ref r0), .val (.ref r1), .val (.ref r2), .val (.ref r3), .val (.ref r2), .val (.int (0 : Int32))] [(.int (1 : Int32))]))
        refine Go.retN X26 Bd.notSynchronized hx (t := .boolean) Bd.returns (by simp) (hb hby at_299) (by decide) (by decide) (1 : Int32) rfl ?_
        rw [K26q]
        exact ⟨rfl, N26⟩
      · refine Go.step (fun t k => XS.ifYes X24.here hx rfl (pc0 := 250) (pc' := 273) rfl (hb hby at_250) rfl ((if0 _ _).trans (feq hc250_25).2) (by decide) (by decide) k) ?_
        show Go _ _ _ _ _ _ _ (T24.setTop (mkF m 273 #[.val (.int nn), .val (.long qa), .second, .val (.long qb), .second, .val (.long qc), .second, .val (.long qo), .second, .val (.long ql), .second, .val (.int (2 : Int32)), .val (.long vo0), .second, .val (.long vl0), .second, .val (.long vo1), .second, .val (.long vl1), .second, .val (.long vo2), .second, .val (.long vl2), .second, .val (.long vof), .second, .val (.long vln), .second, .val (.ref r0), .val (.ref r1), .val (.ref r2), .val (.ref r3), .val (.ref r2), .unset] []))
        refine Go.step (fun t k => XS.iconst X24.here hx rfl (hb hby at_273) k) ?_
        show Go _ _ _ _ _ _ _ (T24.setTop (mkF m 274 #[.val (.int nn), .val (.long qa), .second, .val (.long qb), .second, .val (.long qc), .second, .val (.long qo), .second, .val (.long ql), .second, .val (.int (2 : Int32)), .val (.long vo0), .second, .val (.long vl0), .second, .val (.long vo1), .second, .val (.long vl1), .second, .val (.long vo2), .second, .val (.long vl2), .second, .val (.long vof), .second, .val (.long vln), .second, .val (.ref r0), .val (.ref r1), .val (.ref r2), .val (.ref r3), .val (.ref r2), .unset] [(.int (1 : Int32))]))
        refine Go.step (fun t k => XS.goto X24.here hx rfl (pc0 := 274) (pc' := 278) rfl (hb hby at_274) (by decide) (by decide) k) ?_
        show Go _ _ _ _ _ _ _ (T24.setTop (mkF m 278 #[.val (.int nn), .val (.long qa), .second, .val (.long qb), .second, .val (.long qc), .second, .val (.long qo), .second, .val (.long ql), .second, .val (.int (2 : Int32)), .val (.long vo0), .second, .val (.long vl0), .second, .val (.long vo1), .second, .val (.long vl1), .second, .val (.long vo2), .second, .val (.long vl2), .second, .val (.long vof), .second, .val (.long vln), .second, .val (.ref r0), .val (.ref r1), .val (.ref r2), .val (.ref r3), .val (.ref r2), .unset] [(.int (1 : Int32))]))
        refine Go.step (fun t k => XS.istore X24.here hx rfl (hb hby at_278) rfl (l' := #[.val (.int nn), .val (.long qa), .second, .val (.long qb), .second, .val (.long qc), .second, .val (.long qo), .second, .val (.long ql), .second, .val (.int (2 : Int32)), .val (.long vo0), .second, .val (.long vl0), .second, .val (.long vo1), .second, .val (.long vl1), .second, .val (.long vo2), .second, .val (.long vl2), .second, .val (.long vof), .second, .val (.long vln), .second, .val (.ref r0), .val (.ref r1), .val (.ref r2), .val (.ref r3), .val (.ref r2), .val (.int (1 : Int32))]) rfl k) ?_
        show Go _ _ _ _ _ _ _ (T24.setTop (mkF m 280 #[.val (.int nn), .val (.long qa), .second, .val (.long qb), .second, .val (.long qc), .second, .val (.long qo), .second, .val (.long ql), .second, .val (.int (2 : Int32)), .val (.long vo0), .second, .val (.long vl0), .second, .val (.long vo1), .second, .val (.long vl1), .second, .val (.long vo2), .second, .val (.long vl2), .second, .val (.long vof), .second, .val (.long vln), .second, .val (.ref r0), .val (.ref r1), .val (.ref r2), .val (.ref r3), .val (.ref r2), .val (.int (1 : Int32))] []))
        refine Go.step (fun t k => XS.aload X24.here hx rfl (hb hby at_280) rfl rfl k) ?_
        show Go _ _ _ _ _ _ _ (T24.setTop (mkF m 282 #[.val (.int nn), .val (.long qa), .second, .val (.long qb), .second, .val (.long qc), .second, .val (.long qo), .second, .val (.long ql), .second, .val (.int (2 : Int32)), .val (.long vo0), .second, .val (.long vl0), .second, .val (.long vo1), .second, .val (.long vl1), .second, .val (.long vo2), .second, .val (.long vl2), .second, .val (.long vof), .second, .val (.long vln), .second, .val (.ref r0), .val (.ref r1), .val (.ref r2), .val (.ref r3), .val (.ref r2), .val (.int (1 : Int32))] [(.ref r2)]))
        refine Go.step (fun t k => XS.lload X24.here hx rfl (hb hby at_282) rfl k) ?_
        show Go _ _ _ _ _ _ _ (T24.setTop (mkF m 284 #[.val (.int nn), .val (.long qa), .second, .val (.long qb), .second, .val (.long qc), .second, .val (.long qo), .second, .val (.long ql), .second, .val (.int (2 : Int32)), .val (.long vo0), .second, .val (.long vl0), .second, .val (.long vo1), .second, .val (.long vl1), .second, .val (.long vo2), .second, .val (.long vl2), .second, .val (.long vof), .second, .val (.long vln), .second, .val (.ref r0), .val (.ref r1), .val (.ref r2), .val (.ref r3), .val (.ref r2), .val (.int (1 : Int32))] [(.long vof), (.ref r2)]))
        refine Go.step (fun t k => XS.lload X24.here hx rfl (hb hby at_284) rfl k) ?_
        show Go _ _ _ _ _ _ _ (T24.setTop (mkF m 286 #[.val (.int nn), .val (.long qa), .second, .val (.long qb), .second, .val (.long qc), .second, .val (.long qo), .second, .val (.long ql), .second, .val (.int (2 : Int32)), .val (.long vo0), .second, .val (.long vl0), .second, .val (.long vo1), .second, .val (.long vl1), .second, .val (.long vo2), .second, .val (.long vl2), .second, .val (.long vof), .second, .val (.long vln), .second, .val (.ref r0), .val (.ref r1), .val (.ref r2), .val (.ref r3), .val (.ref r2), .val (.int (1 : Int32))] [(.long vln), (.long vof), (.ref r2)]))
        obtain ⟨_, _, ⟨T27, L27, k27, n27⟩, -, X27, ⟨Lc27, hQ27, l27, y27, z27⟩, st27⟩ := Jvm.LawKit.callS X24 hx (y := (⟨"com/example/rootkeep/rootkeep/file/FreeSpace", "overlaps", "([JJJ)Z"⟩ : MethodName)) hown (mvT hZ (hw _ (List.mem_of_getElem? (i := 4) rfl))) (mvT hZ (hw _ (List.mem_of_getElem? (i := 5) rfl))) (mvT hZ (hw _ (List.mem_of_getElem? (i := 6) rfl))) (mvT hZ (hw _ (List.mem_of_getElem? (i := 7) rfl))) (by decide) (backOf (W := 0) (rm1_2 l Z a0 hw [] r2 vof vln vo0 vl0 vo1 vl1 h16 n0 Z16 A_r2 hord.1) hZ (hw _ (List.mem_of_getElem? (i := 7) rfl)) (hw _ (List.mem_of_getElem? (i := 6) rfl)) (by decide) (by decide)) (g := (mkF m 286 #[.val (.int nn), .val (.long qa), .second, .val (.long qb), .second, .val (.long qc), .second, .val (.long qo), .second, .val (.long ql), .second, .val (.int (2 : Int32)), .val (.long vo0), .second, .val (.long vl0), .second, .val (.long vo1), .second, .val (.long vl1), .second, .val (.long vo2), .second, .val (.long vl2), .second, .val (.long vof), .second, .val (.long vln), .second, .val (.ref r0), .val (.ref r1), .val (.ref r2), .val (.ref r3), .val (.ref r2), .val (.int (1 : Int32))] [(.long vln), (.long vof), (.ref r2)])) rfl (by rw [hml]; rfl) (argsL := [(.ref r2), (.long vof), (.long vln)]) (rest := []) (lenOf pd_0_0 rfl) rfl (by show 2 * 0 + _ ≤ _; exact Nat.le_of_eq rfl) (hb hby at_286) (fun _ _ => ⟨rfl, K24q, (by decide : 4 + 0 ≤ _), (by decide : 12 + 0 ≤ _)⟩)
        dsimp only [Pt.U, Pt.locs, Pt.cells, Pt.slots] at X27 l27 y27 z27 st27 hQ27
        subst l27 y27 z27
        obtain ⟨z_27, rfl, N27q, K27q, o27_hz⟩ := hQ27
        have N27 := Fr.app N24 N27q
        refine Go.step st27 ?_
        show Go _ _ _ _ _ _ _ (T27.setTop (mkF m 289 #[.val (.int nn), .val (.long qa), .second, .val (.long qb), .second, .val (.long qc), .second, .val (.long qo), .second, .val (.long ql), .second, .val (.int (2 : Int32)), .val (.long vo0), .second, .val (.long vl0), .second, .val (.long vo1), .second, .val (.long vl1), .second, .val (.long vo2), .second, .val (.long vl2), .second, .val (.long vof), .second, .val (.long vln), .second, .val (.ref r0), .val (.ref r1), .val (.ref r2), .val (.ref r3), .val (.ref r2), .val (.int (1 : Int32))] [(.int z_27)]))
        refine Go.step (fun t k => XS.iload X27.here hx rfl (hb hby at_289) rfl k) ?_
        show Go _ _ _ _ _ _ _ (T27.setTop (mkF m 291 #[.val (.int nn), .val (.long qa), .second, .val (.long qb), .second, .val (.long qc), .second, .val (.long qo), .second, .val (.long ql), .second, .val (.int (2 : Int32)), .val (.long vo0), .second, .val (.long vl0), .second, .val (.long vo1), .second, .val (.long vl1), .second, .val (.long vo2), .second, .val (.long vl2), .second, .val (.long vof), .second, .val (.long vln), .second, .val (.ref r0), .val (.ref r1), .val (.ref r2), .val (.ref r3), .val (.ref r2), .val (.int (1 : Int32))] [(.int (1 : Int32)), (.int z_27)]))
        refine Go.step (fun t k => XS.icmpNo X27.here hx rfl (hb hby at_291) rfl (teq (own_one o27_hz (Or.inr (own_pos o24_hz hc250_25)) : z_27 = (1 : Int32))).2 k) ?_
        show Go _ _ _ _ _ _ _ (T27.setTop (mkF m 294 #[.val (.int nn), .val (.long qa), .second, .val (.long qb), .second, .val (.long qc), .second, .val (.long qo), .second, .val (.long ql), .second, .val (.int (2 : Int32)), .val (.long vo0), .second, .val (.long vl0), .second, .val (.long vo1), .second, .val (.long vl1), .second, .val (.long vo2), .second, .val (.long vl2), .second, .val (.long vof), .second, .val (.long vln), .second, .val (.ref r0), .val (.ref r1), .val (.ref r2), .val (.ref r3), .val (.ref r2), .val (.int (1 : Int32))] []))
        refine Go.step (fun t k => XS.iconst X27.here hx rfl (hb hby at_294) k) ?_
        show Go _ _ _ _ _ _ _ (T27.setTop (mkF m 295 #[.val (.int nn), .val (.long qa), .second, .val (.long qb), .second, .val (.long qc), .second, .val (.long qo), .second, .val (.long ql), .second, .val (.int (2 : Int32)), .val (.long vo0), .second, .val (.long vl0), .second, .val (.long vo1), .second, .val (.long vl1), .second, .val (.long vo2), .second, .val (.long vl2), .second, .val (.long vof), .second, .val (.long vln), .second, .val (.ref r0), .val (.ref r1), .val (.ref r2), .val (.ref r3), .val (.ref r2), .val (.int (1 : Int32))] [(.int (1 : Int32))]))
        refine Go.step (fun t k => XS.goto X27.here hx rfl (pc0 := 295) (pc' := 299) rfl (hb hby at_295) (by decide) (by decide) k) ?_
        show Go _ _ _ _ _ _ _ (T27.setTop (mkF m 299 #[.val (.int nn), .val (.long qa), .second, .val (.long qb), .second, .val (.long qc), .second, .val (.long qo), .second, .val (.long ql), .second, .val (.int (2 : Int32)), .val (.long vo0), .second, .val (.long vl0), .second, .val (.long vo1), .second, .val (.long vl1), .second, .val (.long vo2), .second, .val (.long vl2), .second, .val (.long vof), .second, .val (.long vln), .second, .val (.ref r0), .val (.ref r1), .val (.ref r2), .val (.ref r3), .val (.ref r2), .val (.int (1 : Int32))] [(.int (1 : Int32))]))
        refine Go.retN X27 Bd.notSynchronized hx (t := .boolean) Bd.returns (by simp) (hb hby at_299) (by decide) (by decide) (1 : Int32) rfl ?_
        rw [K27q]
        exact ⟨rfl, N27⟩
    · refine Go.step (fun t k => XS.ifYes X22.here hx rfl (pc0 := 230) (pc' := 273) rfl (hb hby at_230) rfl ((if0 _ _).trans (feq hc230_23).2) (by decide) (by decide) k) ?_
      show Go _ _ _ _ _ _ _ (T22.setTop (mkF m 273 #[.val (.int nn), .val (.long qa), .second, .val (.long qb), .second, .val (.long qc), .second, .val (.long qo), .second, .val (.long ql), .second, .val (.int (2 : Int32)), .val (.long vo0), .second, .val (.long vl0), .second, .val (.long vo1), .second, .val (.long vl1), .second, .val (.long vo2), .second, .val (.long vl2), .second, .val (.long vof), .second, .val (.long vln), .second, .val (.ref r0), .val (.ref r1), .val (.ref r2), .val (.ref r3), .val (.ref r2), .unset] []))
      refine Go.step (fun t k => XS.iconst X22.here hx rfl (hb hby at_273) k) ?_
      show Go _ _ _ _ _ _ _ (T22.setTop (mkF m 274 #[.val (.int nn), .val (.long qa), .second, .val (.long qb), .second, .val (.long qc), .second, .val (.long qo), .second, .val (.long ql), .second, .val (.int (2 : Int32)), .val (.long vo0), .second, .val (.long vl0), .second, .val (.long vo1), .second, .val (.long vl1), .second, .val (.long vo2), .second, .val (.long vl2), .second, .val (.long vof), .second, .val (.long vln), .second, .val (.ref r0), .val (.ref r1), .val (.ref r2), .val (.ref r3), .val (.ref r2), .unset] [(.int (1 : Int32))]))
      refine Go.step (fun t k => XS.goto X22.here hx rfl (pc0 := 274) (pc' := 278) rfl (hb hby at_274) (by decide) (by decide) k) ?_
      show Go _ _ _ _ _ _ _ (T22.setTop (mkF m 278 #[.val (.int nn), .val (.long qa), .second, .val (.long qb), .second, .val (.long qc), .second, .val (.long qo), .second, .val (.long ql), .second, .val (.int (2 : Int32)), .val (.long vo0), .second, .val (.long vl0), .second, .val (.long vo1), .second, .val (.long vl1), .second, .val (.long vo2), .second, .val (.long vl2), .second, .val (.long vof), .second, .val (.long vln), .second, .val (.ref r0), .val (.ref r1), .val (.ref r2), .val (.ref r3), .val (.ref r2), .unset] [(.int (1 : Int32))]))
      refine Go.step (fun t k => XS.istore X22.here hx rfl (hb hby at_278) rfl (l' := #[.val (.int nn), .val (.long qa), .second, .val (.long qb), .second, .val (.long qc), .second, .val (.long qo), .second, .val (.long ql), .second, .val (.int (2 : Int32)), .val (.long vo0), .second, .val (.long vl0), .second, .val (.long vo1), .second, .val (.long vl1), .second, .val (.long vo2), .second, .val (.long vl2), .second, .val (.long vof), .second, .val (.long vln), .second, .val (.ref r0), .val (.ref r1), .val (.ref r2), .val (.ref r3), .val (.ref r2), .val (.int (1 : Int32))]) rfl k) ?_
      show Go _ _ _ _ _ _ _ (T22.setTop (mkF m 280 #[.val (.int nn), .val (.long qa), .second, .val (.long qb), .second, .val (.long qc), .second, .val (.long qo), .second, .val (.long ql), .second, .val (.int (2 : Int32)), .val (.long vo0), .second, .val (.long vl0), .second, .val (.long vo1), .second, .val (.long vl1), .second, .val (.long vo2), .second, .val (.long vl2), .second, .val (.long vof), .second, .val (.long vln), .second, .val (.ref r0), .val (.ref r1), .val (.ref r2), .val (.ref r3), .val (.ref r2), .val (.int (1 : Int32))] []))
      refine Go.step (fun t k => XS.aload X22.here hx rfl (hb hby at_280) rfl rfl k) ?_
      show Go _ _ _ _ _ _ _ (T22.setTop (mkF m 282 #[.val (.int nn), .val (.long qa), .second, .val (.long qb), .second, .val (.long qc), .second, .val (.long qo), .second, .val (.long ql), .second, .val (.int (2 : Int32)), .val (.long vo0), .second, .val (.long vl0), .second, .val (.long vo1), .second, .val (.long vl1), .second, .val (.long vo2), .second, .val (.long vl2), .second, .val (.long vof), .second, .val (.long vln), .second, .val (.ref r0), .val (.ref r1), .val (.ref r2), .val (.ref r3), .val (.ref r2), .val (.int (1 : Int32))] [(.ref r2)]))
      refine Go.step (fun t k => XS.lload X22.here hx rfl (hb hby at_282) rfl k) ?_
      show Go _ _ _ _ _ _ _ (T22.setTop (mkF m 284 #[.val (.int nn), .val (.long qa), .second, .val (.long qb), .second, .val (.long qc), .second, .val (.long qo), .second, .val (.long ql), .second, .val (.int (2 : Int32)), .val (.long vo0), .second, .val (.long vl0), .second, .val (.long vo1), .second, .val (.long vl1), .second, .val (.long vo2), .second, .val (.long vl2), .second, .val (.long vof), .second, .val (.long vln), .second, .val (.ref r0), .val (.ref r1), .val (.ref r2), .val (.ref r3), .val (.ref r2), .val (.int (1 : Int32))] [(.long vof), (.ref r2)]))
      refine Go.step (fun t k => XS.lload X22.here hx rfl (hb hby at_284) rfl k) ?_
      show Go _ _ _ _ _ _ _ (T22.setTop (mkF m 286 #[.val (.int nn), .val (.long qa), .second, .val (.long qb), .second, .val (.long qc), .second, .val (.long qo), .second, .val (.long ql), .second, .val (.int (2 : Int32)), .val (.long vo0), .second, .val (.long vl0), .second, .val (.long vo1), .second, .val (.long vl1), .second, .val (.long vo2), .second, .val (.long vl2), .second, .val (.long vof), .second, .val (.long vln), .second, .val (.ref r0), .val (.ref r1), .val (.ref r2), .val (.ref r3), .val (.ref r2), .val (.int (1 : Int32))] [(.long vln), (.long vof), (.ref r2)]))
      obtain ⟨_, _, ⟨T28, L28, k28, n28⟩, -, X28, ⟨Lc28, hQ28, l28, y28, z28⟩, st28⟩ := Jvm.LawKit.callS X22 hx (y := (⟨"com/example/rootkeep/rootkeep/file/FreeSpace", "overlaps", "([JJJ)Z"⟩ : MethodName)) hown (mvT hZ (hw _ (List.mem_of_getElem? (i := 4) rfl))) (mvT hZ (hw _ (List.mem_of_getElem? (i := 5) rfl))) (mvT hZ (hw _ (List.mem_of_getElem? (i := 6) rfl))) (mvT hZ (hw _ (List.mem_of_getElem? (i := 7) rfl))) (by decide) (backOf (W := 0) (rm1_2 l Z a0 hw [] r2 vof vln vo0 vl0 vo1 vl1 h16 n0 Z16 A_r2 hord.1) hZ (hw _ (List.mem_of_getElem? (i := 7) rfl)) (hw _ (List.mem_of_getElem? (i := 6) rfl)) (by decide) (by decide)) (g := (mkF m 286 #[.val (.int nn), .val (.long qa), .second, .val (.long qb), .second, .val (.long qc), .second, .val (.long qo), .second, .val (.long ql), .second, .val (.int (2 : Int32)), .val (.long vo0), .second, .val (.long vl0), .second, .val (.long vo1), .second, .val (.long vl1), .second, .val (.long vo2), .second, .val (.long vl2), .second, .val (.long vof), .second, .val (.long vln), .second, .val (.ref r0), .val (.ref r1), .val (.ref r2), .val (.ref r3), .val (.ref r2), .val (.int (1 : Int32))] [(.long vln), (.long vof), (.ref r2)])) rfl (by rw [hml]; rfl) (argsL := [(.ref r2), (.long vof), (.long vln)]) (rest := []) (lenOf pd_0_0 rfl) rfl (by show 2 * 0 + _ ≤ _; exact Nat.le_of_eq rfl) (hb hby at_286) (fun _ _ => ⟨rfl, K22q, (by decide : 4 + 0 ≤ _), (by decide : 12 + 0 ≤ _)⟩)
      dsimp only [Pt.U, Pt.locs, Pt.cells, Pt.slots] at X28 l28 y28 z28 st28 hQ28
      subst l28 y28 z28
      obtain ⟨z_28, rfl, N28q, K28q, o28_hz⟩ := hQ28
      have N28 := Fr.app N22 N28q
      refine Go.step st28 ?_
      show Go _ _ _ _ _ _ _ (T28.setTop (mkF m 289 #[.val (.int nn), .val (.long qa), .second, .val (.long qb), .second, .val (.long qc), .second, .val (.long qo), .second, .val (.long ql), .second, .val (.int (2 : Int32)), .val (.long vo0), .second, .val (.long vl0), .second, .val (.long vo1), .second, .val (.long vl1), .second, .val (.long vo2), .second, .val (.long vl2), .second, .val (.long vof), .second, .val (.long vln), .second, .val (.ref r0), .val (.ref r1), .val (.ref r2), .val (.ref r3), .val (.ref r2), .val (.int (1 : Int32))] [(.int z_28)]))
      refine Go.step (fun t k => XS.iload X28.here hx rfl (hb hby at_289) rfl k) ?_
      show Go _ _ _ _ _ _ _ (T28.setTop (mkF m 291 #[.val (.int nn), .val (.long qa), .second, .val (.long qb), .second, .val (.long qc), .second, .val (.long qo), .second, .val (.long ql), .second, .val (.int (2 : Int32)), .val (.long vo0), .second, .val (.long vl0), .second, .val (.long vo1), .second, .val (.long vl1), .second, .val (.long vo2), .second, .val (.long vl2), .second, .val (.long vof), .second, .val (.long vln), .second, .val (.ref r0), .val (.ref r1), .val (.ref r2), .val (.ref r3), .val (.ref r2), .val (.int (1 : Int32))] [(.int (1 : Int32)), (.int z_28)]))
      refine Go.step (fun t k => XS.icmpNo X28.here hx rfl (hb hby at_291) rfl (teq (own_one o28_hz (Or.inl (own_pos o22_hz hc230_23)) : z_28 = (1 : Int32))).2 k) ?_
      show Go _ _ _ _ _ _ _ (T28.setTop (mkF m 294 #[.val (.int nn), .val (.long qa), .second, .val (.long qb), .second, .val (.long qc), .second, .val (.long qo), .second, .val (.long ql), .second, .val (.int (2 : Int32)), .val (.long vo0), .second, .val (.long vl0), .second, .val (.long vo1), .second, .val (.long vl1), .second, .val (.long vo2), .second, .val (.long vl2), .second, .val (.long vof), .second, .val (.long vln), .second, .val (.ref r0), .val (.ref r1), .val (.ref r2), .val (.ref r3), .val (.ref r2), .val (.int (1 : Int32))] []))
      refine Go.step (fun t k => XS.iconst X28.here hx rfl (hb hby at_294) k) ?_
      show Go _ _ _ _ _ _ _ (T28.setTop (mkF m 295 #[.val (.int nn), .val (.long qa), .second, .val (.long qb), .second, .val (.long qc), .second, .val (.long qo), .second, .val (.long ql), .second, .val (.int (2 : Int32)), .val (.long vo0), .second, .val (.long vl0), .second, .val (.long vo1), .second, .val (.long vl1), .second, .val (.long vo2), .second, .val (.long vl2), .second, .val (.long vof), .second, .val (.long vln), .second, .val (.ref r0), .val (.ref r1), .val (.ref r2), .val (.ref r3), .val (.ref r2), .val (.int (1 : Int32))] [(.int (1 : Int32))]))
      refine Go.step (fun t k => XS.goto X28.here hx rfl (pc0 := 295) (pc' := 299) rfl (hb hby at_295) (by decide) (by decide) k) ?_
      show Go _ _ _ _ _ _ _ (T28.setTop (mkF m 299 #[.val (.int nn), .val (.long qa), .second, .val (.long qb), .second, .val (.long qc), .second, .val (.long qo), .second, .val (.long ql), .second, .val (.int (2 : Int32)), .val (.long vo0), .second, .val (.long vl0), .second, .val (.long vo1), .second, .val (.long vl1), .second, .val (.long vo2), .second, .val (.long vl2), .second, .val (.long vof), .second, .val (.long vln), .second, .val (.ref r0), .val (.ref r1), .val (.ref r2), .val (.ref r3), .val (.ref r2), .val (.int (1 : Int32))] [(.int (1 : Int32))]))
      refine Go.retN X28 Bd.notSynchronized hx (t := .boolean) Bd.returns (by simp) (hb hby at_299) (by decide) (by decide) (1 : Int32) rfl ?_
      rw [K28q]
      exact ⟨rfl, N28⟩
  · rw [hk]
    show Go _ _ _ _ _ _ _ (T16.setTop (mkF m 177 #[.val (.int nn), .val (.long qa), .second, .val (.long qb), .second, .val (.long qc), .second, .val (.long qo), .second, .val (.long ql), .second, .val (.int (3 : Int32)), .val (.long vo0), .second, .val (.long vl0), .second, .val (.long vo1), .second, .val (.long vl1), .second, .val (.long vo2), .second, .val (.long vl2), .second, .val (.long vof), .second, .val (.long vln), .second, .val (.ref r0), .val (.ref r1), .val (.ref r2), .val (.ref r3), .unset, .unset] []))
    refine Go.step (fun t k => XS.iload X16.here hx rfl (hb hby at_177) rfl k) ?_
    show Go _ _ _ _ _ _ _ (T16.setTop (mkF m 179 #[.val (.int nn), .val (.long qa), .second, .val (.long qb), .second, .val (.long qc), .second, .val (.long qo), .second, .val (.long ql), .second, .val (.int (3 : Int32)), .val (.long vo0), .second, .val (.long vl0), .second, .val (.long vo1), .second, .val (.long vl1), .second, .val (.long vo2), .second, .val (.long vl2), .second, .val (.long vof), .second, .val (.long vln), .second, .val (.ref r0), .val (.ref r1), .val (.ref r2), .val (.ref r3), .unset, .unset] [(.int (3 : Int32))]))
    refine Go.step (fun t k => XS.ifYes X16.here hx rfl (pc0 := 179) (pc' := 187) rfl (hb hby at_179) rfl ((if0 _ _).trans (feq (by decide : ¬ (3 : Int32) = (0 : Int32))).2) (by decide) (by decide) k) ?_
    show Go _ _ _ _ _ _ _ (T16.setTop (mkF m 187 #[.val (.int nn), .val (.long qa), .second, .val (.long qb), .second, .val (.long qc), .second, .val (.long qo), .second, .val (.long ql), .second, .val (.int (3 : Int32)), .val (.long vo0), .second, .val (.long vl0), .second, .val (.long vo1), .second, .val (.long vl1), .second, .val (.long vo2), .second, .val (.long vl2), .second, .val (.long vof), .second, .val (.long vln), .second, .val (.ref r0), .val (.ref r1), .val (.ref r2), .val (.ref r3), .unset, .unset] []))
    refine Go.step (fun t k => XS.iload X16.here hx rfl (hb hby at_187) rfl k) ?_
    show Go _ _ _ _ _ _ _ (T16.setTop (mkF m 189 #[.val (.int nn), .val (.long qa), .second, .val (.long qb), .second, .val (.long qc), .second, .val (.long qo), .second, .val (.long ql), .second, .val (.int (3 : Int32)), .val (.long vo0), .second, .val (.long vl0), .second, .val (.long vo1), .second, .val (.long vl1), .second, .val (.long vo2), .second, .val (.long vl2), .second, .val (.long vof), .second, .val (.long vln), .second, .val (.ref r0), .val (.ref r1), .val (.ref r2), .val (.ref r3), .unset, .unset] [(.int (3 : Int32))]))
    refine Go.step (fun t k => XS.iconst X16.here hx rfl (hb hby at_189) k) ?_
    show Go _ _ _ _ _ _ _ (T16.setTop (mkF m 190 #[.val (.int nn), .val (.long qa), .second, .val (.long qb), .second, .val (.long qc), .second, .val (.long qo), .second, .val (.long ql), .second, .val (.int (3 : Int32)), .val (.long vo0), .second, .val (.long vl0), .second, .val (.long vo1), .second, .val (.long vl1), .second, .val (.long vo2), .second, .val (.long vl2), .second, .val (.long vof), .second, .val (.long vln), .second, .val (.ref r0), .val (.ref r1), .val (.ref r2), .val (.ref r3), .unset, .unset] [(.int (1 : Int32)), (.int (3 : Int32))]))
    refine Go.step (fun t k => XS.icmpYes X16.here hx rfl (pc0 := 190) (pc' := 198) rfl (hb hby at_190) rfl (feq (by decide : ¬ (3 : Int32) = (1 : Int32))).2 (by decide) (by decide) k) ?_
    show Go _ _ _ _ _ _ _ (T16.setTop (mkF m 198 #[.val (.int nn), .val (.long qa), .second, .val (.long qb), .second, .val (.long qc), .second, .val (.long qo), .second, .val (.long ql), .second, .val (.int (3 : Int32)), .val (.long vo0), .second, .val (.long vl0), .second, .val (.long vo1), .second, .val (.long vl1), .second, .val (.long vo2), .second, .val (.long vl2), .second, .val (.long vof), .second, .val (.long vln), .second, .val (.ref r0), .val (.ref r1), .val (.ref r2), .val (.ref r3), .unset, .unset] []))
    refine Go.step (fun t k => XS.iload X16.here hx rfl (hb hby at_198) rfl k) ?_
    show Go _ _ _ _ _ _ _ (T16.setTop (mkF m 200 #[.val (.int nn), .val (.long qa), .second, .val (.long qb), .second, .val (.long qc), .second, .val (.long qo), .second, .val (.long ql), .second, .val (.int (3 : Int32)), .val (.long vo0), .second, .val (.long vl0), .second, .val (.long vo1), .second, .val (.long vl1), .second, .val (.long vo2), .second, .val (.long vl2), .second, .val (.long vof), .second, .val (.long vln), .second, .val (.ref r0), .val (.ref r1), .val (.ref r2), .val (.ref r3), .unset, .unset] [(.int (3 : Int32))]))
    refine Go.step (fun t k => XS.iconst X16.here hx rfl (hb hby at_200) k) ?_
    show Go _ _ _ _ _ _ _ (T16.setTop (mkF m 201 #[.val (.int nn), .val (.long qa), .second, .val (.long qb), .second, .val (.long qc), .second, .val (.long qo), .second, .val (.long ql), .second, .val (.int (3 : Int32)), .val (.long vo0), .second, .val (.long vl0), .second, .val (.long vo1), .second, .val (.long vl1), .second, .val (.long vo2), .second, .val (.long vl2), .second, .val (.long vof), .second, .val (.long vln), .second, .val (.ref r0), .val (.ref r1), .val (.ref r2), .val (.ref r3), .unset, .unset] [(.int (2 : Int32)), (.int (3 : Int32))]))
    refine Go.step (fun t k => XS.icmpYes X16.here hx rfl (pc0 := 201) (pc' := 209) rfl (hb hby at_201) rfl (feq (by decide : ¬ (3 : Int32) = (2 : Int32))).2 (by decide) (by decide) k) ?_
    show Go _ _ _ _ _ _ _ (T16.setTop (mkF m 209 #[.val (.int nn), .val (.long qa), .second, .val (.long qb), .second, .val (.long qc), .second, .val (.long qo), .second, .val (.long ql), .second, .val (.int (3 : Int32)), .val (.long vo0), .second, .val (.long vl0), .second, .val (.long vo1), .second, .val (.long vl1), .second, .val (.long vo2), .second, .val (.long vl2), .second, .val (.long vof), .second, .val (.long vln), .second, .val (.ref r0), .val (.ref r1), .val (.ref r2), .val (.ref r3), .unset, .unset] []))
    refine Go.step (fun t k => XS.aload X16.here hx rfl (hb hby at_209) rfl rfl k) ?_
    show Go _ _ _ _ _ _ _ (T16.setTop (mkF m 211 #[.val (.int nn), .val (.long qa), .second, .val (.long qb), .second, .val (.long qc), .second, .val (.long qo), .second, .val (.long ql), .second, .val (.int (3 : Int32)), .val (.long vo0), .second, .val (.long vl0), .second, .val (.long vo1), .second, .val (.long vl1), .second, .val (.long vo2), .second, .val (.long vl2), .second, .val (.long vof), .second, .val (.long vln), .second, .val (.ref r0), .val (.ref r1), .val (.ref r2), .val (.ref r3), .unset, .unset] [(.ref r3)]))
    refine Go.step (fun t k => XS.astore X16.here hx rfl (hb hby at_211) rfl rfl (l' := #[.val (.int nn), .val (.long qa), .second, .val (.long qb), .second, .val (.long qc), .second, .val (.long qo), .second, .val (.long ql), .second, .val (.int (3 : Int32)), .val (.long vo0), .second, .val (.long vl0), .second, .val (.long vo1), .second, .val (.long vl1), .second, .val (.long vo2), .second, .val (.long vl2), .second, .val (.long vof), .second, .val (.long vln), .second, .val (.ref r0), .val (.ref r1), .val (.ref r2), .val (.ref r3), .val (.ref r3), .unset]) rfl k) ?_
    show Go _ _ _ _ _ _ _ (T16.setTop (mkF m 213 #[.val (.int nn), .val (.long qa), .second, .val (.long qb), .second, .val (.long qc), .second, .val (.long qo), .second, .val (.long ql), .second, .val (.int (3 : Int32)), .val (.long vo0), .second, .val (.long vl0), .second, .val (.long vo1), .second, .val (.long vl1), .second, .val (.long vo2), .second, .val (.long vl2), .second, .val (.long vof), .second, .val (.long vln), .second, .val (.ref r0), .val (.ref r1), .val (.ref r2), .val (.ref r3), .val (.ref r3), .unset] []))
    refine Go.step (fun t k => XS.iload X16.here hx rfl (hb hby at_213) rfl k) ?_
    show Go _ _ _ _ _ _ _ (T16.setTop (mkF m 215 #[.val (.int nn), .val (.long qa), .second, .val (.long qb), .second, .val (.long qc), .second, .val (.long qo), .second, .val (.long ql), .second, .val (.int (3 : Int32)), .val (.long vo0), .second, .val (.long vl0), .second, .val (.long vo1), .second, .val (.long vl1), .second, .val (.long vo2), .second, .val (.long vl2), .second, .val (.long vof), .second, .val (.long vln), .second, .val (.ref r0), .val (.ref r1), .val (.ref r2), .val (.ref r3), .val (.ref r3), .unset] [(.int (3 : Int32))]))
    refine Go.step (fun t k => XS.iconst X16.here hx rfl (hb hby at_215) k) ?_
    show Go _ _ _ _ _ _ _ (T16.setTop (mkF m 216 #[.val (.int nn), .val (.long qa), .second, .val (.long qb), .second, .val (.long qc), .second, .val (.long qo), .second, .val (.long ql), .second, .val (.int (3 : Int32)), .val (.long vo0), .second, .val (.long vl0), .second, .val (.long vo1), .second, .val (.long vl1), .second, .val (.long vo2), .second, .val (.long vl2), .second, .val (.long vof), .second, .val (.long vln), .second, .val (.ref r0), .val (.ref r1), .val (.ref r2), .val (.ref r3), .val (.ref r3), .unset] [(.int (1 : Int32)), (.int (3 : Int32))]))
    refine Go.step (fun t k => XS.icmpNo X16.here hx rfl (hb hby at_216) rfl (flt (by decide : ¬ (3 : Int32) < (1 : Int32))).1 k) ?_
    show Go _ _ _ _ _ _ _ (T16.setTop (mkF m 219 #[.val (.int nn), .val (.long qa), .second, .val (.long qb), .second, .val (.long qc), .second, .val (.long qo), .second, .val (.long ql), .second, .val (.int (3 : Int32)), .val (.long vo0), .second, .val (.long vl0), .second, .val (.long vo1), .second, .val (.long vl1), .second, .val (.long vo2), .second, .val (.long vl2), .second, .val (.long vof), .second, .val (.long vln), .second, .val (.ref r0), .val (.ref r1), .val (.ref r2), .val (.ref r3), .val (.ref r3), .unset] []))
    refine Go.step (fun t k => XS.lload X16.here hx rfl (hb hby at_219) rfl k) ?_
    show Go _ _ _ _ _ _ _ (T16.setTop (mkF m 221 #[.val (.int nn), .val (.long qa), .second, .val (.long qb), .second, .val (.long qc), .second, .val (.long qo), .second, .val (.long ql), .second, .val (.int (3 : Int32)), .val (.long vo0), .second, .val (.long vl0), .second, .val (.long vo1), .second, .val (.long vl1), .second, .val (.long vo2), .second, .val (.long vl2), .second, .val (.long vof), .second, .val (.long vln), .second, .val (.ref r0), .val (.ref r1), .val (.ref r2), .val (.ref r3), .val (.ref r3), .unset] [(.long vo0)]))
    refine Go.step (fun t k => XS.lload X16.here hx rfl (hb hby at_221) rfl k) ?_
    show Go _ _ _ _ _ _ _ (T16.setTop (mkF m 223 #[.val (.int nn), .val (.long qa), .second, .val (.long qb), .second, .val (.long qc), .second, .val (.long qo), .second, .val (.long ql), .second, .val (.int (3 : Int32)), .val (.long vo0), .second, .val (.long vl0), .second, .val (.long vo1), .second, .val (.long vl1), .second, .val (.long vo2), .second, .val (.long vl2), .second, .val (.long vof), .second, .val (.long vln), .second, .val (.ref r0), .val (.ref r1), .val (.ref r2), .val (.ref r3), .val (.ref r3), .unset] [(.long vl0), (.long vo0)]))
    refine Go.step (fun t k => XS.lload X16.here hx rfl (hb hby at_223) rfl k) ?_
    show Go _ _ _ _ _ _ _ (T16.setTop (mkF m 225 #[.val (.int nn), .val (.long qa), .second, .val (.long qb), .second, .val (.long qc), .second, .val (.long qo), .second, .val (.long ql), .second, .val (.int (3 : Int32)), .val (.long vo0), .second, .val (.long vl0), .second, .val (.long vo1), .second, .val (.long vl1), .second, .val (.long vo2), .second, .val (.long vl2), .second, .val (.long vof), .second, .val (.long vln), .second, .val (.ref r0), .val (.ref r1), .val (.ref r2), .val (.ref r3), .val (.ref r3), .unset] [(.long vof), (.long vl0), (.long vo0)]))
    refine Go.step (fun t k => XS.lload X16.here hx rfl (hb hby at_225) rfl k) ?_
    show Go _ _ _ _ _ _ _ (T16.setTop (mkF m 227 #[.val (.int nn), .val (.long qa), .second, .val (.long qb), .second, .val (.long qc), .second, .val (.long qo), .second, .val (.long ql), .second, .val (.int (3 : Int32)), .val (.long vo0), .second, .val (.long vl0), .second, .val (.long vo1), .second, .val (.long vl1), .second, .val (.long vo2), .second, .val (.long vl2), .second, .val (.long vof), .second, .val (.long vln), .second, .val (.ref r0), .val (.ref r1), .val (.ref r2), .val (.ref r3), .val (.ref r3), .unset] [(.long vln), (.long vof), (.long vl0), (.long vo0)]))
    obtain ⟨_, _, ⟨T29, L29, k29, n29⟩, -, X29, ⟨Lc29, hQ29, l29, y29, z29⟩, st29⟩ := Jvm.LawKit.callS X16 hx (y := (⟨"com/example/rootkeep/rootkeep/file/FreeSpaceOverlapsPinLaw", "hits", "(JJJJ)Z"⟩ : MethodName)) hown (mvT hZ (hw _ (List.mem_of_getElem? (i := 8) rfl))) (mvT hZ (hw _ (List.mem_of_getElem? (i := 9) rfl))) (mvT hZ (hw _ (List.mem_of_getElem? (i := 10) rfl))) (mvT hZ (hw _ (List.mem_of_getElem? (i := 11) rfl))) (by decide) (backOf (W := 0) (rm2 l Z a0 hw [] vo0 vl0 vof vln h16 n0 Z16) hZ (hw _ (List.mem_of_getElem? (i := 11) rfl)) (hw _ (List.mem_of_getElem? (i := 10) rfl)) (by decide) (by decide)) (g := (mkF m 227 #[.val (.int nn), .val (.long qa), .second, .val (.long qb), .second, .val (.long qc), .second, .val (.long qo), .second, .val (.long ql), .second, .val (.int (3 : Int32)), .val (.long vo0), .second, .val (.long vl0), .second, .val (.long vo1), .second, .val (.long vl1), .second, .val (.long vo2), .second, .val (.long vl2), .second, .val (.long vof), .second, .val (.long vln), .second, .val (.ref r0), .val (.ref r1), .val (.ref r2), .val (.ref r3), .val (.ref r3), .unset] [(.long vln), (.long vof), (.long vl0), (.long vo0)])) rfl (by rw [hml]; rfl) (argsL := [(.long vo0), (.long vl0), (.long vof), (.long vln)]) (rest := []) (lenOf pd_0_1 rfl) rfl (by show 2 * 0 + _ ≤ _; exact Nat.le_of_eq rfl) (hb hby at_227) (fun _ _ => ⟨rfl, e16, (by decide : 4 + 0 ≤ _), (by decide : 12 + 0 ≤ _)⟩)
    dsimp only [Pt.U, Pt.locs, Pt.cells, Pt.slots] at X29 l29 y29 z29 st29 hQ29
    subst l29 y29 z29
    obtain ⟨z_29, rfl, N29q, K29q, o29_hz⟩ := hQ29
    have N29 := Fr.app N16 N29q
    refine Go.step st29 ?_
    show Go _ _ _ _ _ _ _ (T29.setTop (mkF m 230 #[.val (.int nn), .val (.long qa), .second, .val (.long qb), .second, .val (.long qc), .second, .val (.long qo), .second, .val (.long ql), .second, .val (.int (3 : Int32)), .val (.long vo0), .second, .val (.long vl0), .second, .val (.long vo1), .second, .val (.long vl1), .second, .val (.long vo2), .second, .val (.long vl2), .second, .val (.long vof), .second, .val (.long vln), .second, .val (.ref r0), .val (.ref r1), .val (.ref r2), .val (.ref r3), .val (.ref r3), .unset] [(.int z_29)]))
    by_cases hc230_30 : z_29 = (0 : Int32)
    · refine Go.step (fun t k => XS.ifNo X29.here hx rfl (hb hby at_230) rfl ((if0 _ _).trans (teq hc230_30).2) k) ?_
      show Go _ _ _ _ _ _ _ (T29.setTop (mkF m 233 #[.val (.int nn), .val (.long qa), .second, .val (.long qb), .second, .val (.long qc), .second, .val (.long qo), .second, .val (.long ql), .second, .val (.int (3 : Int32)), .val (.long vo0), .second, .val (.long vl0), .second, .val (.long vo1), .second, .val (.long vl1), .second, .val (.long vo2), .second, .val (.long vl2), .second, .val (.long vof), .second, .val (.long vln), .second, .val (.ref r0), .val (.ref r1), .val (.ref r2), .val (.ref r3), .val (.ref r3), .unset] []))
      refine Go.step (fun t k => XS.iload X29.here hx rfl (hb hby at_233) rfl k) ?_
      show Go _ _ _ _ _ _ _ (T29.setTop (mkF m 235 #[.val (.int nn), .val (.long qa), .second, .val (.long qb), .second, .val (.long qc), .second, .val (.long qo), .second, .val (.long ql), .second, .val (.int (3 : Int32)), .val (.long vo0), .second, .val (.long vl0), .second, .val (.long vo1), .second, .val (.long vl1), .second, .val (.long vo2), .second, .val (.long vl2), .second, .val (.long vof), .second, .val (.long vln), .second, .val (.ref r0), .val (.ref r1), .val (.ref r2), .val (.ref r3), .val (.ref r3), .unset] [(.int (3 : Int32))]))
      refine Go.step (fun t k => XS.iconst X29.here hx rfl (hb hby at_235) k) ?_
      show Go _ _ _ _ _ _ _ (T29.setTop (mkF m 236 #[.val (.int nn), .val (.long qa), .second, .val (.long qb), .second, .val (.long qc), .second, .val (.long qo), .second, .val (.long ql), .second, .val (.int (3 : Int32)), .val (.long vo0), .second, .val (.long vl0), .second, .val (.long vo1), .second, .val (.long vl1), .second, .val (.long vo2), .second, .val (.long vl2), .second, .val (.long vof), .second, .val (.long vln), .second, .val (.ref r0), .val (.ref r1), .val (.ref r2), .val (.ref r3), .val (.ref r3), .unset] [(.int (2 : Int32)), (.int (3 : Int32))]))
      refine Go.step (fun t k => XS.icmpNo X29.here hx rfl (hb hby at_236) rfl (flt (by decide : ¬ (3 : Int32) < (2 : Int32))).1 k) ?_
      show Go _ _ _ _ _ _ _ (T29.setTop (mkF m 239 #[.val (.int nn), .val (.long qa), .second, .val (.long qb), .second, .val (.long qc), .second, .val (.long qo), .second, .val (.long ql), .second, .val (.int (3 : Int32)), .val (.long vo0), .second, .val (.long vl0), .second, .val (.long vo1), .second, .val (.long vl1), .second, .val (.long vo2), .second, .val (.long vl2), .second, .val (.long vof), .second, .val (.long vln), .second, .val (.ref r0), .val (.ref r1), .val (.ref r2), .val (.ref r3), .val (.ref r3), .unset] []))
      refine Go.step (fun t k => XS.lload X29.here hx rfl (hb hby at_239) rfl k) ?_
      show Go _ _ _ _ _ _ _ (T29.setTop (mkF m 241 #[.val (.int nn), .val (.long qa), .second, .val (.long qb), .second, .val (.long qc), .second, .val (.long qo), .second, .val (.long ql), .second, .val (.int (3 : Int32)), .val (.long vo0), .second, .val (.long vl0), .second, .val (.long vo1), .second, .val (.long vl1), .second, .val (.long vo2), .second, .val (.long vl2), .second, .val (.long vof), .second, .val (.long vln), .second, .val (.ref r0), .val (.ref r1), .val (.ref r2), .val (.ref r3), .val (.ref r3), .unset] [(.long vo1)]))
      refine Go.step (fun t k => XS.lload X29.here hx rfl (hb hby at_241) rfl k) ?_
      show Go _ _ _ _ _ _ _ (T29.setTop (mkF m 243 #[.val (.int nn), .val (.long qa), .second, .val (.long qb), .second, .val (.long qc), .second, .val (.long qo), .second, .val (.long ql), .second, .val (.int (3 : Int32)), .val (.long vo0), .second, .val (.long vl0), .second, .val (.long vo1), .second, .val (.long vl1), .second, .val (.long vo2), .second, .val (.long vl2), .second, .val (.long vof), .second, .val (.long vln), .second, .val (.ref r0), .val (.ref r1), .val (.ref r2), .val (.ref r3), .val (.ref r3), .unset] [(.long vl1), (.long vo1)]))
      refine Go.step (fun t k => XS.lload X29.here hx rfl (hb hby at_243) rfl k) ?_
      show Go _ _ _ _ _ _ _ (T29.setTop (mkF m 245 #[.val (.int nn), .val (.long qa), .second, .val (.long qb), .second, .val (.long qc), .second, .val (.long qo), .second, .val (.long ql), .second, .val (.int (3 : Int32)), .val (.long vo0), .second, .val (.long vl0), .second, .val (.long vo1), .second, .val (.long vl1), .second, .val (.long vo2), .second, .val (.long vl2), .second, .val (.long vof), .second, .val (.long vln), .second, .val (.ref r0), .val (.ref r1), .val (.ref r2), .val (.ref r3), .val (.ref r3), .unset] [(.long vof), (.long vl1), (.long vo1)]))
      refine Go.step (fun t k => XS.lload X29.here hx rfl (hb hby at_245) rfl k) ?_
      show Go _ _ _ _ _ _ _ (T29.setTop (mkF m 247 #[.val (.int nn), .val (.long qa), .second, .val (.long qb), .second, .val (.long qc), .second, .val (.long qo), .second, .val (.long ql), .second, .val (.int (3 : Int32)), .val (.long vo0), .second, .val (.long vl0), .second, .val (.long vo1), .second, .val (.long vl1), .second, .val (.long vo2), .second, .val (.long vl2), .second, .val (.long vof), .second, .val (.long vln), .second, .val (.ref r0), .val (.ref r1), .val (.ref r2), .val (.ref r3), .val (.ref r3), .unset] [(.long vln), (.long vof), (.long vl1), (.long vo1)]))
      obtain ⟨_, _, ⟨T31, L31, k31, n31⟩, -, X31, ⟨Lc31, hQ31, l31, y31, z31⟩, st31⟩ := Jvm.LawKit.callS X29 hx (y := (⟨"com/example/rootkeep/rootkeep/file/FreeSpaceOverlapsPinLaw", "hits", "(JJJJ)Z"⟩ : MethodName)) hown (mvT hZ (hw _ (List.mem_of_getElem? (i := 8) rfl))) (mvT hZ (hw _ (List.mem_of_getElem? (i := 9) rfl))) (mvT hZ (hw _ (List.mem_of_getElem? (i := 10) rfl))) (mvT hZ (hw _ (List.mem_of_getElem? (i := 11) rfl))) (by decide) (backOf (W := 0) (rm2 l Z a0 hw [] vo1 vl1 vof vln h16 n0 Z16) hZ (hw _ (List.mem_of_getElem? (i := 11) rfl)) (hw _ (List.mem_of_getElem? (i := 10) rfl)) (by decide) (by decide)) (g := (mkF m 247 #[.val (.int nn), .val (.long qa), .second, .val (.long qb), .second, .val (.long qc), .second, .val (.long qo), .second, .val (.long ql), .second, .val (.int (3 : Int32)), .val (.long vo0), .second, .val (.long vl0), .second, .val (.long vo1), .second, .val (.long vl1), .second, .val (.long vo2), .second, .val (.long vl2), .second, .val (.long vof), .second, .val (.long vln), .second, .val (.ref r0), .val (.ref r1), .val (.ref r2), .val (.ref r3), .val (.ref r3), .unset] [(.long vln), (.long vof), (.long vl1), (.long vo1)])) rfl (by rw [hml]; rfl) (argsL := [(.long vo1), (.long vl1), (.long vof), (.long vln)]) (rest := []) (lenOf pd_0_1 rfl) rfl (by show 2 * 0 + _ ≤ _; exact Nat.le_of_eq rfl) (hb hby at_247) (fun _ _ => ⟨rfl, K29q, (by decide : 4 + 0 ≤ _), (by decide : 12 + 0 ≤ _)⟩)
      dsimp only [Pt.U, Pt.locs, Pt.cells, Pt.slots] at X31 l31 y31 z31 st31 hQ31
      subst l31 y31 z31
      obtain ⟨z_31, rfl, N31q, K31q, o31_hz⟩ := hQ31
      have N31 := Fr.app N29 N31q
      refine Go.step st31 ?_
      show Go _ _ _ _ _ _ _ (T31.setTop (mkF m 250 #[.val (.int nn), .val (.long qa), .second, .val (.long qb), .second, .val (.long qc), .second, .val (.long qo), .second, .val (.long ql), .second, .val (.int (3 : Int32)), .val (.long vo0), .second, .val (.long vl0), .second, .val (.long vo1), .second, .val (.long vl1), .second, .val (.long vo2), .second, .val (.long vl2), .second, .val (.long vof), .second, .val (.long vln), .second, .val (.ref r0), .val (.ref r1), .val (.ref r2), .val (.ref r3), .val (.ref r3), .unset] [(.int z_31)]))
      by_cases hc250_32 : z_31 = (0 : Int32)
      · refine Go.step (fun t k => XS.ifNo X31.here hx rfl (hb hby at_250) rfl ((if0 _ _).trans (teq hc250_32).2) k) ?_
        show Go _ _ _ _ _ _ _ (T31.setTop (mkF m 253 #[.val (.int nn), .val (.long qa), .second, .val (.long qb), .second, .val (.long qc), .second, .val (.long qo), .second, .val (.long ql), .second, .val (.int (3 : Int32)), .val (.long vo0), .second, .val (.long vl0), .second, .val (.long vo1), .second, .val (.long vl1), .second, .val (.long vo2), .second, .val (.long vl2), .second, .val (.long vof), .second, .val (.long vln), .second, .val (.ref r0), .val (.ref r1), .val (.ref r2), .val (.ref r3), .val (.ref r3), .unset] []))
        refine Go.step (fun t k => XS.iload X31.here hx rfl (hb hby at_253) rfl k) ?_
        show Go _ _ _ _ _ _ _ (T31.setTop (mkF m 255 #[.val (.int nn), .val (.long qa), .second, .val (.long qb), .second, .val (.long qc), .second, .val (.long qo), .second, .val (.long ql), .second, .val (.int (3 : Int32)), .val (.long vo0), .second, .val (.long vl0), .second, .val (.long vo1), .second, .val (.long vl1), .second, .val (.long vo2), .second, .val (.long vl2), .second, .val (.long vof), .second, .val (.long vln), .second, .val (.ref r0), .val (.ref r1), .val (.ref r2), .val (.ref r3), .val (.ref r3), .unset] [(.int (3 : Int32))]))
        refine Go.step (fun t k => XS.iconst X31.here hx rfl (hb hby at_255) k) ?_
        show Go _ _ _ _ _ _ _ (T31.setTop (mkF m 256 #[.val (.int nn), .val (.long qa), .second, .val (.long qb), .second, .val (.long qc), .second, .val (.long qo), .second, .val (.long ql), .second, .val (.int (3 : Int32)), .val (.long vo0), .second, .val (.long vl0), .second, .val (.long vo1), .second, .val (.long vl1), .second, .val (.long vo2), .second, .val (.long vl2), .second, .val (.long vof), .second, .val (.long vln), .second, .val (.ref r0), .val (.ref r1), .val (.ref r2), .val (.ref r3), .val (.ref r3), .unset] [(.int (3 : Int32)), (.int (3 : Int32))]))
        refine Go.step (fun t k => XS.icmpNo X31.here hx rfl (hb hby at_256) rfl (flt (by decide : ¬ (3 : Int32) < (3 : Int32))).1 k) ?_
        show Go _ _ _ _ _ _ _ (T31.setTop (mkF m 259 #[.val (.int nn), .val (.long qa), .second, .val (.long qb), .second, .val (.long qc), .second, .val (.long qo), .second, .val (.long ql), .second, .val (.int (3 : Int32)), .val (.long vo0), .second, .val (.long vl0), .second, .val (.long vo1), .second, .val (.long vl1), .second, .val (.long vo2), .second, .val (.long vl2), .second, .val (.long vof), .second, .val (.long vln), .second, .val (.ref r0), .val (.ref r1), .val (.ref r2), .val (.ref r3), .val (.ref r3), .unset] []))
        refine Go.step (fun t k => XS.lload X31.here hx rfl (hb hby at_259) rfl k) ?_
        show Go _ _ _ _ _ _ _ (T31.setTop (mkF m 261 #[.val (.int nn), .val (.long qa), .second, .val (.long qb), .second, .val (.long qc), .second, .val (.long qo), .second, .val (.long ql), .second, .val (.int (3 : Int32)), .val (.long vo0), .second, .val (.long vl0), .second, .val (.long vo1), .second, .val (.long vl1), .second, .val (.long vo2), .second, .val (.long vl2), .second, .val (.long vof), .second, .val (.long vln), .second, .val (.ref r0), .val (.ref r1), .val (.ref r2), .val (.ref r3), .val (.ref r3), .unset] [(.long vo2)]))
        refine Go.step (fun t k => XS.lload X31.here hx rfl (hb hby at_261) rfl k) ?_
        show Go _ _ _ _ _ _ _ (T31.setTop (mkF m 263 #[.val (.int nn), .val (.long qa), .second, .val (.long qb), .second, .val (.long qc), .second, .val (.long qo), .second, .val (.long ql), .second, .val (.int (3 : Int32)), .val (.long vo0), .second, .val (.long vl0), .second, .val (.long vo1), .second, .val (.long vl1), .second, .val (.long vo2), .second, .val (.long vl2), .second, .val (.long vof), .second, .val (.long vln), .second, .val (.ref r0), .val (.ref r1), .val (.ref r2), .val (.ref r3), .val (.ref r3), .unset] [(.long vl2), (.long vo2)]))
        refine Go.step (fun t k => XS.lload X31.here hx rfl (hb hby at_263) rfl k) ?_
        show Go _ _ _ _ _ _ _ (T31.setTop (mkF m 265 #[.val (.int nn), .val (.long qa), .second, .val (.long qb), .second, .val (.long qc), .second, .val (.long qo), .second, .val (.long ql), .second, .val (.int (3 : Int32)), .val (.long vo0), .second, .val (.long vl0), .second, .val (.long vo1), .second, .val (.long vl1), .second, .val (.long vo2), .second, .val (.long vl2), .second, .val (.long vof), .second, .val (.long vln), .second, .val (.ref r0), .val (.ref r1), .val (.ref r2), .val (.ref r3), .val (.ref r3), .unset] [(.long vof), (.long vl2), (.long vo2)]))
        refine Go.step (fun t k => XS.lload X31.here hx rfl (hb hby at_265) rfl k) ?_
        show Go _ _ _ _ _ _ _ (T31.setTop (mkF m 267 #[.val (.int nn), .val (.long qa), .second, .val (.long qb), .second, .val (.long qc), .second, .val (.long qo), .second, .val (.long ql), .second, .val (.int (3 : Int32)), .val (.long vo0), .second, .val (.long vl0), .second, .val (.long vo1), .second, .val (.long vl1), .second, .val (.long vo2), .second, .val (.long vl2), .second, .val (.long vof), .second, .val (.long vln), .second, .val (.ref r0), .val (.ref r1), .val (.ref r2), .val (.ref r3), .val (.ref r3), .unset] [(.long vln), (.long vof), (.long vl2), (.long vo2)]))
        obtain ⟨_, _, ⟨T33, L33, k33, n33⟩, -, X33, ⟨Lc33, hQ33, l33, y33, z33⟩, st33⟩ := Jvm.LawKit.callS X31 hx (y := (⟨"com/example/rootkeep/rootkeep/file/FreeSpaceOverlapsPinLaw", "hits", "(JJJJ)Z"⟩ : MethodName)) hown (mvT hZ (hw _ (List.mem_of_getElem? (i := 8) rfl))) (mvT hZ (hw _ (List.mem_of_getElem? (i := 9) rfl))) (mvT hZ (hw _ (List.mem_of_getElem? (i := 10) rfl))) (mvT hZ (hw _ (List.mem_of_getElem? (i := 11) rfl))) (by decide) (backOf (W := 0) (rm2 l Z a0 hw [] vo2 vl2 vof vln h16 n0 Z16) hZ (hw _ (List.mem_of_getElem? (i := 11) rfl)) (hw _ (List.mem_of_getElem? (i := 10) rfl)) (by decide) (by decide)) (g := (mkF m 267 #[.val (.int nn), .val (.long qa), .second, .val (.long qb), .second, .val (.long qc), .second, .val (.long qo), .second, .val (.long ql), .second, .val (.int (3 : Int32)), .val (.long vo0), .second, .val (.long vl0), .second, .val (.long vo1), .second, .val (.long vl1), .second, .val (.long vo2), .second, .val (.long vl2), .second, .val (.long vof), .second, .val (.long vln), .second, .val (.ref r0), .val (.ref r1), .val (.ref r2), .val (.ref r3), .val (.ref r3), .unset] [(.long vln), (.long vof), (.long vl2), (.long vo2)])) rfl (by rw [hml]; rfl) (argsL := [(.long vo2), (.long vl2), (.long vof), (.long vln)]) (rest := []) (lenOf pd_0_1 rfl) rfl (by show 2 * 0 + _ ≤ _; exact Nat.le_of_eq rfl) (hb hby at_267) (fun _ _ => ⟨rfl, K31q, (by decide : 4 + 0 ≤ _), (by decide : 12 + 0 ≤ _)⟩)
        dsimp only [Pt.U, Pt.locs, Pt.cells, Pt.slots] at X33 l33 y33 z33 st33 hQ33
        subst l33 y33 z33
        obtain ⟨z_33, rfl, N33q, K33q, o33_hz⟩ := hQ33
        have N33 := Fr.app N31 N33q
        refine Go.step st33 ?_
        show Go _ _ _ _ _ _ _ (T33.setTop (mkF m 270 #[.val (.int nn), .val (.long qa), .second, .val (.long qb), .second, .val (.long qc), .second, .val (.long qo), .second, .val (.long ql), .second, .val (.int (3 : Int32)), .val (.long vo0), .second, .val (.long vl0), .second, .val (.long vo1), .second, .val (.long vl1), .second, .val (.long vo2), .second, .val (.long vl2), .second, .val (.long vof), .second, .val (.long vln), .second, .val (.ref r0), .val (.ref r1), .val (.ref r2), .val (.ref r3), .val (.ref r3), .unset] [(.int z_33)]))
        by_cases hc270_34 : z_33 = (0 : Int32)
        · refine Go.step (fun t k => XS.ifYes X33.here hx rfl (pc0 := 270) (pc' := 277) rfl (hb hby at_270) rfl ((if0 _ _).trans (teq hc270_34).1) (by decide) (by decide) k) ?_
          show Go _ _ _ _ _ _ _ (T33.setTop (mkF m 277 #[.val (.int nn), .val (.long qa), .second, .val (.long qb), .second, .val (.long qc), .second, .val (.long qo), .second, .val (.long ql), .second, .val (.int (3 : Int32)), .val (.long vo0), .second, .val (.long vl0), .second, .val (.long vo1), .second, .val (.long vl1), .second, .val (.long vo2), .second, .val (.long vl2), .second, .val (.long vof), .second, .val (.long vln), .second, .val (.ref r0), .val (.ref r1), .val (.ref r2), .val (.ref r3), .val (.ref r3), .unset] []))
          refine Go.step (fun t k => XS.iconst X33.here hx rfl (hb hby at_277) k) ?_
          show Go _ _ _ _ _ _ _ (T33.setTop (mkF m 278 #[.val (.int nn), .val (.long qa), .second, .val (.long qb), .second, .val (.long qc), .second, .val (.long qo), .second, .val (.long ql), .second, .val (.int (3 : Int32)), .val (.long vo0), .second, .val (.long vl0), .second, .val (.long vo1), .second, .val (.long vl1), .second, .val (.long vo2), .second, .val (.long vl2), .second, .val (.long vof), .second, .val (.long vln), .second, .val (.ref r0), .val (.ref r1), .val (.ref r2), .val (.ref r3), .val (.ref r3), .unset] [(.int (0 : Int32))]))
          refine Go.step (fun t k => XS.istore X33.here hx rfl (hb hby at_278) rfl (l' := #[.val (.int nn), .val (.long qa), .second, .val (.long qb), .second, .val (.long qc), .second, .val (.long qo), .second, .val (.long ql), .second, .val (.int (3 : Int32)), .val (.long vo0), .second, .val (.long vl0), .second, .val (.long vo1), .second, .val (.long vl1), .second, .val (.long vo2), .second, .val (.long vl2), .second, .val (.long vof), .second, .val (.long vln), .second, .val (.ref r0), .val (.ref r1), .val (.ref r2), .val (.ref r3), .val (.ref r3), .val (.int (0 : Int32))]) rfl k) ?_
          show Go _ _ _ _ _ _ _ (T33.setTop (mkF m 280 #[.val (.int nn), .val (.long qa), .second, .val (.long qb), .second, .val (.long qc), .second, .val (.long qo), .second, .val (.long ql), .second, .val (.int (3 : Int32)), .val (.long vo0), .second, .val (.long vl0), .second, .val (.long vo1), .second, .val (.long vl1), .second, .val (.long vo2), .second, .val (.long vl2), .second, .val (.long vof), .second, .val (.long vln), .second, .val (.ref r0), .val (.ref r1), .val (.ref r2), .val (.ref r3), .val (.ref r3), .val (.int (0 : Int32))] []))
          refine Go.step (fun t k => XS.aload X33.here hx rfl (hb hby at_280) rfl rfl k) ?_
          show Go _ _ _ _ _ _ _ (T33.setTop (mkF m 282 #[.val (.int nn), .val (.long qa), .second, .val (.long qb), .second, .val (.long qc), .second, .val (.long qo), .second, .val (.long ql), .second, .val (.int (3 : Int32)), .val (.long vo0), .second, .val (.long vl0), .second, .val (.long vo1), .second, .val (.long vl1), .second, .val (.long vo2), .second, .val (.long vl2), .second, .val (.long vof), .second, .val (.long vln), .second, .val (.ref r0), .val (.ref r1), .val (.ref r2), .val (.ref r3), .val (.ref r3), .val (.int (0 : Int32))] [(.ref r3)]))
          refine Go.step (fun t k => XS.lload X33.here hx rfl (hb hby at_282) rfl k) ?_
          show Go _ _ _ _ _ _ _ (T33.setTop (mkF m 284 #[.val (.int nn), .val (.long qa), .second, .val (.long qb), .second, .val (.long qc), .second, .val (.long qo), .second, .val (.long ql), .second, .val (.int (3 : Int32)), .val (.long vo0), .second, .val (.long vl0), .second, .val (.long vo1), .second, .val (.long vl1), .second, .val (.long vo2), .second, .val (.long vl2), .second, .val (.long vof), .second, .val (.long vln), .second, .val (.ref r0), .val (.ref r1), .val (.ref r2), .val (.ref r3), .val (.ref r3), .val (.int (0 : Int32))] [(.long vof), (.ref r3)]))
          refine Go.step (fun t k => XS.lload X33.here hx rfl (hb hby at_284) rfl k) ?_
          show Go _ _ _ _ _ _ _ (T33.setTop (mkF m 286 #[.val (.int nn), .val (.long qa), .second, .val (.long qb), .second, .val (.long qc), .second, .val (.long qo), .second, .val (.long ql), .second, .val (.int (3 : Int32)), .val (.long vo0), .second, .val (.long vl0), .second, .val (.long vo1), .second, .val (.long vl1), .second, .val (.long vo2), .second, .val (.long vl2), .second, .val (.long vof), .second, .val (.long vln), .second, .val (.ref r0), .val (.ref r1), .val (.ref r2), .val (.ref r3), .val (.ref r3), .val (.int (0 : Int32))] [(.long vln), (.long vof), (.ref r3)]))
          obtain ⟨_, _, ⟨T35, L35, k35, n35⟩, -, X35, ⟨Lc35, hQ35, l35, y35, z35⟩, st35⟩ := Jvm.LawKit.callS X33 hx (y := (⟨"com/example/rootkeep/rootkeep/file/FreeSpace", "overlaps", "([JJJ)Z"⟩ : MethodName)) hown (mvT hZ (hw _ (List.mem_of_getElem? (i := 4) rfl))) (mvT hZ (hw _ (List.mem_of_getElem? (i := 5) rfl))) (mvT hZ (hw _ (List.mem_of_getElem? (i := 6) rfl))) (mvT hZ (hw _ (List.mem_of_getElem? (i := 7) rfl))) (by decide) (backOf (W := 0) (rm1_3 l Z a0 hw [] r3 vof vln vo0 vl0 vo1 vl1 vo2 vl2 h16 n0 Z16 A_r3 hord) hZ (hw _ (List.mem_of_getElem? (i := 7) rfl)) (hw _ (List.mem_of_getElem? (i := 6) rfl)) (by decide) (by decide)) (g := (mkF m 286 #[.val (.int nn), .val (.long qa), .second, .val (.long qb), .second, .val (.long qc), .second, .val (.long qo), .second, .val (.long ql), .second, .val (.int (3 : Int32)), .val (.long vo0), .second, .val (.long vl0), .second, .val (.long vo1), .second, .val (.long vl1), .second, .val (.long vo2), .second, .val (.long vl2), .second, .val (.long vof), .second, .val (.long vln), .second, .val (.ref r0), .val (.ref r1), .val (.ref r2), .val (.ref r3), .val (.ref r3), .val (.int (0 : Int32))] [(.long vln), (.long vof), (.ref r3)])) rfl (by rw [hml]; rfl) (argsL := [(.ref r3), (.long vof), (.long vln)]) (rest := []) (lenOf pd_0_0 rfl) rfl (by show 2 * 0 + _ ≤ _; exact Nat.le_of_eq rfl) (hb hby at_286) (fun _ _ => ⟨rfl, K33q, (by decide : 4 + 0 ≤ _), (by decide : 12 + 0 ≤ _)⟩)
          dsimp only [Pt.U, Pt.locs, Pt.cells, Pt.slots] at X35 l35 y35 z35 st35 hQ35
          subst l35 y35 z35
          obtain ⟨z_35, rfl, N35q, K35q, o35_hz⟩ := hQ35
          have N35 := Fr.app N33 N35q
          refine Go.step st35 ?_
          show Go _ _ _ _ _ _ _ (T35.setTop (mkF m 289 #[.val (.int nn), .val (.long qa), .second, .val (.long qb), .second, .val (.long qc), .second, .val (.long qo), .second, .val (.long ql), .second, .val (.int (3 : Int32)), .val (.long vo0), .second, .val (.long vl0), .second, .val (.long vo1), .second, .val (.long vl1), .second, .val (.long vo2), .second, .val (.long vl2), .second, .val (.long vof), .second, .val (.long vln), .second, .val (.ref r0), .val (.ref r1), .val (.ref r2), .val (.ref r3), .val (.ref r3), .val (.int (0 : Int32))] [(.int z_35)]))
          refine Go.step (fun t k => XS.iload X35.here hx rfl (hb hby at_289) rfl k) ?_
          show Go _ _ _ _ _ _ _ (T35.setTop (mkF m 291 #[.val (.int nn), .val (.long qa), .second, .val (.long qb), .second, .val (.long qc), .second, .val (.long qo), .second, .val (.long ql), .second, .val (.int (3 : Int32)), .val (.long vo0), .second, .val (.long vl0), .second, .val (.long vo1), .second, .val (.long vl1), .second, .val (.long vo2), .second, .val (.long vl2), .second, .val (.long vof), .second, .val (.long vln), .second, .val (.ref r0), .val (.ref r1), .val (.ref r2), .val (.ref r3), .val (.ref r3), .val (.int (0 : Int32))] [(.int (0 : Int32)), (.int z_35)]))
          refine Go.step (fun t k => XS.icmpNo X35.here hx rfl (hb hby at_291) rfl (teq (own_zero o35_hz (fun r => r.elim (own_not o29_hz hc230_30) (fun r => r.elim (own_not o31_hz hc250_32) (own_not o33_hz hc270_34))) : z_35 = (0 : Int32))).2 k) ?_
          show Go _ _ _ _ _ _ _ (T35.setTop (mkF m 294 #[.val (.int nn), .val (.long qa), .second, .val (.long qb), .second, .val (.long qc), .second, .val (.long qo), .second, .val (.long ql), .second, .val (.int (3 : Int32)), .val (.long vo0), .second, .val (.long vl0), .second, .val (.long vo1), .second, .val (.long vl1), .second, .val (.long vo2), .second, .val (.long vl2), .second, .val (.long vof), .second, .val (.long vln), .second, .val (.ref r0), .val (.ref r1), .val (.ref r2), .val (.ref r3), .val (.ref r3), .val (.int (0 : Int32))] []))
          refine Go.step (fun t k => XS.iconst X35.here hx rfl (hb hby at_294) k) ?_
          show Go _ _ _ _ _ _ _ (T35.setTop (mkF m 295 #[.val (.int nn), .val (.long qa), .second, .val (.long qb), .second, .val (.long qc), .second, .val (.long qo), .second, .val (.long ql), .second, .val (.int (3 : Int32)), .val (.long vo0), .second, .val (.long vl0), .second, .val (.long vo1), .second, .val (.long vl1), .second, .val (.long vo2), .second, .val (.long vl2), .second, .val (.long vof), .second, .val (.long vln), .second, .val (.ref r0), .val (.ref r1), .val (.ref r2), .val (.ref r3), .val (.ref r3), .val (.int (0 : Int32))] [(.int (1 : Int32))]))
          refine Go.step (fun t k => XS.goto X35.here hx rfl (pc0 := 295) (pc' := 299) rfl (hb hby at_295) (by decide) (by decide) k) ?_
          show Go _ _ _ _ _ _ _ (T35.setTop (mkF m 299 #[.val (.int nn), .val (.long qa), .second, .val (.long qb), .second, .val (.long qc), .second, .val (.long qo), .second, .val (.long ql), .second, .val (.int (3 : Int32)), .val (.long vo0), .second, .val (.long vl0), .second, .val (.long vo1), .second, .val (.long vl1), .second, .val (.long vo2), .second, .val (.long vl2), .second, .val (.long vof), .second, .val (.long vln), .second, .val (.ref r0), .val (.ref r1), .val (.ref r2), .val (.ref r3), .val (.ref r3), .val (.int (0 : Int32))] [(.int (1 : Int32))]))
          refine Go.retN X35 Bd.notSynchronized hx (t := .boolean) Bd.returns (by simp) (hb hby at_299) (by decide) (by decide) (1 : Int32) rfl ?_
          rw [K35q]
          exact ⟨rfl, N35⟩
        · refine Go.step (fun t k => XS.ifNo X33.here hx rfl (hb hby at_270) rfl ((if0 _ _).trans (feq hc270_34).1) k) ?_
          show Go _ _ _ _ _ _ _ (T33.setTop (mkF m 273 #[.val (.int nn), .val (.long qa), .second, .val (.long qb), .second, .val (.long qc), .second, .val (.long qo), .second, .val (.long ql), .second, .val (.int (3 : Int32)), .val (.long vo0), .second, .val (.long vl0), .second, .val (.long vo1), .second, .val (.long vl1), .second, .val (.long vo2), .second, .val (.long vl2), .second, .val (.long vof), .second, .val (.long vln), .second, .val (.ref r0), .val (.ref r1), .val (.ref r2), .val (.ref r3), .val (.ref r3), .unset] []))
          refine Go.step (fun t k => XS.iconst X33.here hx rfl (hb hby at_273) k) ?_
          show Go _ _ _ _ _ _ _ (T33.setTop (mkF m 274 #[.val (.int nn), .val (.long qa), .second, .val (.long qb), .second, .val (.long qc), .second, .val (.long qo), .second, .val (.long ql), .second, .val (.int (3 : Int32)), .val (.long vo0), .second, .val (.long vl0), .second, .val (.long vo1), .second, .val (.long vl1), .second, .val (.long vo2), .second, .val (.long vl2), .second, .val (.long vof), .second, .val (.long vln), .second, .val (.ref r0), .val (.ref r1), .val (.ref r2), .val (.ref r3), .val (.ref r3), .unset] [(.int (1 : Int32))]))
          refine Go.step (fun t k => XS.goto X33.here hx rfl (pc0 := 274) (pc' := 278) rfl (hb hby at_274) (by decide) (by decide) k) ?_
          show Go _ _ _ _ _ _ _ (T33.setTop (mkF m 278 #[.val (.int nn), .val (.long qa), .second, .val (.long qb), .second, .val (.long qc), .second, .val (.long qo), .second, .val (.long ql), .second, .val (.int (3 : Int32)), .val (.long vo0), .second, .val (.long vl0), .second, .val (.long vo1), .second, .val (.long vl1), .second, .val (.long vo2), .second, .val (.long vl2), .second, .val (.long vof), .second, .val (.long vln), .second, .val (.ref r0), .val (.ref r1), .val (.ref r2), .val (.ref r3), .val (.ref r3), .unset] [(.int (1 : Int32))]))
          refine Go.step (fun t k => XS.istore X33.here hx rfl (hb hby at_278) rfl (l' := #[.val (.int nn), .val (.long qa), .second, .val (.long qb), .second, .val (.long qc), .second, .val (.long qo), .second, .val (.long ql), .second, .val (.int (3 : Int32)), .val (.long vo0), .second, .val (.long vl0), .second, .val (.long vo1), .second, .val (.long vl1), .second, .val (.long vo2), .second, .val (.long vl2), .second, .val (.long vof), .second, .val (.long vln), .second, .val (.ref r0), .val (.ref r1), .val (.ref r2), .val (.ref r3), .val (.ref r3), .val (.int (1 : Int32))]) rfl k) ?_
          show Go _ _ _ _ _ _ _ (T33.setTop (mkF m 280 #[.val (.int nn), .val (.long qa), .second, .val (.long qb), .second, .val (.long qc), .second, .val (.long qo), .second, .val (.long ql), .second, .val (.int (3 : Int32)), .val (.long vo0), .second, .val (.long vl0), .second, .val (.long vo1), .second, .val (.long vl1), .second, .val (.long vo2), .second, .val (.long vl2), .second, .val (.long vof), .second, .val (.long vln), .second, .val (.ref r0), .val (.ref r1), .val (.ref r2), .val (.ref r3), .val (.ref r3), .val (.int (1 : Int32))] []))
          refine Go.step (fun t k => XS.aload X33.here hx rfl (hb hby at_280) rfl rfl k) ?_
          show Go _ _ _ _ _ _ _ (T33.setTop (mkF m 282 #[.val (.int nn), .val (.long qa), .second, .val (.long qb), .second, .val (.long qc), .second, .val (.long qo), .second, .val (.long ql), .second, .val (.int (3 : Int32)), .val (.long vo0), .second, .val (.long vl0), .second, .val (.long vo1), .second, .val (.long vl1), .second, .val (.long vo2), .second, .val (.long vl2), .second, .val (.long vof), .second, .val (.long vln), .second, .val (.ref r0), .val (.ref r1), .val (.ref r2), .val (.ref r3), .val (.ref r3), .val (.int (1 : Int32))] [(.ref r3)]))
          refine Go.step (fun t k => XS.lload X33.here hx rfl (hb hby at_282) rfl k) ?_
          show Go _ _ _ _ _ _ _ (T33.setTop (mkF m 284 #[.val (.int nn), .val (.long qa), .second, .val (.long qb), .second, .val (.long qc), .second, .val (.long qo), .second, .val (.long ql), .second, .val (.int (3 : Int32)), .val (.long vo0), .second, .val (.long vl0), .second, .val (.long vo1), .second, .val (.long vl1), .second, .val (.long vo2), .second, .val (.long vl2), .second, .val (.long vof), .second, .val (.long vln), .second, .val (.ref r0), .val (.ref r1), .val (.ref r2), .val (.ref r3), .val (.ref r3), .val (.int (1 : Int32))] [(.long vof), (.ref r3)]))
          refine Go.step (fun t k => XS.lload X33.here hx rfl (hb hby at_284) rfl k) ?_
          show Go _ _ _ _ _ _ _ (T33.setTop (mkF m 286 #[.val (.int nn), .val (.long qa), .second, .val (.long qb), .second, .val (.long qc), .second, .val (.long qo), .second, .val (.long ql), .second, .val (.int (3 : Int32)), .val (.long vo0), .second, .val (.long vl0), .second, .val (.long vo1), .second, .val (.long vl1), .second, .val (.long vo2), .second, .val (.long vl2), .second, .val (.long vof), .second, .val (.long vln), .second, .val (.ref r0), .val (.ref r1), .val (.ref r2), .val (.ref r3), .val (.ref r3), .val (.int (1 : Int32))] [(.long vln), (.long vof), (.ref r3)]))
          obtain ⟨_, _, ⟨T36, L36, k36, n36⟩, -, X36, ⟨Lc36, hQ36, l36, y36, z36⟩, st36⟩ := Jvm.LawKit.callS X33 hx (y := (⟨"com/example/rootkeep/rootkeep/file/FreeSpace", "overlaps", "([JJJ)Z"⟩ : MethodName)) hown (mvT hZ (hw _ (List.mem_of_getElem? (i := 4) rfl))) (mvT hZ (hw _ (List.mem_of_getElem? (i := 5) rfl))) (mvT hZ (hw _ (List.mem_of_getElem? (i := 6) rfl))) (mvT hZ (hw _ (List.mem_of_getElem? (i := 7) rfl))) (by decide) (backOf (W := 0) (rm1_3 l Z a0 hw [] r3 vof vln vo0 vl0 vo1 vl1 vo2 vl2 h16 n0 Z16 A_r3 hord) hZ (hw _ (List.mem_of_getElem? (i := 7) rfl)) (hw _ (List.mem_of_getElem? (i := 6) rfl)) (by decide) (by decide)) (g := (mkF m 286 #[.val (.int nn), .val (.long qa), .second, .val (.long qb), .second, .val (.long qc), .second, .val (.long qo), .second, .val (.long ql), .second, .val (.int (3 : Int32)), .val (.long vo0), .second, .val (.long vl0), .second, .val (.long vo1), .second, .val (.long vl1), .second, .val (.long vo2), .second, .val (.long vl2), .second, .val (.long vof), .second, .val (.long vln), .second, .val (.ref r0), .val (.ref r1), .val (.ref r2), .val (.ref r3), .val (.ref r3), .val (.int (1 : Int32))] [(.long vln), (.long vof), (.ref r3)])) rfl (by rw [hml]; rfl) (argsL := [(.ref r3), (.long vof), (.long vln)]) (rest := []) (lenOf pd_0_0 rfl) rfl (by show 2 * 0 + _ ≤ _; exact Nat.le_of_eq rfl) (hb hby at_286) (fun _ _ => ⟨rfl, K33q, (by decide : 4 + 0 ≤ _), (by decide : 12 + 0 ≤ _)⟩)
          dsimp only [Pt.U, Pt.locs, Pt.cells, Pt.slots] at X36 l36 y36 z36 st36 hQ36
          subst l36 y36 z36
          obtain ⟨z_36, rfl, N36q, K36q, o36_hz⟩ := hQ36
          have N36 := Fr.app N33 N36q
          refine Go.step st36 ?_
          show Go _ _ _ _ _ _ _ (T36.setTop (mkF m 289 #[.val (.int nn), .val (.long qa), .second, .val (.long qb), .second, .val (.long qc), .second, .val (.long qo), .second, .val (.long ql), .second, .val (.int (3 : Int32)), .val (.long vo0), .second, .val (.long vl0), .second, .val (.long vo1), .second, .val (.long vl1), .second, .val (.long vo2), .second, .val (.long vl2), .second, .val (.long vof), .second, .val (.long vln), .second, .val (.ref r0), .val (.ref r1), .val (.ref r2), .val (.ref r3), .val (.ref r3), .val (.int (1 : Int32))] [(.int z_36)]))
          refine Go.step (fun t k => XS.iload X36.here hx rfl (hb hby at_289) rfl k) ?_
          show Go _ _ _ _ _ _ _ (T36.setTop (mkF m 291 #[.val (.int nn), .val (.long qa), .second, .val (.long qb), .second, .val (.long qc), .second, .val (.long qo), .second, .val (.long ql), .second, .val (.int (3 : Int32)), .val (.long vo0), .second, .val (.long vl0), .second, .val (.long vo1), .second, .val (.long vl1), .second, .val (.long vo2), .second, .val (.long vl2), .second, .val (.long vof), .second, .val (.long vln), .second, .val (.ref r0), .val (.ref r1), .val (.ref r2), .val (.ref r3), .val (.ref r3), .val (.int (1 : Int32))] [(.int (1 : Int32)), (.int z_36)]))
          refine Go.step (fun t k => XS.icmpNo X36.here hx rfl (hb hby at_291) rfl (teq (own_one o36_hz (Or.inr (Or.inr (own_pos o33_hz hc270_34))) : z_36 = (1 : Int32))).2 k) ?_
          show Go _ _ _ _ _ _ _ (T36.setTop (mkF m 294 #[.val (.int nn), .val (.long qa), .second, .val (.long qb), .second, .val (.long qc), .second, .val (.long qo), .second, .val (.long ql), .second, .val (.int (3 : Int32)), .val (.long vo0), .second, .val (.long vl0), .second, .val (.long vo1), .second, .val (.long vl1), .second, .val (.long vo2), .second, .val (.long vl2), .second, .val (.long vof), .second, .val (.long vln), .second, .val (.ref r0), .val (.ref r1), .val (.ref r2), .val (.ref r3), .val (.ref r3), .val (.int (1 : Int32))] []))
          refine Go.step (fun t k => XS.iconst X36.here hx rfl (hb hby at_294) k) ?_
          show Go _ _ _ _ _ _ _ (T36.setTop (mkF m 295 #[.val (.int nn), .val (.long qa), .second, .val (.long qb), .second, .val (.long qc), .second, .val (.long qo), .second, .val (.long ql), .second, .val (.int (3 : Int32)), .val (.long vo0), .second, .val (.long vl0), .second, .val (.long vo1), .second, .val (.long vl1), .second, .val (.long vo2), .second, .val (.long vl2), .second, .val (.long vof), .second, .val (.long vln), .second, .val (.ref r0), .val (.ref r1), .val (.ref r2), .val (.ref r3), .val (.ref r3), .val (.int (1 : Int32))] [(.int (1 : Int32))]))
          refine Go.step (fun t k => XS.goto X36.here hx rfl (pc0 := 295) (pc' := 299) rfl (hb hby at_295) (by decide) (by decide) k) ?_
          show Go _ _ _ _ _ _ _ (T36.setTop (mkF m 299 #[.val (.int nn), .val (.long qa), .second, .val (.long qb), .second, .val (.long qc), .second, .val (.long qo), .second, .val (.long ql), .second, .val (.int (3 : Int32)), .val (.long vo0), .second, .val (.long vl0), .second, .val (.long vo1), .second, .val (.long vl1), .second, .val (.long vo2), .second, .val (.long vl2), .second, .val (.long vof), .second, .val (.long vln), .second, .val (.ref r0), .val (.ref r1), .val (.ref r2), .val (.ref r3), .val (.ref r3), .val (.int (1 : Int32))] [(.int (1 : Int32))]))
          refine Go.retN X36 Bd.notSynchronized hx (t := .boolean) Bd.returns (by simp) (hb hby at_299) (by decide) (by decide) (1 : Int32) rfl ?_
          rw [K36q]
          exact ⟨rfl, N36⟩
      · refine Go.step (fun t k => XS.ifYes X31.here hx rfl (pc0 := 250) (pc' := 273) rfl (hb hby at_250) rfl ((if0 _ _).trans (feq hc250_32).2) (by decide) (by decide) k) ?_
        show Go _ _ _ _ _ _ _ (T31.setTop (mkF m 273 #[.val (.int nn), .val (.long qa), .second, .val (.long qb), .second, .val (.long qc), .second, .val (.long qo), .second, .val (.long ql), .second, .val (.int (3 : Int32)), .val (.long vo0), .second, .val (.long vl0), .second, .val (.long vo1), .second, .val (.long vl1), .second, .val (.long vo2), .second, .val (.long vl2), .second, .val (.long vof), .second, .val (.long vln), .second, .val (.ref r0), .val (.ref r1), .val (.ref r2), .val (.ref r3), .val (.ref r3), .unset] []))
        refine Go.step (fun t k => XS.iconst X31.here hx rfl (hb hby at_273) k) ?_
        show Go _ _ _ _ _ _ _ (T31.setTop (mkF m 274 #[.val (.int nn), .val (.long qa), .second, .val (.long qb), .second, .val (.long qc), .second, .val (.long qo), .second, .val (.long ql), .second, .val (.int (3 : Int32)), .val (.long vo0), .second, .val (.long vl0), .second, .val (.long vo1), .second, .val (.long vl1), .second, .val (.long vo2), .second, .val (.long vl2), .second, .val (.long vof), .second, .val (.long vln), .second, .val (.ref r0), .val (.ref r1), .val (.ref r2), .val (.ref r3), .val (.ref r3), .unset] [(.int (1 : Int32))]))
        refine Go.step (fun t k => XS.goto X31.here hx rfl (pc0 := 274) (pc' := 278) rfl (hb hby at_274) (by decide) (by decide) k) ?_
        show Go _ _ _ _ _ _ _ (T31.setTop (mkF m 278 #[.val (.int nn), .val (.long qa), .second, .val (.long qb), .second, .val (.long qc), .second, .val (.long qo), .second, .val (.long ql), .second, .val (.int (3 : Int32)), .val (.long vo0), .second, .val (.long vl0), .second, .val (.long vo1), .second, .val (.long vl1), .second, .val (.long vo2), .second, .val (.long vl2), .second, .val (.long vof), .second, .val (.long vln), .second, .val (.ref r0), .val (.ref r1), .val (.ref r2), .val (.ref r3), .val (.ref r3), .unset] [(.int (1 : Int32))]))
        refine Go.step (fun t k => XS.istore X31.here hx rfl (hb hby at_278) rfl (l' := #[.val (.int nn), .val (.long qa), .second, .val (.long qb), .second, .val (.long qc), .second, .val (.long qo), .second, .val (.long ql), .second, .val (.int (3 : Int32)), .val (.long vo0), .second, .val (.long vl0), .second, .val (.long vo1), .second, .val (.long vl1), .second, .val (.long vo2), .second, .val (.long vl2), .second, .val (.long vof), .second, .val (.long vln), .second, .val (.ref r0), .val (.ref r1), .val (.ref r2), .val (.ref r3), .val (.ref r3), .val (.int (1 : Int32))]) rfl k) ?_
        show Go _ _ _ _ _ _ _ (T31.setTop (mkF m 280 #[.val (.int nn), .val (.long qa), .second, .val (.long qb), .second, .val (.long qc), .second, .val (.long qo), .second, .val (.long ql), .second, .val (.int (3 : Int32)), .val (.long vo0), .second, .val (.long vl0), .second, .val (.long vo1), .second, .val (.long vl1), .second, .val (.long vo2), .second, .val (.long vl2), .second, .val (.long vof), .second, .val (.long vln), .second, .val (.ref r0), .val (.ref r1), .val (.ref r2), .val (.ref r3), .val (.ref r3), .val (.int (1 : Int32))] []))
        refine Go.step (fun t k => XS.aload X31.here hx rfl (hb hby at_280) rfl rfl k) ?_
        show Go _ _ _ _ _ _ _ (T31.setTop (mkF m 282 #[.val (.int nn), .val (.long qa), .second, .val (.long qb), .second, .val (.long qc), .second, .val (.long qo), .second, .val (.long ql), .second, .val (.int (3 : Int32)), .val (.long vo0), .second, .val (.long vl0), .second, .val (.long vo1), .second, .val (.long vl1), .second, .val (.long vo2), .second, .val (.long vl2), .second, .val (.long vof), .second, .val (.long vln), .second, .val (.ref r0), .val (.ref r1), .val (.ref r2), .val (.ref r3), .val (.ref r3), .val (.int (1 : Int32))] [(.ref r3)]))
        refine Go.step (fun t k => XS.lload X31.here hx rfl (hb hby at_282) rfl k) ?_
        show Go _ _ _ _ _ _ _ (T31.setTop (mkF m 284 #[.val (.int nn), .val (.long qa), .second, .val (.long qb), .second, .val (.long qc), .second, .val (.long qo), .second, .val (.long ql), .second, .val (.int (3 : Int32)), .val (.long vo0), .second, .val (.long vl0), .second, .val (.long vo1), .second, .val (.long vl1), .second, .val (.long vo2), .second, .val (.long vl2), .second, .val (.long vof), .second, .val (.long vln), .second, .val (.ref r0), .val (.ref r1), .val (.ref r2), .val (.ref r3), .val (.ref r3), .val (.int (1 : Int32))] [(.long vof), (.ref r3)]))
        refine Go.step (fun t k => XS.lload X31.here hx rfl (hb hby at_284) rfl k) ?_
        show Go _ _ _ _ _ _ _ (T31.setTop (mkF m 286 #[.val (.int nn), .val (.long qa), .second, .val (.long qb), .second, .val (.long qc), .second, .val (.long qo), .second, .val (.long ql), .second, .val (.int (3 : Int32)), .val (.long vo0), .second, .val (.long vl0), .second, .val (.long vo1), .second, .val (.long vl1), .second, .val (.long vo2), .second, .val (.long vl2), .second, .val (.long vof), .second, .val (.long vln), .second, .val (.ref r0), .val (.ref r1), .val (.ref r2), .val (.ref r3), .val (.ref r3), .val (.int (1 : Int32))] [(.long vln), (.long vof), (.ref r3)]))
        obtain ⟨_, _, ⟨T37, L37, k37, n37⟩, -, X37, ⟨Lc37, hQ37, l37, y37, z37⟩, st37⟩ := Jvm.LawKit.callS X31 hx (y := (⟨"com/example/rootkeep/rootkeep/file/FreeSpace", "overlaps", "([JJJ)Z"⟩ : MethodName)) hown (mvT hZ (hw _ (List.mem_of_getElem? (i := 4) rfl))) (mvT hZ (hw _ (List.mem_of_getElem? (i := 5) rfl))) (mvT hZ (hw _ (List.mem_of_getElem? (i := 6) rfl))) (mvT hZ (hw _ (List.mem_of_getElem? (i := 7) rfl))) (by decide) (backOf (W := 0) (rm1_3 l Z a0 hw [] r3 vof vln vo0 vl0 vo1 vl1 vo2 vl2 h16 n0 Z16 A_r3 hord) hZ (hw _ (List.mem_of_getElem? (i := 7) rfl)) (hw _ (List.mem_of_getElem? (i := 6) rfl)) (by decide) (by decide)) (g := (mkF m 286 #[.val (.int nn), .val (.long qa), .second, .val (.long qb), .second, .val (.long qc), .second, .val (.long qo), .second, .val (.long ql), .second, .val (.int (3 : Int32)), .val (.long vo0), .second, .val (.long vl0), .second, .val (.long vo1), .second, .val (.long vl1), .second, .val (.long vo2), .second, .val (.long vl2), .second, .val (.long vof), .second, .val (.long vln), .second, .val (.ref r0), .val (.ref r1), .val (.ref r2), .val (.ref r3), .val (.ref r3), .val (.int (1 : Int32))] [(.long vln), (.long vof), (.ref r3)])) rfl (by rw [hml]; rfl) (argsL := [(.ref r3), (.long vof), (.long vln)]) (rest := []) (lenOf pd_0_0 rfl) rfl (by show 2 * 0 + _ ≤ _; exact Nat.le_of_eq rfl) (hb hby at_286) (fun _ _ => ⟨rfl, K31q, (by decide : 4 + 0 ≤ _), (by decide : 12 + 0 ≤ _)⟩)
        dsimp only [Pt.U, Pt.locs, Pt.cells, Pt.slots] at X37 l37 y37 z37 st37 hQ37
        subst l37 y37 z37
        obtain ⟨z_37, rfl, N37q, K37q, o37_hz⟩ := hQ37
        have N37 := Fr.app N31 N37q
        refine Go.step st37 ?_
        show Go _ _ _ _ _ _ _ (T37.setTop (mkF m 289 #[.val (.int nn), .val (.long qa), .second, .val (.long qb), .second, .val (.long qc), .second, .val (.long qo), .second, .val (.long ql), .second, .val (.int (3 : Int32)), .val (.long vo0), .second, .val (.long vl0), .second, .val (.long vo1), .second, .val (.long vl1), .second, .val (.long vo2), .second, .val (.long vl2), .second, .val (.long vof), .second, .val (.long vln), .second, .val (.ref r0), .val (.ref r1), .val (.ref r2), .val (.ref r3), .val (.ref r3), .val (.int (1 : Int32))] [(.int z_37)]))
        refine Go.step (fun t k => XS.iload X37.here hx rfl (hb hby at_289) rfl k) ?_
        show Go _ _ _ _ _ _ _ (T37.setTop (mkF m 291 #[.val (.int nn), .val (.long qa), .second, .val (.long qb), .second, .val (.long qc), .second, .val (.long qo), .second, .val (.long ql), .second, .val (.int (3 : Int32)), .val (.long vo0), .second, .val (.long vl0), .second, .val (.long vo1), .second, .val (.long vl1), .second, .val (.long vo2), .second, .val (.long vl2), .second, .val (.long vof), .second, .val (.long vln), .second, .val (.ref r0), .val (.ref r1), .val (.ref r2), .val (.ref r3), .val (.ref r3), .val (.int (1 : Int32))] [(.int (1 : Int32)), (.int z_37)]))
        refine Go.step (fun t k => XS.icmpNo X37.here hx rfl (hb hby at_291) rfl (teq (own_one o37_hz (Or.inr (Or.inl (own_pos o31_hz hc250_32))) : z_37 = (1 : Int32))).2 k) ?_
        show Go _ _ _ _ _ _ _ (T37.setTop (mkF m 294 #[.val (.int nn), .val (.long qa), .second, .val (.long qb), .second, .val (.long qc), .second, .val (.long qo), .second, .val (.long ql), .second, .val (.int (3 : Int32)), .val (.long vo0), .second, .val (.long vl0), .second, .val (.long vo1), .second, .val (.long vl1), .second, .val (.long vo2), .second, .val (.long vl2), .second, .val (.long vof), .second, .val (.long vln), .second, .val (.ref r0), .val (.ref r1), .val (.ref r2), .val (.ref r3), .val (.ref r3), .val (.int (1 : Int32))] []))
        refine Go.step (fun t k => XS.iconst X37.here hx rfl (hb hby at_294) k) ?_
        show Go _ _ _ _ _ _ _ (T37.setTop (mkF m 295 #[.val (.int nn), .val (.long qa), .second, .val (.long qb), .second, .val (.long qc), .second, .val (.long qo), .second, .val (.long ql), .second, .val (.int (3 : Int32)), .val (.long vo0), .second, .val (.long vl0), .second, .val (.long vo1), .second, .val (.long vl1), .second, .val (.long vo2), .second, .val (.long vl2), .second, .val (.long vof), .second, .val (.long vln), .second, .val (.ref r0), .val (.ref r1), .val (.ref r2), .val (.ref r3), .val (.ref r3), .val (.int (1 : Int32))] [(.int (1 : Int32))]))
        refine Go.step (fun t k => XS.goto X37.here hx rfl (pc0 := 295) (pc' := 299) rfl (hb hby at_295) (by decide) (by decide) k) ?_
        show Go _ _ _ _ _ _ _ (T37.setTop (mkF m 299 #[.val (.int nn), .val (.long qa), .second, .val (.long qb), .second, .val (.long qc), .second, .val (.long qo), .second, .val (.long ql), .second, .val (.int (3 : Int32)), .val (.long vo0), .second, .val (.long vl0), .second, .val (.long vo1), .second, .val (.long vl1), .second, .val (.long vo2), .second, .val (.long vl2), .second, .val (.long vof), .second, .val (.long vln), .second, .val (.ref r0), .val (.ref r1), .val (.ref r2), .val (.ref r3), .val (.ref r3), .val (.int (1 : Int32))] [(.int (1 : Int32))]))
        refine Go.retN X37 Bd.notSynchronized hx (t := .boolean) Bd.returns (by simp) (hb hby at_299) (by decide) (by decide) (1 : Int32) rfl ?_
        rw [K37q]
        exact ⟨rfl, N37⟩
    · refine Go.step (fun t k => XS.ifYes X29.here hx rfl (pc0 := 230) (pc' := 273) rfl (hb hby at_230) rfl ((if0 _ _).trans (feq hc230_30).2) (by decide) (by decide) k) ?_
      show Go _ _ _ _ _ _ _ (T29.setTop (mkF m 273 #[.val (.int nn), .val (.long qa), .second, .val (.long qb), .second, .val (.long qc), .second, .val (.long qo), .second, .val (.long ql), .second, .val (.int (3 : Int32)), .val (.long vo0), .second, .val (.long vl0), .second, .val (.long vo1), .second, .val (.long vl1), .second, .val (.long vo2), .second, .val (.long vl2), .second, .val (.long vof), .second, .val (.long vln), .second, .val (.ref r0), .val (.ref r1), .val (.ref r2), .val (.ref r3), .val (.ref r3), .unset] []))
      refine Go.step (fun t k => XS.iconst X29.here hx rfl (hb hby at_273) k) ?_
      show Go _ _ _ _ _ _ _ (T29.setTop (mkF m 274 #[.val (.int nn), .val (.long qa), .second, .val (.long qb), .second, .val (.long qc), .second, .val (.long qo), .second, .val (.long ql), .second, .val (.int (3 : Int32)), .val (.long vo0), .second, .val (.long vl0), .second, .val (.long vo1), .second, .val (.long vl1), .second, .val (.long vo2), .second, .val (.long vl2), .second, .val (.long vof), .second, .val (.long vln), .second, .val (.ref r0), .val (.ref r1), .val (.ref r2), .val (.ref r3), .val (.ref r3), .unset] [(.int (1 : Int32))]))
      refine Go.step (fun t k => XS.goto X29.here hx rfl (pc0 := 274) (pc' := 278) rfl (hb hby at_274) (by decide) (by decide) k) ?_
      show Go _ _ _ _ _ _ _ (T29.setTop (mkF m 278 #[.val (.int nn), .val (.long qa), .second, .val (.long qb), .second, .val (.long qc), .second, .val (.long qo), .second, .val (.long ql), .second, .val (.int (3 : Int32)), .val (.long vo0), .second, .val (.long vl0), .second, .val (.long vo1), .second, .val (.long vl1), .second, .val (.long vo2), .second, .val (.long vl2), .second, .val (.long vof), .second, .val (.long vln), .second, .val (.ref r0), .val (.ref r1), .val (.ref r2), .val (.ref r3), .val (.ref r3), .unset] [(.int (1 : Int32))]))
      refine Go.step (fun t k => XS.istore X29.here hx rfl (hb hby at_278) rfl (l' := #[.val (.int nn), .val (.long qa), .second, .val (.long qb), .second, .val (.long qc), .second, .val (.long qo), .second, .val (.long ql), .second, .val (.int (3 : Int32)), .val (.long vo0), .second, .val (.long vl0), .second, .val (.long vo1), .second, .val (.long vl1), .second, .val (.long vo2), .second, .val (.long vl2), .second, .val (.long vof), .second, .val (.long vln), .second, .val (.ref r0), .val (.ref r1), .val (.ref r2), .val (.ref r3), .val (.ref r3), .val (.int (1 : Int32))]) rfl k) ?_
      show Go _ _ _ _ _ _ _ (T29.setTop (mkF m 280 #[.val (.int nn), .val (.long qa), .second, .val (.long qb), .second, .val (.long qc), .second, .val (.long qo), .second, .val (.long ql), .second, .val (.int (3 : Int32)), .val (.long vo0), .second, .val (.long vl0), .second, .val (.long vo1), .second, .val (.long vl1), .second, .val (.long vo2), .second, .val (.long vl2), .second, .val (.long vof), .second, .val (.long vln), .second, .val (.ref r0), .val (.ref r1), .val (.ref r2), .val (.ref r3), .val (.ref r3), .val (.int (1 : Int32))] []))
      refine Go.step (fun t k => XS.aload X29.here hx rfl (hb hby at_280) rfl rfl k) ?_
      show Go _ _ _ _ _ _ _ (T29.setTop (mkF m 282 #[.val (.int nn), .val (.long qa), .second, .val (.long qb), .second, .val (.long qc), .second, .val (.long qo), .second, .val (.long ql), .second, .val (.int (3 : Int32)), .val (.long vo0), .second, .val (.long vl0), .second, .val (.long vo1), .second, .val (.long vl1), .second, .val (.long vo2), .second, .val (.long vl2), .second, .val (.long vof), .second, .val (.long vln), .second, .val (.ref r0), .val (.ref r1), .val (.ref r2), .val (.ref r3), .val (.ref r3), .val (.int (1 : Int32))] [(.ref r3)]))
      refine Go.step (fun t k => XS.lload X29.here hx rfl (hb hby at_282) rfl k) ?_
      show Go _ _ _ _ _ _ _ (T29.setTop (mkF m 284 #[.val (.int nn), .val (.long qa), .second, .val (.long qb), .second, .val (.long qc), .second, .val (.long qo), .second, .val (.long ql), .second, .val (.int (3 : Int32)), .val (.long vo0), .second, .val (.long vl0), .second, .val (.long vo1), .second, .val (.long vl1), .second, .val (.long vo2), .second, .val (.long vl2), .second, .val (.long vof), .second, .val (.long vln), .second, .val (.ref r0), .val (.ref r1), .val (.ref r2), .val (.ref r3), .val (.ref r3), .val (.int (1 : Int32))] [(.long vof), (.ref r3)]))
      refine Go.step (fun t k => XS.lload X29.here hx rfl (hb hby at_284) rfl k) ?_
      show Go _ _ _ _ _ _ _ (T29.setTop (mkF m 286 #[.val (.int nn), .val (.long qa), .second, .val (.long qb), .second, .val (.long qc), .second, .val (.long qo), .second, .val (.long ql), .second, .val (.int (3 : Int32)), .val (.long vo0), .second, .val (.long vl0), .second, .val (.long vo1), .second, .val (.long vl1), .second, .val (.long vo2), .second, .val (.long vl2), .second, .val (.long vof), .second, .val (.long vln), .second, .val (.ref r0), .val (.ref r1), .val (.ref r2), .val (.ref r3), .val (.ref r3), .val (.int (1 : Int32))] [(.long vln), (.long vof), (.ref r3)]))
      obtain ⟨_, _, ⟨T38, L38, k38, n38⟩, -, X38, ⟨Lc38, hQ38, l38, y38, z38⟩, st38⟩ := Jvm.LawKit.callS X29 hx (y := (⟨"com/example/rootkeep/rootkeep/file/FreeSpace", "overlaps", "([JJJ)Z"⟩ : MethodName)) hown (mvT hZ (hw _ (List.mem_of_getElem? (i := 4) rfl))) (mvT hZ (hw _ (List.mem_of_getElem? (i := 5) rfl))) (mvT hZ (hw _ (List.mem_of_getElem? (i := 6) rfl))) (mvT hZ (hw _ (List.mem_of_getElem? (i := 7) rfl))) (by decide) (backOf (W := 0) (rm1_3 l Z a0 hw [] r3 vof vln vo0 vl0 vo1 vl1 vo2 vl2 h16 n0 Z16 A_r3 hord) hZ (hw _ (List.mem_of_getElem? (i := 7) rfl)) (hw _ (List.mem_of_getElem? (i := 6) rfl)) (by decide) (by decide)) (g := (mkF m 286 #[.val (.int nn), .val (.long qa), .second, .val (.long qb), .second, .val (.long qc), .second, .val (.long qo), .second, .val (.long ql), .second, .val (.int (3 : Int32)), .val (.long vo0), .second, .val (.long vl0), .second, .val (.long vo1), .second, .val (.long vl1), .second, .val (.long vo2), .second, .val (.long vl2), .second, .val (.long vof), .second, .val (.long vln), .second, .val (.ref r0), .val (.ref r1), .val (.ref r2), .val (.ref r3), .val (.ref r3), .val (.int (1 : Int32))] [(.long vln), (.long vof), (.ref r3)])) rfl (by rw [hml]; rfl) (argsL := [(.ref r3), (.long vof), (.long vln)]) (rest := []) (lenOf pd_0_0 rfl) rfl (by show 2 * 0 + _ ≤ _; exact Nat.le_of_eq rfl) (hb hby at_286) (fun _ _ => ⟨rfl, K29q, (by decide : 4 + 0 ≤ _), (by decide : 12 + 0 ≤ _)⟩)
      dsimp only [Pt.U, Pt.locs, Pt.cells, Pt.slots] at X38 l38 y38 z38 st38 hQ38
      subst l38 y38 z38
      obtain ⟨z_38, rfl, N38q, K38q, o38_hz⟩ := hQ38
      have N38 := Fr.app N29 N38q
      refine Go.step st38 ?_
      show Go _ _ _ _ _ _ _ (T38.setTop (mkF m 289 #[.val (.int nn), .val (.long qa), .second, .val (.long qb), .second, .val (.long qc), .second, .val (.long qo), .second, .val (.long ql), .second, .val (.int (3 : Int32)), .val (.long vo0), .second, .val (.long vl0), .second, .val (.long vo1), .second, .val (.long vl1), .second, .val (.long vo2), .second, .val (.long vl2), .second, .val (.long vof), .second, .val (.long vln), .second, .val (.ref r0), .val (.ref r1), .val (.ref r2), .val (.ref r3), .val (.ref r3), .val (.int (1 : Int32))] [(.int z_38)]))
      refine Go.step (fun t k => XS.iload X38.here hx rfl (hb hby at_289) rfl k) ?_
      show Go _ _ _ _ _ _ _ (T38.setTop (mkF m 291 #[.val (.int nn), .val (.long qa), .second, .val (.long qb), .second, .val (.long qc), .second, .val (.long qo), .second, .val (.long ql), .second, .val (.int (3 : Int32)), .val (.long vo0), .second, .val (.long vl0), .second, .val (.long vo1), .second, .val (.long vl1), .second, .val (.long vo2), .second, .val (.long vl2), .second, .val (.long vof), .second, .val (.long vln), .second, .val (.ref r0), .val (.ref r1), .val (.ref r2), .val (.ref r3), .val (.ref r3), .val (.int (1 : Int32))] [(.int (1 : Int32)), (.int z_38)]))
      refine Go.step (fun t k => XS.icmpNo X38.here hx rfl (hb hby at_291) rfl (teq (own_one o38_hz (Or.inl (own_pos o29_hz hc230_30)) : z_38 = (1 : Int32))).2 k) ?_
      show Go _ _ _ _ _ _ _ (T38.setTop (mkF m 294 #[.val (.int nn), .val (.long qa), .second, .val (.long qb), .second, .val (.long qc), .second, .val (.long qo), .second, .val (.long ql), .second, .val (.int (3 : Int32)), .val (.long vo0), .second, .val (.long vl0), .second, .val (.long vo1), .second, .val (.long vl1), .second, .val (.long vo2), .second, .val (.long vl2), .second, .val (.long vof), .second, .val (.long vln), .second, .val (.ref r0), .val (.ref r1), .val (.ref r2), .val (.ref r3), .val (.ref r3), .val (.int (1 : Int32))] []))
      refine Go.step (fun t k => XS.iconst X38.here hx rfl (hb hby at_294) k) ?_
      show Go _ _ _ _ _ _ _ (T38.setTop (mkF m 295 #[.val (.int nn), .val (.long qa), .second, .val (.long qb), .second, .val (.long qc), .second, .val (.long qo), .second, .val (.long ql), .second, .val (.int (3 : Int32)), .val (.long vo0), .second, .val (.long vl0), .second, .val (.long vo1), .second, .val (.long vl1), .second, .val (.long vo2), .second, .val (.long vl2), .second, .val (.long vof), .second, .val (.long vln), .second, .val (.ref r0), .val (.ref r1), .val (.ref r2), .val (.ref r3), .val (.ref r3), .val (.int (1 : Int32))] [(.int (1 : Int32))]))
      refine Go.step (fun t k => XS.goto X38.here hx rfl (pc0 := 295) (pc' := 299) rfl (hb hby at_295) (by decide) (by decide) k) ?_
      show Go _ _ _ _ _ _ _ (T38.setTop (mkF m 299 #[.val (.int nn), .val (.long qa), .second, .val (.long qb), .second, .val (.long qc), .second, .val (.long qo), .second, .val (.long ql), .second, .val (.int (3 : Int32)), .val (.long vo0), .second, .val (.long vl0), .second, .val (.long vo1), .second, .val (.long vl1), .second, .val (.long vo2), .second, .val (.long vl2), .second, .val (.long vof), .second, .val (.long vln), .second, .val (.ref r0), .val (.ref r1), .val (.ref r2), .val (.ref r3), .val (.ref r3), .val (.int (1 : Int32))] [(.int (1 : Int32))]))
      refine Go.retN X38 Bd.notSynchronized hx (t := .boolean) Bd.returns (by simp) (hb hby at_299) (by decide) (by decide) (1 : Int32) rfl ?_
      rw [K38q]
      exact ⟨rfl, N38⟩
set_option maxRecDepth 65536 in
set_option maxHeartbeats 40000000 in
theorem comes_1 {Post : Tables → Env → Array Value → State → Outcome → State → Prop} (hpost : ∀ tb e args s v u, (limb_1_1.after args s (.returned v) u = true ∧ limb_1_2.after args s (.returned v) u = true ∧ True) → FrameEnd s (.returned v) u (Jvm.fieldLocs frame_1_writes args s ++ Jvm.arrayLocs frame_1_arrays args s ++ Jvm.staticLocs frame_1_statics s) 16 128 → Post tb e args s (.returned v) u) :
    ArmFor flags0 classFile x code maxLocals ret World_1 tables_1 room_1 Calls_1 rest_1 Pre_1 Post := by
  intro l hfl _ _ p e ha hc hk s m args below hf hA hF happ hP
  obtain ⟨hcalls, hrest, hpre⟩ := hP
  obtain ⟨-, -, -, hnamed, -, -, -, hat⟩ := (Spec.applies_iff hf).mp happ
  obtain ⟨hg, hn⟩ := and_e (Cond.before_iff.mp (show (Jvm.Cond.and given_1 narrow_1).before args s = true from hpre))
  obtain ⟨gv1, gv2⟩ := and_e hg
  obtain ⟨gv3, gv4⟩ := and_e gv2
  obtain ⟨gv5, gv6⟩ := and_e gv4
  obtain ⟨gv7, gv8⟩ := and_e gv6
  obtain ⟨gv9, gv10⟩ := and_e gv8
  obtain ⟨gv11, gv12⟩ := and_e gv10
  obtain ⟨w0, w1, w2, w3, w4, w5, rfl⟩ : ∃ w0 w1 w2 w3 w4 w5 : Value, args = #[w0, w1, w2, w3, w4, w5] := by
    have hs : args.size = 6 := by simpa [Cond.value, given_1] using gv1
    obtain ⟨L⟩ := args
    match L, hs with
    | [w0, w1, w2, w3, w4, w5], _ => exact ⟨w0, w1, w2, w3, w4, w5, rfl⟩
  have hw := fun d (hd : d ∈ tables_1) => atoms_spec (ws := Jvm.Cond.code x code maxLocals ret :: tables_1) hat d (List.mem_cons_of_mem _ hd)
  have hfit : Fit s := fun {y c} hc i hi => by
    obtain ⟨ha, rfl⟩ := Array.getElem?_eq_some_iff.mp hc
    have q := List.all_eq_true.mp ((Array.all_eq_true_iff_forall_mem.mp hF) _ (Array.getElem_mem ha)) i (List.mem_range.mpr hi)
    simpa [Array.getElem?_eq_getElem hi] using q
  obtain ⟨i0, ei0⟩ := is_v gv3
  obtain rfl : w0 = (.int i0) := Option.some.inj ei0
  obtain ⟨i1, ei1⟩ := isL_v gv5
  obtain rfl : w1 = (.long i1) := Option.some.inj ei1
  obtain ⟨i2, ei2⟩ := isL_v gv7
  obtain rfl : w2 = (.long i2) := Option.some.inj ei2
  obtain ⟨i3, ei3⟩ := isL_v gv9
  obtain rfl : w3 = (.long i3) := Option.some.inj ei3
  obtain ⟨i4, ei4⟩ := isL_v gv11
  obtain rfl : w4 = (.long i4) := Option.some.inj ei4
  obtain ⟨i5, ei5⟩ := isL_v gv12
  obtain rfl : w5 = (.long i5) := Option.some.inj ei5
  obtain ⟨n, o, h1, h2, h3, _, L, rfl, ⟨rfl, N⟩, hq⟩ := rm0 l s _ hw tables_1 i0 i1 i2 i3 i4 i5 s.heap s.heap.size (Nat.le_refl _) p e ha hc hk s m _ below hf ((Spec.applies_iff_loose hf).mp happ).1 ⟨rfl, State.Warmed39.refl s, rfl⟩ trivial
  refine ⟨n, _, h1, h2, h3, hpost _ _ _ _ _ _ ⟨Cond.after_iff.mpr rfl, Cond.after_iff.mpr (eq_i res_at (Term.int_eval (1)) rfl), trivial⟩ ⟨hq.1, hq.2.1, (hq.2.2.sift fun y hy => Or.inr (N y hy)).mono (by decide) (by decide)⟩⟩
theorem main_1_1 : Claimed_1_1 := comes_1 fun _ _ _ _ _ _ h hF => ⟨h.1, hF⟩
theorem main_1_2 : Claimed_1_2 := comes_1 fun _ _ _ _ _ _ h hF => ⟨h.2.1, hF⟩
end Jvm.Pilot.@@N@@
namespace Jvm.Pilot.@@N@@
open Jvm Jvm.ClassFile Sem Op Lib Jvm.Free Jvm.Stand Jvm.Pilot.@@N@@.Jvm.D
/-! MADE BY PROGRAM (witnessworld.py) out of the Statement's table words and the real class files: 11 classes; the members and pool entries that the words name. The judged class is class 1, her method 1. -/
namespace start1
open Jvm.ClassFile
def u (s : String) : CpInfo := .utf8 (stringToUtf16 s)
/-- a pool by its gaps: so many unusable entries, then the entry; so many at the end -/
def gap : Nat → List CpInfo → List CpInfo
  | 0, r => r
  | n + 1, r => .unusable :: gap n r
def poolList (es : List (Nat × CpInfo)) (last : Nat) : List CpInfo := es.foldr (fun e r => gap e.1 (e.2 :: r)) (gap last [])
def pool (es : List (Nat × CpInfo)) (last : Nat) : Array CpInfo := ⟨poolList es last⟩
def fileOf (pool : Array CpInfo) (this : Nat) (attrs : Array Attribute := #[]) (ms : Array MethodInfo := #[]) (fl : Nat := 33) (sup : Nat := 0) (ifs : Array Nat := #[]) (fds : Array FieldInfo := #[]) : ClassFile where
  minorVersion := 0
  majorVersion := 65
  constantPool := pool
  accessFlags := fl
  thisClass := this
  superClass := sup
  interfaces := ifs
  fields := fds
  methods := ms
  attributes := attrs
def plain (name : String) (sup : Option ClassId) : Class where
  name := name
  kind := .ordinary
  loader := none
  accessFlags := 33
  super := sup
  interfaces := #[]
  cf := none
  fields := #[]
  methods := #[]
  instanceTypes := #[]
  staticTypes := #[]
  resolved := #[]
  callSites := []
  init := .initialized
  statics := none
  mirror := none

def pool0 : Array CpInfo := pool [(5, u "<init>"), (0, u "()V"), (1, .class_ 10), (1, u "java/lang/Object")] 113

def k0m0 : Method := { name := "<init>", desc := "()V", sig := { parameters := [], returnType := none }, accessFlags := 1, code := none }
/-- java/lang/Object -/
def k0 : Class := { plain "java/lang/Object" none with
  accessFlags := 33
  interfaces := #[]
  cf := some (fileOf pool0 8 #[] #[{ accessFlags := 1, nameIndex := 5, descriptorIndex := 6, attributes := #[] }] 33 0 #[] #[])
  fields := #[]
  methods := #[k0m0]
  instanceTypes := #[]
  staticTypes := #[]
  resolved := Array.replicate 124 none
  statics := none }

def pool1 : Array CpInfo := pool [(2, .class_ 4), (1, u "java/lang/Object"), (0, u "<init>"), (0, u "()V"), (0, .long 4294967295), (1, .long 68719476735), (1, .long 68719476736), (1, .methodref 14 15), (0, .class_ 16), (0, .nameAndType 17 18), (0, u "com/example/rootkeep/rootkeep/file/FreeSpaceOverlapsPinLaw"), (0, u "hits"), (0, u "(JJJJ)Z"), (0, .methodref 20 21), (0, .class_ 22), (0, .nameAndType 23 24), (0, u "com/example/rootkeep/rootkeep/file/FreeSpace"), (0, u "overlaps"), (0, u "([JJJ)Z"), (2, u "law"), (0, u "(IJJJJJ)Z")] 5

def k1m0 : Method := { name := "<init>", desc := "()V", sig := { parameters := [], returnType := none }, accessFlags := 1, code := none }
def k1c1 : Code := { maxStack := 8, maxLocals := 34, code := code, exceptionTable := #[], attributes := #[] }
def k1m1 : Method := { name := "law", desc := "(IJJJJJ)Z", sig := { parameters := [.int, .long, .long, .long, .long, .long], returnType := some .boolean }, accessFlags := 9, code := some k1c1 }
def k1c2 : Code := { maxStack := 6, maxLocals := 8, code := method_3_code, exceptionTable := #[], attributes := #[] }
def k1m2 : Method := { name := "hits", desc := "(JJJJ)Z", sig := { parameters := [.long, .long, .long, .long], returnType := some .boolean }, accessFlags := 10, code := some k1c2 }
/-- com/example/rootkeep/rootkeep/file/FreeSpaceOverlapsPinLaw -/
def k1 : Class := { plain "com/example/rootkeep/rootkeep/file/FreeSpaceOverlapsPinLaw" (some 0) with
  accessFlags := 49
  interfaces := #[]
  cf := some (fileOf pool1 14 #[] #[{ accessFlags := 1, nameIndex := 5, descriptorIndex := 6, attributes := #[] }, { accessFlags := 9, nameIndex := 27, descriptorIndex := 28, attributes := #[] }, { accessFlags := 10, nameIndex := 17, descriptorIndex := 18, attributes := #[] }] 49 2 #[] #[])
  fields := #[]
  methods := #[k1m0, k1m1, k1m2]
  instanceTypes := #[]
  staticTypes := #[]
  resolved := Array.replicate 34 none
  statics := none }

def pool2 : Array CpInfo := pool [(4, .class_ 6), (1, u "java/lang/Object"), (8, .class_ 17), (1, u "com/example/rootkeep/rootkeep/file/FreeSpace"), (0, u "unreached"), (0, u "Lcom/example/rootkeep/rootkeep/file/Runs;"), (2, u "reusable"), (5, u "waiting"), (0, u "Ljava/util/Deque;"), (5, u "undo"), (0, u "Ljava/util/List;"), (2, u "left"), (2, u "leftPages"), (2, u "list"), (0, u "Lcom/example/rootkeep/rootkeep/file/Location;"), (2, u "end"), (0, u "J"), (54, .class_ 106), (0, u "com/example/rootkeep/rootkeep/file/FreeSpace$Freed"), (29, u "endBefore"), (22, .class_ 160), (0, u "com/example/rootkeep/rootkeep/file/FreeSpace$Placed"), (52, u "RUN_SIZE"), (0, u "I"), (16, u "overlaps"), (0, u "([JJJ)Z")] 67

def k2c0 : Code := { maxStack := 6, maxLocals := 8, code := prog_21_method_4_code, exceptionTable := #[], attributes := #[] }
def k2m0 : Method := { name := "overlaps", desc := "([JJJ)Z", sig := { parameters := [(.array .long), .long, .long], returnType := some .boolean }, accessFlags := 8, code := some k2c0 }
/-- com/example/rootkeep/rootkeep/file/FreeSpace -/
def k2 : Class := { plain "com/example/rootkeep/rootkeep/file/FreeSpace" (some 0) with
  accessFlags := 48
  interfaces := #[]
  cf := some (fileOf pool2 15 #[.nestMembers #[105, 159]] #[{ accessFlags := 8, nameIndex := 231, descriptorIndex := 232, attributes := #[] }] 48 4 #[] #[{ accessFlags := 24, nameIndex := 213, descriptorIndex := 214, attributes := #[] }, { accessFlags := 18, nameIndex := 18, descriptorIndex := 19, attributes := #[] }, { accessFlags := 18, nameIndex := 22, descriptorIndex := 19, attributes := #[] }, { accessFlags := 18, nameIndex := 28, descriptorIndex := 29, attributes := #[] }, { accessFlags := 18, nameIndex := 35, descriptorIndex := 36, attributes := #[] }, { accessFlags := 18, nameIndex := 39, descriptorIndex := 36, attributes := #[] }, { accessFlags := 18, nameIndex := 42, descriptorIndex := 36, attributes := #[] }, { accessFlags := 2, nameIndex := 45, descriptorIndex := 46, attributes := #[] }, { accessFlags := 2, nameIndex := 49, descriptorIndex := 50, attributes := #[] }, { accessFlags := 2, nameIndex := 136, descriptorIndex := 50, attributes := #[] }])
  fields := #[{ name := "RUN_SIZE", type := .int, accessFlags := 24, slot := 0, constantValue := 0 }, { name := "unreached", type := (.object "com/example/rootkeep/rootkeep/file/Runs"), accessFlags := 18, slot := 0, constantValue := 0 }, { name := "reusable", type := (.object "com/example/rootkeep/rootkeep/file/Runs"), accessFlags := 18, slot := 1, constantValue := 0 }, { name := "waiting", type := (.object "java/util/Deque"), accessFlags := 18, slot := 2, constantValue := 0 }, { name := "undo", type := (.object "java/util/List"), accessFlags := 18, slot := 3, constantValue := 0 }, { name := "left", type := (.object "java/util/List"), accessFlags := 18, slot := 4, constantValue := 0 }, { name := "leftPages", type := (.object "java/util/List"), accessFlags := 18, slot := 5, constantValue := 0 }, { name := "list", type := (.object "com/example/rootkeep/rootkeep/file/Location"), accessFlags := 2, slot := 6, constantValue := 0 }, { name := "end", type := .long, accessFlags := 2, slot := 7, constantValue := 0 }, { name := "endBefore", type := .long, accessFlags := 2, slot := 8, constantValue := 0 }]
  methods := #[k2m0]
  instanceTypes := #[(.object "com/example/rootkeep/rootkeep/file/Runs"), (.object "com/example/rootkeep/rootkeep/file/Runs"), (.object "java/util/Deque"), (.object "java/util/List"), (.object "java/util/List"), (.object "java/util/List"), (.object "com/example/rootkeep/rootkeep/file/Location"), .long, .long]
  staticTypes := #[.int]
  resolved := Array.replicate 300 none
  statics := none }

def pool3 : Array CpInfo := pool [(1, u "java/lang/Cloneable"), (0, .class_ 1), (0, u "java/lang/Object"), (0, .class_ 3)] 3

/-- java/lang/Cloneable -/
def k3 : Class := { plain "java/lang/Cloneable" (some 0) with
  accessFlags := 1537
  interfaces := #[]
  cf := some (fileOf pool3 2 #[] #[] 1537 4 #[] #[])
  fields := #[]
  methods := #[]
  instanceTypes := #[]
  staticTypes := #[]
  resolved := Array.replicate 8 none
  statics := none }

def pool4 : Array CpInfo := pool [(1, u "java/io/Serializable"), (0, .class_ 1), (0, u "java/lang/Object"), (0, .class_ 3)] 3

/-- java/io/Serializable -/
def k4 : Class := { plain "java/io/Serializable" (some 0) with
  accessFlags := 1537
  interfaces := #[]
  cf := some (fileOf pool4 2 #[] #[] 1537 4 #[] #[])
  fields := #[]
  methods := #[]
  instanceTypes := #[]
  staticTypes := #[]
  resolved := Array.replicate 8 none
  statics := none }

/-- the primitive byte -/
def k5 : Class := { plain "byte" none with kind := .primitive 'B', accessFlags := 0x411 }
/-- [B -/
def k6 : Class := { plain "[B" (some 0) with kind := .array 5 .byte, interfaces := #[3, 4], accessFlags := 1041 }

/-- the primitive int -/
def k7 : Class := { plain "int" none with kind := .primitive 'I', accessFlags := 0x411 }
/-- [I -/
def k8 : Class := { plain "[I" (some 0) with kind := .array 7 .int, interfaces := #[3, 4], accessFlags := 1041 }

/-- the primitive long -/
def k9 : Class := { plain "long" none with kind := .primitive 'J', accessFlags := 0x411 }
/-- [J -/
def k10 : Class := { plain "[J" (some 0) with kind := .array 9 .long, interfaces := #[3, 4], accessFlags := 1041 }

def heap : Heap := #[]
def classes : Array Class := #[k0, k1, k2, k3, k4, k5, k6, k7, k8, k9, k10]
def interned : List (Array UInt16 × Addr) := []
def slotsUsed : Nat := 0
def theMethod : MethodId := ⟨1, 1⟩
def args0 : Array Value := #[.int 5, .long 7, .long 8, .long 9, .long 10, .long 11]
def aboutOver (below : List Frame) : State where
  vm := { classes := classes, interned := interned.toArray }
  heap := heap
  slotsUsed := slotsUsed
  threads := #[{ frames := .invoking theMethod args0 :: below }]
def below0 : List Frame := [.native { method := ⟨0, 0⟩, args := #[] }]
def about1 : State := aboutOver below0
def p0 : Program := .bare "" "" ""
def e0 : Env := launch0.env 0 0 0
theorem w_frames : about1.frames = Frame.invoking theMethod args0 :: below0 := rfl
set_option maxRecDepth 65536 in
theorem w_args : argsFit about1.vm theMethod args0 = true := by decide +kernel
set_option maxRecDepth 65536 in
theorem w_heap : heapFits about1 = true := by decide +kernel
set_option maxRecDepth 65536 in
theorem w_runnable : about1.curStatus? = some .runnable := by decide +kernel
set_option maxRecDepth 65536 in
theorem w_alone : about1.alone = true := by decide +kernel
set_option maxRecDepth 65536 in
theorem w_named : about1.methodNamed? x = some theMethod := by decide +kernel
set_option maxRecDepth 65536 in
theorem w_hears : about1.hears theMethod below0 = true := by decide +kernel
set_option maxRecDepth 65536 in
theorem w_ripe : about1.ripe theMethod args0 below0 = true := by decide +kernel
theorem w_running : about1.status = .running := rfl
set_option maxRecDepth 65536 in
theorem w_room : about1.hasRoom e0.platform room_1 = true :=
  launch0.hasRoom_least _ room_1 (by decide +kernel) (by decide +kernel) (by decide +kernel) (by decide +kernel) (by decide +kernel) (by decide +kernel)
theorem allAtoms_all (ts : List Jvm.Cond) (a : Array Jvm.Value) (st : Jvm.State) : (allAtoms ts).before a st = ts.all (fun c => c.before a st) := by
  induction ts with
  | nil => rfl
  | cons c t ih =>
    show (Jvm.Cond.and c (allAtoms t)).before a st = _
    rw [Jvm.Cond.before_and, ih, List.all_cons]
def words1 : List Jvm.Cond := Jvm.Cond.code x code maxLocals ret :: tables_1
/-- a 'code' word, met by the world's own term for the bytes: nothing is compared byte by byte -/
theorem code_word {y : MethodName} {bytes : ByteArray} {mx : Nat} {rt : Option FieldType} {a : Array Value} {s : State} {m : MethodId} {meth : Method} {c : Code} (h1 : s.methodNamed? y = some m) (h2 : s.vm.method? m = some meth) (h3 : meth.code = some c) (h4 : c.code = bytes)
    (h5 : (c.maxLocals == mx && c.exceptionTable.isEmpty && decide (c.maxStack ≤ mostOperands) && decide (meth.sig.returnType = rt) && !meth.locks && decide (parseMethodDescriptor y.desc = some meth.sig)) = true) : (Jvm.Cond.code y bytes mx rt).before a s = true := by
  simp only [Bool.and_eq_true, beq_iff_eq, Bool.not_eq_true', decide_eq_true_eq] at h5
  obtain ⟨⟨⟨⟨⟨g1, g2⟩, g3⟩, g4⟩, g5⟩, g6⟩ := h5
  simp [Cond.before, Cond.holds, Cond.value, h1, h2, h3, h4, g1, g2, g3, g4, g5, g6]
def isCode : Jvm.Cond → Bool
  | .code _ _ _ _ => true
  | _ => false
theorem all_split {L : List Jvm.Cond} {P : Jvm.Cond → Bool} (h1 : L.all (fun c => isCode c || P c) = true) (h2 : ∀ c ∈ L.filter isCode, P c = true) : L.all P = true := by
  refine List.all_eq_true.mpr fun c hc => ?_
  have h := List.all_eq_true.mp h1 c hc
  rcases Bool.eq_false_or_eq_true (isCode c) with hi | hi
  · exact h2 c (List.mem_filter.mpr ⟨hc, hi⟩)
  · simpa [hi] using h
set_option maxRecDepth 65536 in
theorem w_c0 : (Jvm.Cond.code x code maxLocals ret).before args0 about1 = true := code_word (m := ⟨1, 1⟩) (meth := k1m1) (c := k1c1) (by decide +kernel) rfl rfl rfl (by decide +kernel)
set_option maxRecDepth 65536 in
theorem w_c1 : (Jvm.Cond.code ({ cls := "com/example/rootkeep/rootkeep/file/FreeSpace", name := "overlaps", desc := "([JJJ)Z" } : Jvm.MethodName) prog_21_method_4_code (8 : Nat) (Option.some Jvm.ClassFile.FieldType.boolean)).before args0 about1 = true := code_word (m := ⟨2, 0⟩) (meth := k2m0) (c := k2c0) (by decide +kernel) rfl rfl rfl (by decide +kernel)
set_option maxRecDepth 65536 in
theorem w_c2 : (Jvm.Cond.code ({ cls := "com/example/rootkeep/rootkeep/file/FreeSpaceOverlapsPinLaw", name := "hits", desc := "(JJJJ)Z" } : Jvm.MethodName) method_3_code (8 : Nat) (Option.some Jvm.ClassFile.FieldType.boolean)).before args0 about1 = true := code_word (m := ⟨1, 2⟩) (meth := k1m2) (c := k1c2) (by decide +kernel) rfl rfl rfl (by decide +kernel)
def codes1 : List Jvm.Cond := [Jvm.Cond.code x code maxLocals ret, Jvm.Cond.code ({ cls := "com/example/rootkeep/rootkeep/file/FreeSpace", name := "overlaps", desc := "([JJJ)Z" } : Jvm.MethodName) prog_21_method_4_code (8 : Nat) (Option.some Jvm.ClassFile.FieldType.boolean), Jvm.Cond.code ({ cls := "com/example/rootkeep/rootkeep/file/FreeSpaceOverlapsPinLaw", name := "hits", desc := "(JJJJ)Z" } : Jvm.MethodName) method_3_code (8 : Nat) (Option.some Jvm.ClassFile.FieldType.boolean)]
set_option maxRecDepth 65536 in
theorem codes_eq : words1.filter isCode = codes1 := rfl
theorem w_codes : ∀ c ∈ words1.filter isCode, c.before args0 about1 = true := by
  rw [codes_eq]
  intro c hc
  simp only [codes1, List.mem_cons, List.not_mem_nil, or_false] at hc
  rcases hc with rfl | rfl | rfl
  · exact w_c0
  · exact w_c1
  · exact w_c2
set_option maxRecDepth 65536 in
theorem w_t1 : words1.all (fun c => isCode c || c.before args0 about1) = true := by decide +kernel
theorem w_tables : (allAtoms (Jvm.Cond.code x code maxLocals ret :: tables_1)).before args0 about1 = true := by
  rw [allAtoms_all]
  show words1.all (fun c => c.before args0 about1) = true
  refine all_split ?_ w_codes
  rw [w_t1]
set_option maxRecDepth 65536 in
theorem w_case : (Jvm.Cond.and given_1 narrow_1).before args0 about1 = true := by decide +kernel
theorem w_applies : (headSpec (Jvm.Cond.code x code maxLocals ret :: tables_1) room_1).applies x e0.platform about1 = true :=
  (Spec.applies_iff w_frames).mpr ⟨w_running, w_runnable, w_alone, w_named, w_hears, w_ripe, w_room, w_tables⟩
theorem atStart : AtStart classFile x code maxLocals ret World_1 tables_1 room_1 Calls_1 rest_1 Pre_1 launch0 p0 e0 about1 theMethod args0 below0 :=
  ⟨lists_1, trivial, launch0.admits_env _ _ _, launch0.least_env, fairChoices_fair.cas, fairChoices_fair.clock, w_frames, w_args, w_heap, w_applies, trivial, trivial, w_case⟩
end start1
theorem witness_1 : WitnessClaimed_1 := ⟨start1.p0, start1.e0, start1.about1, start1.theMethod, start1.args0, start1.below0, start1.atStart⟩
end Jvm.Pilot.@@N@@
