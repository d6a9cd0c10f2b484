import JvmDerived
import JvmDerived.Pilot.@@N@@Statement
import JvmDerived.Pilot.@@N@@Code
set_option linter.unusedVariables false
set_option linter.unusedSimpArgs false
namespace Jvm.Pilot.@@N@@
open Jvm Jvm.ClassFile Sem Op Lib Jvm.Free Jvm.Stand Jvm.LawKit Jvm.RoadKit Bundle Jvm.Pilot.@@N@@.Jvm.D
section Own
variable {p : Program} {l : Launch} {e : Env} {R : Room} {s : State} {m : MethodId} {args : Array Value} {below : List Frame} {meth : Method} {c : Code} {T : State} {locs : List Loc} {cells slots : Nat} {Z : State} {h h' : Heap} {a b : Addr}
/-- from the state σ the run comes to a return that meets Qk -/
def Go (p : Program) (e : Env) (below : List Frame) (s : State) (Qk : Option Value → Heap → List Loc → Prop) (C S : Nat) (σ : State) : Prop :=
  ∃ s₂ o, Steps p.tables e below σ s₂ ∧ s₂.status = .running ∧ Ended s₂ below o ∧ ∃ v L, o = .returned v ∧ Qk v s₂.heap L ∧ FrameEnd s o s₂ L C S
variable {Qk : Option Value → Heap → List Loc → Prop} {C S : Nat}
theorem Go.step {σ σ' : State} (hs : ∀ t, Steps p.tables e below σ' t → Steps p.tables e below σ t) (k : Go p e below s Qk C S σ') : Go p e below s Qk C S σ := by
  obtain ⟨s₂, o, h1, r⟩ := k
  exact ⟨s₂, o, hs _ h1, r⟩
theorem Go.retV (X : Stand p l e R s m args below meth c T locs cells slots) (hlk : meth.locks = false) (hx : p.tables.exec = Jvm.exec) {pc : Nat} {Ls : Array Slot} (hret : meth.sig.returnType = none) (hd : decode c.code pc = .ok (.return_, 1)) (hc : cells ≤ C) (hs : slots ≤ S) (hQ : Qk none T.heap locs) :
    Go p e below s Qk C S (T.setTop (mkF m pc Ls [])) := by
  obtain ⟨fs, hr, hrun, hended, hW, hsame⟩ := X.leave (v := none) (fun _ => rfl) hlk
  exact ⟨_, _, X.returnOut hx hret hd hr, hrun, hended, _, _, rfl, hQ, ⟨_, rfl⟩, hW, hsame.mono hc hs⟩
theorem Go.retW (X : Stand p l e R s m args below meth c T locs cells slots) (hlk : meth.locks = false) (hx : p.tables.exec = Jvm.exec) {pc : Nat} {Ls : Array Slot} {w : Value} {t : FieldType} {i : Instr} {rest : List Value} (hret : meth.sig.returnType = some t) (hn : narrow t w = w)
    (hi : (i = .ireturn ∧ (t = .int ∨ t = .boolean ∨ t = .byte ∨ t = .char ∨ t = .short) ∧ ∃ z, w = .int z) ∨ (i = .lreturn ∧ t = .long ∧ ∃ z, w = .long z) ∨ (i = .dreturn ∧ t = .double ∧ ∃ z, w = .double z) ∨ (i = .freturn ∧ t = .float ∧ ∃ z, w = .float z) ∨ (i = .areturn ∧ t.isReference = true ∧ w.isRef = true))
    (hd : decode c.code pc = .ok (i, 1)) (hc : cells ≤ C) (hs : slots ≤ S) (hQ : Qk (some w) T.heap locs) :
    Go p e below s Qk C S (T.setTop (mkF m pc Ls (w :: rest))) := by
  obtain ⟨fs, hr, hrun, hended, hW, hsame⟩ := X.leave (v := some w) (fun q => by rw [hret] at q; cases q) hlk
  exact ⟨_, _, retOut X hx hret hn hi hd hr, hrun, hended, _, _, rfl, hQ, ⟨_, rfl⟩, hW, hsame.mono hc hs⟩
theorem Go.retI (X : Stand p l e R s m args below meth c T locs cells slots) (hlk : meth.locks = false) (hx : p.tables.exec = Jvm.exec) {pc : Nat} {Ls : Array Slot} {z : Int32} {rest : List Value} (hret : meth.sig.returnType = some .int) (hd : decode c.code pc = .ok (.ireturn, 1)) (hc : cells ≤ C) (hs : slots ≤ S) (hQ : Qk (some (.int z)) T.heap locs) :
    Go p e below s Qk C S (T.setTop (mkF m pc Ls (.int z :: rest))) :=
  Go.retW X hlk hx hret rfl (Or.inl ⟨rfl, Or.inl rfl, z, rfl⟩) hd hc hs hQ
theorem Go.retJ (X : Stand p l e R s m args below meth c T locs cells slots) (hlk : meth.locks = false) (hx : p.tables.exec = Jvm.exec) {pc : Nat} {Ls : Array Slot} {z : Int64} {rest : List Value} (hret : meth.sig.returnType = some .long) (hd : decode c.code pc = .ok (.lreturn, 1)) (hc : cells ≤ C) (hs : slots ≤ S) (hQ : Qk (some (.long z)) T.heap locs) :
    Go p e below s Qk C S (T.setTop (mkF m pc Ls (.long z :: rest))) :=
  Go.retW X hlk hx hret rfl (Or.inr (Or.inl ⟨rfl, rfl, z, rfl⟩)) hd hc hs hQ
theorem Go.retA (X : Stand p l e R s m args below meth c T locs cells slots) (hlk : meth.locks = false) (hx : p.tables.exec = Jvm.exec) {pc : Nat} {Ls : Array Slot} {w : Value} {t : FieldType} {rest : List Value} (hret : meth.sig.returnType = some t) (hn : narrow t w = w) (ht : t.isReference = true) (hw : w.isRef = true) (hd : decode c.code pc = .ok (.areturn, 1)) (hc : cells ≤ C) (hs : slots ≤ S) (hQ : Qk (some w) T.heap locs) :
    Go p e below s Qk C S (T.setTop (mkF m pc Ls (w :: rest))) :=
  Go.retW X hlk hx hret hn (Or.inr (Or.inr (Or.inr (Or.inr ⟨rfl, ht, hw⟩)))) hd hc hs hQ
theorem Go.retN (X : Stand p l e R s m args below meth c T locs cells slots) (hlk : meth.locks = false) (hx : p.tables.exec = Jvm.exec) {pc : Nat} {Ls : Array Slot} {z : Int32} {t : FieldType} {rest : List Value} (hret : meth.sig.returnType = some t) (ht : t = .boolean ∨ t = .byte ∨ t = .char ∨ t = .short) (hd : decode c.code pc = .ok (.ireturn, 1)) (hc : cells ≤ C) (hs : slots ≤ S) (z' : Int32) (hz : nar t z = z') (hQ : Qk (some (.int z')) T.heap locs) :
    Go p e below s Qk C S (T.setTop (mkF m pc Ls (.int z :: rest))) := by
  subst hz
  obtain ⟨fs, hr, hrun, hended, hW, hsame⟩ := X.leave (v := some (.int (nar t z))) (fun q => by rw [hret] at q; cases q) hlk
  exact ⟨_, _, Jvm.RoadKit.retN X hx hret ht hd hr, hrun, hended, _, _, rfl, hQ, ⟨_, rfl⟩, hW, hsame.mono hc hs⟩
theorem own_narb {P : Prop} [Decidable P] : nar .boolean (if P then (1 : Int32) else (0 : Int32)) = (if P then (1 : Int32) else (0 : Int32)) := by split <;> rfl
theorem own_narb01 {z : Int32} (h : z = 0 ∨ z = 1) : nar .boolean z = z := by rcases h with rfl | rfl <;> rfl
/-- a function turned at one place -/
def up {α : Type} (f : Nat → α) (k : Nat) (v : α) : Nat → α := fun i => if i = k then v else f i
theorem up_same {α : Type} (f : Nat → α) (k : Nat) (v : α) : up f k v k = v := if_pos rfl
theorem up_ne {α : Type} (f : Nat → α) {k i : Nat} (v : α) (q : i ≠ k) : up f k v i = f i := if_neg q
/-- an array of n places; place i holds g i -/
def Ary (Z : State) (h : Heap) (a : Addr) (ty : FieldType) (n : Nat) (g : Nat → Value) : Prop := ∃ c : Cell, Arr Z h a c ty ∧ c.slots.size = n ∧ n < 2 ^ 31 ∧ ∀ i, i < n → c.slots[i]? = some (g i)
variable {ty : FieldType} {n : Nat} {g : Nat → Value}
theorem Ary.lt (F : Ary Z h a ty n g) : a < h.size := by obtain ⟨c, A, -⟩ := F; exact A.lt
theorem Ary.ext (F : Ary Z h a ty n g) (E : Ext h h') : Ary Z h' a ty n g := by obtain ⟨c, A, r⟩ := F; exact ⟨c, A.ext E, r⟩
theorem Ary.other {sl : Nat} {v : Value} (F : Ary Z h b ty n g) (W : Wr h h' a sl v) (q : b ≠ a) : Ary Z h' b ty n g := by obtain ⟨c, A, r⟩ := F; exact ⟨c, A.other W q, r⟩
theorem Ary.keep {ws : List Addr} (F : Ary Z h a ty n g) (K : Keep h h' ws) (q : a ∉ ws) : Ary Z h' a ty n g := by obtain ⟨c, A, r⟩ := F; exact ⟨c, ⟨K.2.1 a c A.1 q, A.2⟩, r⟩
theorem Ary.set {k : Nat} {v : Value} (F : Ary Z h a ty n g) (W : Wr h h' a k v) : Ary Z h' a ty n (up g k v) := by
  obtain ⟨c, A, S, B, H⟩ := F
  refine ⟨_, A.same W, by rw [sz_set]; exact S, B, fun i hi => ?_⟩
  by_cases q : k = i
  · subst q; rw [up_same]; simp [Cell.setSlot, S, hi]
  · rw [up_ne _ _ (Ne.symm q), ← H i hi]; simp only [Cell.setSlot]; rw [Array.getElem?_setIfInBounds_ne q]
theorem Ary.new {k : ClassId} {z : Int32} (A : Arr Z h a (newA k ty z) ty) (q : z.toInt = n) : Ary Z h a ty n (fun _ => defaultValue ty) := by
  have e1 : z.toNatClampNeg = n := by simp only [Int32.toNatClampNeg]; omega
  refine ⟨_, A, by rw [sz_new]; exact e1, ?_, fun i hi => ?_⟩
  · have := Int32.toInt_lt z; omega
  · simp [newA, e1, hi]
theorem Ary.congr {g' : Nat → Value} (F : Ary Z h a ty n g) (q : ∀ i, i < n → g i = g' i) : Ary Z h a ty n g' := by
  obtain ⟨c, A, S, B, H⟩ := F
  exact ⟨c, A, S, B, fun i hi => by rw [← q i hi]; exact H i hi⟩
abbrev AryI (Z : State) (h : Heap) (a : Addr) (ty : FieldType) (n : Nat) (g : Nat → Int32) : Prop := Ary Z h a ty n (fun i => .int (g i))
abbrev AryJ (Z : State) (h : Heap) (a : Addr) (n : Nat) (g : Nat → Int64) : Prop := Ary Z h a .long n (fun i => .long (g i))
theorem own_upI (f : Nat → Int32) (k : Nat) (v : Int32) : up (fun i => Value.int (f i)) k (.int v) = fun i => Value.int (up f k v i) := by funext i; simp only [up]; split <;> rfl
theorem own_upJ (f : Nat → Int64) (k : Nat) (v : Int64) : up (fun i => Value.long (f i)) k (.long v) = fun i => Value.long (up f k v i) := by funext i; simp only [up]; split <;> rfl
theorem Ary.setI {f : Nat → Int32} {k : Nat} {v : Int32} (F : AryI Z h a ty n f) (W : Wr h h' a k (.int v)) : AryI Z h' a ty n (up f k v) := by have r := Ary.set F W; rw [own_upI] at r; exact r
theorem Ary.setJ {f : Nat → Int64} {k : Nat} {v : Int64} (F : AryJ Z h a n f) (W : Wr h h' a k (.long v)) : AryJ Z h' a n (up f k v) := by have r := Ary.set F W; rw [own_upJ] at r; exact r
theorem own_idx {c : Cell} {j : Int32} {k : Nat} (S : c.slots.size = n) (q : j.toInt = k) (hk : k < n) : ¬ (j < 0 ∨ c.slots.size ≤ j.toNatClampNeg) ∧ j.toNatClampNeg = k := by
  have e1 : j.toNatClampNeg = k := by simp only [Int32.toNatClampNeg]; omega
  have e0 : (0 : Int32).toInt = 0 := rfl
  refine ⟨?_, e1⟩
  rw [e1, S, Int32.lt_iff_toInt_lt]; omega
theorem own_ld (X : Stand p l e R s m args below meth c T locs cells slots) (hx : p.tables.exec = Jvm.exec) (hZ : Z.Warmed39 s.vm) (eT : T.heap = h) (F : Ary Z h a ty n g) {j : Int32} (k : Nat) (q : j.toInt = k) (hk : k < n) {v : Value} (hv : g k = v) {i : Instr}
    (hi : (i = .iaload ∧ ty = .int) ∨ (i = .laload ∧ ty = .long) ∨ (i = .caload ∧ ty = .char) ∨ (i = .baload ∧ ty = .byte)) {f : JFrame} (hg : f.method = m) {rest : List Value} (hs : f.stack = .int j :: .ref a :: rest) (hd : decode c.code f.pc = .ok (i, 1)) :
    ∀ target, Steps p.tables e below (T.setTop { f with pc := f.pc + 1, stack := v :: rest }) target → Steps p.tables e below (T.setTop f) target := by
  subst hv
  obtain ⟨cl, A, S, -, H⟩ := F
  obtain ⟨hin, e1⟩ := own_idx S q hk
  have hat : cl.slots[j.toNatClampNeg]? = some (g k) := by rw [e1]; exact H k hk
  intro t kt
  rcases hi with ⟨rfl, rfl⟩ | ⟨rfl, rfl⟩ | ⟨rfl, rfl⟩ | ⟨rfl, rfl⟩
  · exact X.iaload hx (by rw [eT]; exact A.1) (State.isArrayOf_alike hZ.alike A.2.1) A.2.2 hin hat hg hs hd t kt
  · exact X.laload hx (by rw [eT]; exact A.1) (State.isArrayOf_alike hZ.alike A.2.1) A.2.2 hin hat hg hs hd t kt
  · exact X.caload hx (by rw [eT]; exact A.1) (State.isArrayOf_alike hZ.alike A.2.1) A.2.2 hin hat hg hs hd t kt
  · exact X.baloadBytes hx (by rw [eT]; exact A.1) (State.isArrayOf_alike hZ.alike A.2.1) A.2.2 hin hat hg hs hd t kt
theorem own_len (X : Stand p l e R s m args below meth c T locs cells slots) (hx : p.tables.exec = Jvm.exec) (hZ : Z.Warmed39 s.vm) (eT : T.heap = h) (F : Ary Z h a ty n g) {z : Int32} (hz : n.toInt32 = z) {f : JFrame} (hg : f.method = m) {rest : List Value} (hs : f.stack = .ref a :: rest) (hd : decode c.code f.pc = .ok (.arraylength, 1)) :
    ∀ target, Steps p.tables e below (T.setTop { f with pc := f.pc + 1, stack := .int z :: rest }) target → Steps p.tables e below (T.setTop f) target := by
  subst hz
  obtain ⟨cl, A, S, -⟩ := F
  intro t kt
  refine X.arraylength hx (by rw [eT]; exact A.1) (State.isArrayOf_alike hZ.alike A.2.1) hg hs hd t ?_
  rw [S]; exact kt
theorem own_stI (X : Stand p l e R s m args below meth c T locs cells slots) (hx : p.tables.exec = Jvm.exec) (hZ : Z.Warmed39 s.vm) (eT : T.heap = h) (F : Ary Z h a .int n g) {j x : Int32} (k : Nat) (q : j.toInt = k) (hk : k < n) {f : JFrame} (hg : f.method = m) {rest : List Value} (hs : f.stack = .int x :: .int j :: .ref a :: rest) (hd : decode c.code f.pc = .ok (.iastore, 1)) :
    ∃ T' h', Stand p l e R s m args below meth c T' (locs ++ [⟨a, k⟩]) cells slots ∧ T'.heap = h' ∧ Wr h h' a k (.int x) ∧ ∀ target, Steps p.tables e below (T'.setTop { f with pc := f.pc + 1, stack := rest }) target → Steps p.tables e below (T.setTop f) target := by
  obtain ⟨cl, A, S, -, -⟩ := F
  obtain ⟨hin, e1⟩ := own_idx S q hk
  have r := stI X hx hZ eT A hin hg hs hd
  rw [e1] at r; exact r
theorem own_stJ (X : Stand p l e R s m args below meth c T locs cells slots) (hx : p.tables.exec = Jvm.exec) (hZ : Z.Warmed39 s.vm) (eT : T.heap = h) (F : Ary Z h a .long n g) {j : Int32} {x : Int64} (k : Nat) (q : j.toInt = k) (hk : k < n) {f : JFrame} (hg : f.method = m) {rest : List Value} (hs : f.stack = .long x :: .int j :: .ref a :: rest) (hd : decode c.code f.pc = .ok (.lastore, 1)) :
    ∃ T' h', Stand p l e R s m args below meth c T' (locs ++ [⟨a, k⟩]) cells slots ∧ T'.heap = h' ∧ Wr h h' a k (.long x) ∧ ∀ target, Steps p.tables e below (T'.setTop { f with pc := f.pc + 1, stack := rest }) target → Steps p.tables e below (T.setTop f) target := by
  obtain ⟨cl, A, S, -, -⟩ := F
  obtain ⟨hin, e1⟩ := own_idx S q hk
  have r := stJ X hx hZ eT A hin hg hs hd
  rw [e1] at r; exact r
theorem own_stB (X : Stand p l e R s m args below meth c T locs cells slots) (hx : p.tables.exec = Jvm.exec) (hZ : Z.Warmed39 s.vm) (eT : T.heap = h) (F : Ary Z h a .byte n g) {j x : Int32} (k : Nat) (q : j.toInt = k) (hk : k < n) {f : JFrame} (hg : f.method = m) {rest : List Value} (hs : f.stack = .int x :: .int j :: .ref a :: rest) (hd : decode c.code f.pc = .ok (.bastore, 1)) :
    ∃ T' h', Stand p l e R s m args below meth c T' (locs ++ [⟨a, k⟩]) cells slots ∧ T'.heap = h' ∧ Wr h h' a k (.int (nar .byte x)) ∧ ∀ target, Steps p.tables e below (T'.setTop { f with pc := f.pc + 1, stack := rest }) target → Steps p.tables e below (T.setTop f) target := by
  obtain ⟨cl, A, S, -, -⟩ := F
  obtain ⟨hin, e1⟩ := own_idx S q hk
  have r := stB X hx hZ eT A hin hg hs hd
  rw [e1] at r; exact r
theorem own_stC (X : Stand p l e R s m args below meth c T locs cells slots) (hx : p.tables.exec = Jvm.exec) (hZ : Z.Warmed39 s.vm) (eT : T.heap = h) (F : Ary Z h a .char n g) {j x : Int32} (k : Nat) (q : j.toInt = k) (hk : k < n) {f : JFrame} (hg : f.method = m) {rest : List Value} (hs : f.stack = .int x :: .int j :: .ref a :: rest) (hd : decode c.code f.pc = .ok (.castore, 1)) :
    ∃ T' h', Stand p l e R s m args below meth c T' (locs ++ [⟨a, k⟩]) cells slots ∧ T'.heap = h' ∧ Wr h h' a k (.int (nar .char x)) ∧ ∀ target, Steps p.tables e below (T'.setTop { f with pc := f.pc + 1, stack := rest }) target → Steps p.tables e below (T.setTop f) target := by
  obtain ⟨cl, A, S, -, -⟩ := F
  obtain ⟨hin, e1⟩ := own_idx S q hk
  have r := stC X hx hZ eT A hin hg hs hd
  rw [e1] at r; exact r
theorem own_neA {a0 : Array Value} {k : Nat} {K : String} (F : Exa Z h a K) (wi : (Cond.instantiable K k).before a0 Z = true) (G : Ary Z h b ty n g) : a ≠ b := by
  obtain ⟨cl, A, -⟩ := G
  exact ne_arr F wi A
theorem own_selP {y : MethodName} {k : Nat} {a0 as' : Array Value} (hZ : Z.Warmed39 s.vm) (wi : (Cond.instantiable y.cls k).before a0 Z = true) (wn : (Cond.instanceMethod y).before a0 Z = true) (wp : (Cond.privateMethod y).before a0 Z = true) (hy : y.cls ≠ "java/lang/invoke/MethodHandle" ∧ y.cls ≠ "java/lang/invoke/VarHandle") : (Cond.selects y.cls y y).before as' s = true := by
  have wi' : (Cond.instantiable y.cls k).before as' s = true := mvT hZ wi
  obtain ⟨c, kc, h1, h2, -, h4, -⟩ := Cond.instantiable_spec wi'
  refine selects_self_of_private h1 h2 ?_ (Cond.privateMethod_at (mvP hZ wp (args := #[]))) (mvT hZ wn) hy
  cases hi : kc.isInterface with
  | false => rfl
  | true => rw [hi] at h4; simp at h4
/-- long comparisons -/
theorem own_lwlt {x y : Int64} (h : x < y) : lcmpW x y < 0 := (lw_lt x y).mpr h
theorem own_nlwlt {x y : Int64} (h : ¬ x < y) : ¬ lcmpW x y < 0 := fun q => h ((lw_lt x y).mp q)
theorem own_lwgt {x y : Int64} (h : y < x) : 0 < lcmpW x y := (lw_gt x y).mpr h
theorem own_nlwgt {x y : Int64} (h : ¬ y < x) : ¬ 0 < lcmpW x y := fun q => h ((lw_gt x y).mp q)
theorem own_lweq {x y : Int64} (h : x = y) : lcmpW x y = 0 := (lw_eq x y).mpr h
theorem own_nlweq {x y : Int64} (h : ¬ x = y) : ¬ lcmpW x y = 0 := fun q => h ((lw_eq x y).mp q)
end Own
theorem own_lt {x y : Int32} (h : x < y) : x.toInt < y.toInt := Int32.lt_iff_toInt_lt.mp h
theorem own_nlt {x y : Int32} (h : ¬ x < y) : ¬ x.toInt < y.toInt := fun q => h (Int32.lt_iff_toInt_lt.mpr q)
theorem own_eq {x y : Int32} (h : x = y) : x.toInt = y.toInt := by rw [h]
theorem own_neq {x y : Int32} (h : ¬ x = y) : ¬ x.toInt = y.toInt := fun q => h (Int32.toInt_inj.mp q)
theorem own_ltL {x y : Int64} (h : x < y) : x.toInt < y.toInt := Int64.lt_iff_toInt_lt.mp h
theorem own_nltL {x y : Int64} (h : ¬ x < y) : ¬ x.toInt < y.toInt := fun q => h (Int64.lt_iff_toInt_lt.mpr q)
theorem own_eqL {x y : Int64} (h : x = y) : x.toInt = y.toInt := by rw [h]
theorem own_neqL {x y : Int64} (h : ¬ x = y) : ¬ x.toInt = y.toInt := fun q => h (Int64.toInt_inj.mp q)
theorem own_rng32 (x : Int32) : -2147483648 ≤ x.toInt ∧ x.toInt ≤ 2147483647 := by
  have h1 := Int32.le_toInt x
  have h2 := Int32.toInt_lt x
  omega
theorem own_rng64 (x : Int64) : -9223372036854775808 ≤ x.toInt ∧ x.toInt ≤ 9223372036854775807 := by
  have h1 := Int64.le_toInt x
  have h2 := Int64.toInt_lt x
  omega

def own_sum (f : Nat → Int64) : Nat → Int64
  | 0 => (0 : Int64)
  | k + 1 => own_sum f k + f k
theorem own_inc {x : Int32} {k : Nat} (h : x.toInt = (k : Int)) (hk : k < 65) : (x + (1 : Int32)).toInt = ((k + 1 : Nat) : Int) := by
  have h1 := c_iadd x 1
  have h2 := own_rng32 (x + 1)
  have h3 : (1 : Int32).toInt = 1 := rfl
  omega
theorem own_ge {x y : Int32} {k n : Nat} (h : x.toInt = (k : Int)) (h' : y.toInt = (n : Int)) (q : ¬ k < n) : ¬ x < y := by
  rw [Int32.lt_iff_toInt_lt]; omega
theorem own_ls {x y : Int32} {k n : Nat} (h : x.toInt = (k : Int)) (h' : y.toInt = (n : Int)) (q : k < n) : x < y := by
  rw [Int32.lt_iff_toInt_lt]; omega

theorem own_six {nn vk : Int32} (q : ((nn &&& (2147483647 : Int32)) % (6 : Int32)) = vk) : vk = 0 ∨ vk = 1 ∨ vk = 2 ∨ vk = 3 ∨ vk = 4 ∨ vk = 5 := by
  have ar1 := own_rng32 (((nn &&& (2147483647 : Int32)) % (6 : Int32)))
  have ar2 := own_rng32 ((nn &&& (2147483647 : Int32)))
  have ar3 := own_rng32 (nn)
  have ar4 := c_mask (nn) (2147483647 : Int32) 31 (by decide) (by decide)
  have ar5 := c_irem ((nn &&& (2147483647 : Int32))) (6 : Int32) 6 rfl
  have t := congrArg Int32.toInt q
  have e : ∀ {x : Int32} {z : Int32}, x.toInt = z.toInt → x = z := fun h => Int32.toInt_inj.mp h
  rcases (by omega : vk.toInt = 0 ∨ vk.toInt = 1 ∨ vk.toInt = 2 ∨ vk.toInt = 3 ∨ vk.toInt = 4 ∨ vk.toInt = 5) with r | r | r | r | r | r
  · exact Or.inl (e (z := 0) r)
  · exact Or.inr (Or.inl (e (z := 1) r))
  · exact Or.inr (Or.inr (Or.inl (e (z := 2) r)))
  · exact Or.inr (Or.inr (Or.inr (Or.inl (e (z := 3) r))))
  · exact Or.inr (Or.inr (Or.inr (Or.inr (Or.inl (e (z := 4) r)))))
  · exact Or.inr (Or.inr (Or.inr (Or.inr (Or.inr (e (z := 5) r)))))
def own_f (qa qb qc qd qe : Int64) : Nat → Int64 := (up (up (up (up (up (up (up (fun _ => (0 : Int64)) 0 qa) 1 qb) 2 qc) 3 qd) 4 qe) 63 qe) 64 qe)
theorem own_mid (qa qb qc qd qe : Int64) : ∀ j, j ≤ 58 → own_sum (own_f qa qb qc qd qe) (5 + j) = own_sum (own_f qa qb qc qd qe) 5 := by
  intro j
  induction j with
  | zero => intro _; rfl
  | succ j ih =>
    intro h
    have e : own_f qa qb qc qd qe (5 + j) = (0 : Int64) := by
      simp only [own_f, up]
      rw [if_neg (by omega), if_neg (by omega), if_neg (by omega), if_neg (by omega), if_neg (by omega), if_neg (by omega), if_neg (by omega)]
    show own_sum (own_f qa qb qc qd qe) (5 + j) + own_f qa qb qc qd qe (5 + j) = _
    rw [e, ih (by omega)]
    exact Int64.add_zero _
theorem own_64 (qa qb qc qd qe : Int64) : own_sum (own_f qa qb qc qd qe) 64 = ((((qa + qb) + qc) + qd) + qe) + qe := by
  show own_sum (own_f qa qb qc qd qe) (5 + 58) + qe = _
  rw [own_mid qa qb qc qd qe 58 (by omega)]
  show (((((0 : Int64) + qa) + qb) + qc) + qd) + qe + qe = _
  rw [Int64.zero_add]
theorem own_cnt {vk cv : Int32} (h6 : vk = 0 ∨ vk = 1 ∨ vk = 2 ∨ vk = 3 ∨ vk = 4 ∨ vk = 5) (hc : cv = (if vk = (5 : Int32) then (64 : Int32) else vk)) : cv.toInt = ((cv.toInt.toNat : Nat) : Int) ∧ cv.toInt.toNat ≤ 65 := by
  rcases h6 with rfl | rfl | rfl | rfl | rfl | rfl <;> subst hc <;> decide
theorem own_fin {vk cv : Int32} {qa qb qc qd qe ex : Int64} (h6 : vk = 0 ∨ vk = 1 ∨ vk = 2 ∨ vk = 3 ∨ vk = 4 ∨ vk = 5) (hc : cv = (if vk = (5 : Int32) then (64 : Int32) else vk))
    (hex : ex = (if vk = (0 : Int32) then (0 : Int64) else (if vk = (1 : Int32) then qa else (if vk = (2 : Int32) then (qa + qb) else (if vk = (3 : Int32) then ((qa + qb) + qc) else (if vk = (4 : Int32) then (((qa + qb) + qc) + qd) else (((((qa + qb) + qc) + qd) + qe) + qe))))))) :
    own_sum (up (up (up (up (up (up (up (fun _ => (0 : Int64)) 0 qa) 1 qb) 2 qc) 3 qd) 4 qe) 63 qe) 64 qe) cv.toInt.toNat = ex := by
  show own_sum (own_f qa qb qc qd qe) cv.toInt.toNat = ex
  rw [hex]
  rcases h6 with rfl | rfl | rfl | rfl | rfl | rfl <;> subst hc
  · rfl
  · show (0 : Int64) + qa = qa
    exact Int64.zero_add _
  · show ((0 : Int64) + qa) + qb = qa + qb
    rw [Int64.zero_add]
  · show (((0 : Int64) + qa) + qb) + qc = (qa + qb) + qc
    rw [Int64.zero_add]
  · show ((((0 : Int64) + qa) + qb) + qc) + qd = ((qa + qb) + qc) + qd
    rw [Int64.zero_add]
  · exact own_64 qa qb qc qd qe
theorem d2_0 : decode prog_83_method_1_code 0 = .ok (.aload_n 0, 1) := by decide +kernel
theorem d2_1 : decode prog_83_method_1_code 1 = .ok (.invokespecial 3, 3) := by decide +kernel
theorem d2_4 : decode prog_83_method_1_code 4 = .ok (.aload_n 0, 1) := by decide +kernel
theorem d2_5 : decode prog_83_method_1_code 5 = .ok (.iload_n 1, 1) := by decide +kernel
theorem d2_6 : decode prog_83_method_1_code 6 = .ok (.putfield 9, 3) := by decide +kernel
theorem d2_9 : decode prog_83_method_1_code 9 = .ok (.aload_n 0, 1) := by decide +kernel
theorem d2_10 : decode prog_83_method_1_code 10 = .ok (.bipush 65, 2) := by decide +kernel
theorem d2_12 : decode prog_83_method_1_code 12 = .ok (.anewarray 4, 3) := by decide +kernel
theorem d2_15 : decode prog_83_method_1_code 15 = .ok (.putfield 15, 3) := by decide +kernel
theorem d2_18 : decode prog_83_method_1_code 18 = .ok (.return_, 1) := by decide +kernel
theorem pn_2 : plainName "com/example/rootkeep/rootkeep/object/SortedTree$Node" = true := by first | (simp [plainName, overriddenIn]; done) | decide +kernel
theorem ef_2 (m : MethodId) (x0 : Addr) (x1 : Int32) : entryFrame m #[(.ref x0), (.int x1)] 2 = mkF m 0 #[.val (.ref x0), .val (.int x1)] [] := by first | (simp [entryFrame, mkF, argsToLocals, Value.category]; done) | rfl
def Q2 (Z : State) (aa : Addr) (gn : Int32) (h0 : Heap) (n0 : Nat) (v : Option Value) (h : Heap) (L : List Loc) : Prop := ∃ bk : Addr, v = none ∧ Fr n0 L ∧ Keep h0 h [aa] ∧ Fld Z h aa "com/example/rootkeep/rootkeep/object/SortedTree$Node" "generation" "I" (.int gn) ∧ Fld Z h aa "com/example/rootkeep/rootkeep/object/SortedTree$Node" "keys" "[Ljava/lang/Object;" (.ref bk) ∧ Fld Z h aa "com/example/rootkeep/rootkeep/object/SortedTree$Inner" "children" "[Lcom/example/rootkeep/rootkeep/object/SortedTree$Node;" .null ∧ Fld Z h aa "com/example/rootkeep/rootkeep/object/SortedTree$Inner" "childIds" "[J" .null ∧ Fld Z h aa "com/example/rootkeep/rootkeep/object/SortedTree$Inner" "sizes" "[J" .null ∧ Fld Z h aa "com/example/rootkeep/rootkeep/object/SortedTree$Node" "count" "I" (.int (0 : Int32))
set_option maxRecDepth 65536 in
set_option maxHeartbeats 40000000 in
theorem rm2 (l : Launch) (Z : State) (a0 : Array Value) (hw : ∀ d ∈ tables_1, d.before a0 Z = true) (ws : List Jvm.Cond) (aa : Addr) (gn : Int32) (h0 : Heap) (n0 : Nat) (Z0 : n0 ≤ h0.size) (F_generation_aa : Fld Z h0 aa "com/example/rootkeep/rootkeep/object/SortedTree$Node" "generation" "I" (.int (0 : Int32))) (F_keys_aa : Fld Z h0 aa "com/example/rootkeep/rootkeep/object/SortedTree$Node" "keys" "[Ljava/lang/Object;" .null) (F_children_aa : Fld Z h0 aa "com/example/rootkeep/rootkeep/object/SortedTree$Inner" "children" "[Lcom/example/rootkeep/rootkeep/object/SortedTree$Node;" .null) (F_childIds_aa : Fld Z h0 aa "com/example/rootkeep/rootkeep/object/SortedTree$Inner" "childIds" "[J" .null) (F_sizes_aa : Fld Z h0 aa "com/example/rootkeep/rootkeep/object/SortedTree$Inner" "sizes" "[J" .null) (F_count_aa : Fld Z h0 aa "com/example/rootkeep/rootkeep/object/SortedTree$Node" "count" "I" (.int (0 : Int32))) (E_aa : Exa Z h0 aa "com/example/rootkeep/rootkeep/object/SortedTree$Inner") (g_aa : n0 ≤ aa) :
    MetFree l (⟨"com/example/rootkeep/rootkeep/object/SortedTree$Node", "<init>", "(I)V"⟩ : MethodName) (head1 (Jvm.Cond.code (⟨"com/example/rootkeep/rootkeep/object/SortedTree$Node", "<init>", "(I)V"⟩ : MethodName) prog_83_method_1_code 2 none :: ws) ({ frames := 1, cells := 1, slots := 65, locals := 12 } : Room)) (fun a U => a = #[(.ref aa), (.int gn)] ∧ Z.Warmed39 U.vm ∧ U.heap = h0) (fun _ _ _ _ _ => True) (fun _ U o U' => ∃ v L, o = .returned v ∧ Q2 Z aa gn h0 n0 v U'.heap L ∧ FrameEnd U o U' L ({ frames := 1, cells := 1, slots := 65, locals := 12 } : Room).cells ({ frames := 1, cells := 1, slots := 65, locals := 12 } : Room).slots) := by
  refine MetFree.of_bodySF (plainFor_of_name pn_2) hisR ?_
  intro p e s m args below meth c s₁ Bd hml0 hP hK
  obtain ⟨rfl, hZ, hh⟩ := hP
  have hx := Bd.exec
  have hby := Bd.bytes
  have hml : c.maxLocals = 2 := hml0
  have hown : s.vm.findClass "com/example/rootkeep/rootkeep/object/SortedTree$Node" = some m.cls := findClass_of_methodNamed Bd.named
  have hnm := (name_of_methodNamed Bd.named Bd.method).1
  have X0 : Stand p l e ({ frames := 1, cells := 1, slots := 65, locals := 12 } : Room) s m #[(.ref aa), (.int gn)] below meth c s₁ [] 0 0 := Stand.of_body Bd
  have e0 : s₁.heap = h0 := by rw [← hh, Bd.state]; rfl
  have N0 := Fr.nil n0
  have K0 := Keep.refl h0 ([aa] : List Addr)
  show Go p e below s (Q2 Z aa gn h0 n0) ({ frames := 1, cells := 1, slots := 65, locals := 12 } : Room).cells ({ frames := 1, cells := 1, slots := 65, locals := 12 } : Room).slots (s₁.setTop (entryFrame m #[(.ref aa), (.int gn)] 2))
  rw [ef_2]
  show Go _ _ _ _ _ _ _ (s₁.setTop (mkF m 0 #[.val (.ref aa), .val (.int gn)] []))
  refine Go.step (fun t k => XS.aloadN X0.here hx rfl (hb hby d2_0) rfl rfl k) ?_
  show Go _ _ _ _ _ _ _ (s₁.setTop (mkF m 1 #[.val (.ref aa), .val (.int gn)] [(.ref aa)]))
  obtain ⟨T1, X1, e1, st1⟩ := initO X0 hx hZ hown (hw _ (List.mem_of_getElem? (i := 12) rfl)) (hw _ (List.mem_of_getElem? (i := 13) rfl)) (hw _ (List.mem_of_getElem? (i := 14) rfl)) e0 (g := (mkF m 1 #[.val (.ref aa), .val (.int gn)] [(.ref aa)])) rfl (by rw [hml]; rfl) rfl (hb hby d2_1) (by decide) (W := 0) (by show 2 * 0 + _ ≤ _; exact Nat.le_of_eq rfl) (by decide)
  refine Go.step st1 ?_
  show Go _ _ _ _ _ _ _ (T1.setTop (mkF m 4 #[.val (.ref aa), .val (.int gn)] []))
  refine Go.step (fun t k => XS.aloadN X1.here hx rfl (hb hby d2_4) rfl rfl k) ?_
  show Go _ _ _ _ _ _ _ (T1.setTop (mkF m 5 #[.val (.ref aa), .val (.int gn)] [(.ref aa)]))
  refine Go.step (fun t k => XS.iloadN X1.here hx rfl (hb hby d2_5) rfl k) ?_
  show Go _ _ _ _ _ _ _ (T1.setTop (mkF m 6 #[.val (.ref aa), .val (.int gn)] [(.int gn), (.ref aa)]))
  obtain ⟨T2, h2, X2, e2, W2, st2⟩ := putF X1 hx hZ hown (host := "") (Or.inl (hw _ (List.mem_of_getElem? (i := 15) rfl))) Via.refl e1 F_generation_aa E_aa (Or.inr ⟨(hw _ (List.mem_of_getElem? (i := 16) rfl)), rfl, hnm⟩) (hw _ (List.mem_of_getElem? (i := 2) rfl)) (ty := .int) (by decide) rfl rfl (g := (mkF m 6 #[.val (.ref aa), .val (.int gn)] [(.int gn), (.ref aa)])) rfl rfl (hb hby d2_6)
  replace F_keys_aa := F_keys_aa.other W2 (Or.inr (slot_ne (Or.inr (hw _ (List.mem_of_getElem? (i := 20) rfl))) (Or.inr (hw _ (List.mem_of_getElem? (i := 16) rfl))) (by decide) (t := (.array (.object "java/lang/Object"))) (t' := .int) (by decide) (by decide)))
  replace F_children_aa := F_children_aa.other W2 (Or.inr (slot_ne (Or.inr (hw _ (List.mem_of_getElem? (i := 24) rfl))) (Or.inr (hw _ (List.mem_of_getElem? (i := 16) rfl))) (by decide) (t := (.array (.object "com/example/rootkeep/rootkeep/object/SortedTree$Node"))) (t' := .int) (by decide) (by decide)))
  replace F_childIds_aa := F_childIds_aa.other W2 (Or.inr (slot_ne (Or.inr (hw _ (List.mem_of_getElem? (i := 27) rfl))) (Or.inr (hw _ (List.mem_of_getElem? (i := 16) rfl))) (by decide) (t := (.array .long)) (t' := .int) (by decide) (by decide)))
  replace F_sizes_aa := F_sizes_aa.other W2 (Or.inr (slot_ne (Or.inr (hw _ (List.mem_of_getElem? (i := 29) rfl))) (Or.inr (hw _ (List.mem_of_getElem? (i := 16) rfl))) (by decide) (t := (.array .long)) (t' := .int) (by decide) (by decide)))
  replace F_count_aa := F_count_aa.other W2 (Or.inr (slot_ne (Or.inl (hw _ (List.mem_of_getElem? (i := 33) rfl))) (Or.inr (hw _ (List.mem_of_getElem? (i := 16) rfl))) (by decide) (t := .int) (t' := .int) (by decide) (by decide)))
  replace E_aa := E_aa.wr W2
  have Z2 := Nat.le_trans Z0 (Keep.of_wr W2).1
  have N2 := Fr.snoc X2 N0 g_aa
  have K2 := K0.wr W2 (Or.inl (List.mem_of_getElem? (i := 0) rfl))
  replace F_generation_aa := F_generation_aa.same W2
  refine Go.step st2 ?_
  show Go _ _ _ _ _ _ _ (T2.setTop (mkF m 9 #[.val (.ref aa), .val (.int gn)] []))
  refine Go.step (fun t k => XS.aloadN X2.here hx rfl (hb hby d2_9) rfl rfl k) ?_
  show Go _ _ _ _ _ _ _ (T2.setTop (mkF m 10 #[.val (.ref aa), .val (.int gn)] [(.ref aa)]))
  refine Go.step (fun t k => XS.bipush X2.here hx rfl (hb hby d2_10) k) ?_
  show Go _ _ _ _ _ _ _ (T2.setTop (mkF m 12 #[.val (.ref aa), .val (.int gn)] [(.int (65 : Int32)), (.ref aa)]))
  obtain ⟨T3, h3, k3, X3, e3, E3, A3, O3, st3⟩ := newR X2 hx hZ hown (hw _ (List.mem_of_getElem? (i := 17) rfl)) (hw _ (List.mem_of_getElem? (i := 18) rfl)) e2 (g := (mkF m 12 #[.val (.ref aa), .val (.int gn)] [(.int (65 : Int32)), (.ref aa)])) rfl (hb hby d2_12) rfl (by decide) (cap := 65) (by decide) (by decide) (by decide) (by decide)
  obtain ⟨bk, gz3⟩ : ∃ z, z = h2.size := ⟨_, rfl⟩
  have ne_aa_bk : aa ≠ bk := Nat.ne_of_lt (Nat.lt_of_lt_of_le F_generation_aa.lt (Nat.le_of_eq gz3.symm))
  have g_bk : n0 ≤ bk := Nat.le_trans Z2 (Nat.le_of_eq gz3.symm)
  have sz_bk : h0.size ≤ bk := Nat.le_trans K2.1 (Nat.le_of_eq gz3.symm)
  rw [← gz3] at A3 st3
  replace F_generation_aa := F_generation_aa.ext E3
  replace F_keys_aa := F_keys_aa.ext E3
  replace F_children_aa := F_children_aa.ext E3
  replace F_childIds_aa := F_childIds_aa.ext E3
  replace F_sizes_aa := F_sizes_aa.ext E3
  replace F_count_aa := F_count_aa.ext E3
  replace E_aa := E_aa.ext E3
  have Z3 := Nat.le_trans Z2 E3.1
  have K3 := K2.ext E3
  have A_bk : Ary Z h3 bk (.object "java/lang/Object") 65 (fun _ => .null) := Ary.new A3 rfl
  refine Go.step st3 ?_
  show Go _ _ _ _ _ _ _ (T3.setTop (mkF m 15 #[.val (.ref aa), .val (.int gn)] [(.ref bk), (.ref aa)]))
  obtain ⟨T4, h4, X4, e4, W4, st4⟩ := putF X3 hx hZ hown (host := "") (Or.inl (hw _ (List.mem_of_getElem? (i := 19) rfl))) Via.refl e3 F_keys_aa E_aa (Or.inr ⟨(hw _ (List.mem_of_getElem? (i := 20) rfl)), rfl, hnm⟩) (hw _ (List.mem_of_getElem? (i := 2) rfl)) (ty := (.array (.object "java/lang/Object"))) (by decide) rfl rfl (g := (mkF m 15 #[.val (.ref aa), .val (.int gn)] [(.ref bk), (.ref aa)])) rfl rfl (hb hby d2_15)
  replace F_generation_aa := F_generation_aa.other W4 (Or.inr (slot_ne (Or.inr (hw _ (List.mem_of_getElem? (i := 16) rfl))) (Or.inr (hw _ (List.mem_of_getElem? (i := 20) rfl))) (by decide) (t := .int) (t' := (.array (.object "java/lang/Object"))) (by decide) (by decide)))
  replace F_children_aa := F_children_aa.other W4 (Or.inr (slot_ne (Or.inr (hw _ (List.mem_of_getElem? (i := 24) rfl))) (Or.inr (hw _ (List.mem_of_getElem? (i := 20) rfl))) (by decide) (t := (.array (.object "com/example/rootkeep/rootkeep/object/SortedTree$Node"))) (t' := (.array (.object "java/lang/Object"))) (by decide) (by decide)))
  replace F_childIds_aa := F_childIds_aa.other W4 (Or.inr (slot_ne (Or.inr (hw _ (List.mem_of_getElem? (i := 27) rfl))) (Or.inr (hw _ (List.mem_of_getElem? (i := 20) rfl))) (by decide) (t := (.array .long)) (t' := (.array (.object "java/lang/Object"))) (by decide) (by decide)))
  replace F_sizes_aa := F_sizes_aa.other W4 (Or.inr (slot_ne (Or.inr (hw _ (List.mem_of_getElem? (i := 29) rfl))) (Or.inr (hw _ (List.mem_of_getElem? (i := 20) rfl))) (by decide) (t := (.array .long)) (t' := (.array (.object "java/lang/Object"))) (by decide) (by decide)))
  replace F_count_aa := F_count_aa.other W4 (Or.inr (slot_ne (Or.inl (hw _ (List.mem_of_getElem? (i := 33) rfl))) (Or.inr (hw _ (List.mem_of_getElem? (i := 20) rfl))) (by decide) (t := .int) (t' := (.array (.object "java/lang/Object"))) (by decide) (by decide)))
  replace E_aa := E_aa.wr W4
  replace A_bk := A_bk.other W4 (Ne.symm ne_aa_bk)
  have Z4 := Nat.le_trans Z3 (Keep.of_wr W4).1
  have N4 := Fr.snoc X4 N2 g_aa
  have K4 := K3.wr W4 (Or.inl (List.mem_of_getElem? (i := 0) rfl))
  replace F_keys_aa := F_keys_aa.same W4
  refine Go.step st4 ?_
  show Go _ _ _ _ _ _ _ (T4.setTop (mkF m 18 #[.val (.ref aa), .val (.int gn)] []))
  refine Go.retV X4 Bd.notSynchronized hx Bd.returns (hb hby d2_18) (by decide) (by decide) ?_
  rw [e4]
  exact ⟨bk, rfl, N4, K4, F_generation_aa, F_keys_aa, F_children_aa, F_childIds_aa, F_sizes_aa, F_count_aa⟩
theorem d1_0 : decode prog_81_method_1_code 0 = .ok (.aload_n 0, 1) := by decide +kernel
theorem d1_1 : decode prog_81_method_1_code 1 = .ok (.iload_n 1, 1) := by decide +kernel
theorem d1_2 : decode prog_81_method_1_code 2 = .ok (.invokespecial 3, 3) := by decide +kernel
theorem d1_5 : decode prog_81_method_1_code 5 = .ok (.aload_n 0, 1) := by decide +kernel
theorem d1_6 : decode prog_81_method_1_code 6 = .ok (.bipush 65, 2) := by decide +kernel
theorem d1_8 : decode prog_81_method_1_code 8 = .ok (.anewarray 4, 3) := by decide +kernel
theorem d1_11 : decode prog_81_method_1_code 11 = .ok (.putfield 9, 3) := by decide +kernel
theorem d1_14 : decode prog_81_method_1_code 14 = .ok (.aload_n 0, 1) := by decide +kernel
theorem d1_15 : decode prog_81_method_1_code 15 = .ok (.bipush 65, 2) := by decide +kernel
theorem d1_17 : decode prog_81_method_1_code 17 = .ok (.newarray .long, 2) := by decide +kernel
theorem d1_19 : decode prog_81_method_1_code 19 = .ok (.putfield 15, 3) := by decide +kernel
theorem d1_22 : decode prog_81_method_1_code 22 = .ok (.aload_n 0, 1) := by decide +kernel
theorem d1_23 : decode prog_81_method_1_code 23 = .ok (.bipush 65, 2) := by decide +kernel
theorem d1_25 : decode prog_81_method_1_code 25 = .ok (.newarray .long, 2) := by decide +kernel
theorem d1_27 : decode prog_81_method_1_code 27 = .ok (.putfield 19, 3) := by decide +kernel
theorem d1_30 : decode prog_81_method_1_code 30 = .ok (.return_, 1) := by decide +kernel
theorem pn_1 : plainName "com/example/rootkeep/rootkeep/object/SortedTree$Inner" = true := by first | (simp [plainName, overriddenIn]; done) | decide +kernel
theorem pd_1_0 : parseMethodDescriptor "(I)V" = some ⟨[.int], none⟩ := by decide +kernel
theorem ef_1 (m : MethodId) (x0 : Addr) (x1 : Int32) : entryFrame m #[(.ref x0), (.int x1)] 2 = mkF m 0 #[.val (.ref x0), .val (.int x1)] [] := by first | (simp [entryFrame, mkF, argsToLocals, Value.category]; done) | rfl
def Q1 (Z : State) (aa : Addr) (gn : Int32) (h0 : Heap) (n0 : Nat) (v : Option Value) (h : Heap) (L : List Loc) : Prop := ∃ bz : Addr, v = none ∧ Fr n0 L ∧ Keep h0 h [aa] ∧ Fld Z h aa "com/example/rootkeep/rootkeep/object/SortedTree$Inner" "sizes" "[J" (.ref bz) ∧ Fld Z h aa "com/example/rootkeep/rootkeep/object/SortedTree$Node" "count" "I" (.int (0 : Int32)) ∧ n0 ≤ bz ∧ AryJ Z h bz 65 (fun _ => (0 : Int64)) ∧ aa ≠ bz
set_option maxRecDepth 65536 in
set_option maxHeartbeats 40000000 in
theorem rm1 (l : Launch) (Z : State) (a0 : Array Value) (hw : ∀ d ∈ tables_1, d.before a0 Z = true) (ws : List Jvm.Cond) (aa : Addr) (gn : Int32) (h0 : Heap) (n0 : Nat) (Z0 : n0 ≤ h0.size) (F_generation_aa : Fld Z h0 aa "com/example/rootkeep/rootkeep/object/SortedTree$Node" "generation" "I" (.int (0 : Int32))) (F_keys_aa : Fld Z h0 aa "com/example/rootkeep/rootkeep/object/SortedTree$Node" "keys" "[Ljava/lang/Object;" .null) (F_children_aa : Fld Z h0 aa "com/example/rootkeep/rootkeep/object/SortedTree$Inner" "children" "[Lcom/example/rootkeep/rootkeep/object/SortedTree$Node;" .null) (F_childIds_aa : Fld Z h0 aa "com/example/rootkeep/rootkeep/object/SortedTree$Inner" "childIds" "[J" .null) (F_sizes_aa : Fld Z h0 aa "com/example/rootkeep/rootkeep/object/SortedTree$Inner" "sizes" "[J" .null) (F_count_aa : Fld Z h0 aa "com/example/rootkeep/rootkeep/object/SortedTree$Node" "count" "I" (.int (0 : Int32))) (E_aa : Exa Z h0 aa "com/example/rootkeep/rootkeep/object/SortedTree$Inner") (g_aa : n0 ≤ aa) :
    MetFree l (⟨"com/example/rootkeep/rootkeep/object/SortedTree$Inner", "<init>", "(I)V"⟩ : MethodName) (head1 (Jvm.Cond.code (⟨"com/example/rootkeep/rootkeep/object/SortedTree$Inner", "<init>", "(I)V"⟩ : MethodName) prog_81_method_1_code 2 none :: ws) ({ frames := 2, cells := 4, slots := 260, locals := 25 } : Room)) (fun a U => a = #[(.ref aa), (.int gn)] ∧ Z.Warmed39 U.vm ∧ U.heap = h0) (fun _ _ _ _ _ => True) (fun _ U o U' => ∃ v L, o = .returned v ∧ Q1 Z aa gn h0 n0 v U'.heap L ∧ FrameEnd U o U' L ({ frames := 2, cells := 4, slots := 260, locals := 25 } : Room).cells ({ frames := 2, cells := 4, slots := 260, locals := 25 } : Room).slots) := by
  refine MetFree.of_bodySF (plainFor_of_name pn_1) hisR ?_
  intro p e s m args below meth c s₁ Bd hml0 hP hK
  obtain ⟨rfl, hZ, hh⟩ := hP
  have hx := Bd.exec
  have hby := Bd.bytes
  have hml : c.maxLocals = 2 := hml0
  have hown : s.vm.findClass "com/example/rootkeep/rootkeep/object/SortedTree$Inner" = some m.cls := findClass_of_methodNamed Bd.named
  have hnm := (name_of_methodNamed Bd.named Bd.method).1
  have X0 : Stand p l e ({ frames := 2, cells := 4, slots := 260, locals := 25 } : Room) s m #[(.ref aa), (.int gn)] below meth c s₁ [] 0 0 := Stand.of_body Bd
  have e0 : s₁.heap = h0 := by rw [← hh, Bd.state]; rfl
  have N0 := Fr.nil n0
  have K0 := Keep.refl h0 ([aa] : List Addr)
  show Go p e below s (Q1 Z aa gn h0 n0) ({ frames := 2, cells := 4, slots := 260, locals := 25 } : Room).cells ({ frames := 2, cells := 4, slots := 260, locals := 25 } : Room).slots (s₁.setTop (entryFrame m #[(.ref aa), (.int gn)] 2))
  rw [ef_1]
  show Go _ _ _ _ _ _ _ (s₁.setTop (mkF m 0 #[.val (.ref aa), .val (.int gn)] []))
  refine Go.step (fun t k => XS.aloadN X0.here hx rfl (hb hby d1_0) rfl rfl k) ?_
  show Go _ _ _ _ _ _ _ (s₁.setTop (mkF m 1 #[.val (.ref aa), .val (.int gn)] [(.ref aa)]))
  refine Go.step (fun t k => XS.iloadN X0.here hx rfl (hb hby d1_1) rfl k) ?_
  show Go _ _ _ _ _ _ _ (s₁.setTop (mkF m 2 #[.val (.ref aa), .val (.int gn)] [(.int gn), (.ref aa)]))
  obtain ⟨_, _, ⟨T1, L1, k1, n1⟩, -, X1, ⟨Lc1, hQ1, l1, y1, z1⟩, st1⟩ := X0.specialBack hx (y := (⟨"com/example/rootkeep/rootkeep/object/SortedTree$Node", "<init>", "(I)V"⟩ : MethodName)) rfl hown (mvT hZ (hw _ (List.mem_of_getElem? (i := 7) rfl))) (mvT hZ (hw _ (List.mem_of_getElem? (i := 8) rfl))) (mvT hZ (hw _ (List.mem_of_getElem? (i := 11) rfl))) (by decide) (backOf (W := 0) (rm2 l Z a0 hw [] aa gn h0 n0 Z0 F_generation_aa F_keys_aa F_children_aa F_childIds_aa F_sizes_aa F_count_aa E_aa g_aa) hZ (hw _ (List.mem_of_getElem? (i := 11) rfl)) (hw _ (List.mem_of_getElem? (i := 10) rfl)) (by decide) (by decide)) (g := (mkF m 2 #[.val (.ref aa), .val (.int gn)] [(.int gn), (.ref aa)])) rfl (by rw [hml]; rfl) (Steps.refl _) (a := aa) (argsL := [(.int gn)]) (rest := []) (lenOf pd_1_0 rfl) rfl (by show 2 * 0 + _ ≤ _; exact Nat.le_of_eq rfl) (hb hby d1_2) (fun _ _ => ⟨rfl, e0, (by decide : 0 + 1 ≤ _), (by decide : 0 + 65 ≤ _)⟩)
  dsimp only [Pt.U, Pt.locs, Pt.cells, Pt.slots] at X1 l1 y1 z1 st1 hQ1
  subst l1 y1 z1
  obtain ⟨bk_1, rfl, N1q, K1q, o1_F_generation_aa, o1_F_keys_aa, o1_F_children_aa, o1_F_childIds_aa, o1_F_sizes_aa, o1_F_count_aa⟩ := hQ1
  have N1 := Fr.app N0 N1q
  replace E_aa := E_aa.keep K1q
  have Z1 := Nat.le_trans Z0 K1q.1
  have K1' := K0.trans K1q (allS (Or.inl (List.mem_of_getElem? (i := 0) rfl)) all0)
  have F_generation_aa := o1_F_generation_aa
  have F_keys_aa := o1_F_keys_aa
  have F_children_aa := o1_F_children_aa
  have F_childIds_aa := o1_F_childIds_aa
  have F_sizes_aa := o1_F_sizes_aa
  have F_count_aa := o1_F_count_aa
  refine Go.step (fun t k => st1.trans k) ?_
  show Go _ _ _ _ _ _ _ (T1.setTop (mkF m 5 #[.val (.ref aa), .val (.int gn)] []))
  refine Go.step (fun t k => XS.aloadN X1.here hx rfl (hb hby d1_5) rfl rfl k) ?_
  show Go _ _ _ _ _ _ _ (T1.setTop (mkF m 6 #[.val (.ref aa), .val (.int gn)] [(.ref aa)]))
  refine Go.step (fun t k => XS.bipush X1.here hx rfl (hb hby d1_6) k) ?_
  show Go _ _ _ _ _ _ _ (T1.setTop (mkF m 8 #[.val (.ref aa), .val (.int gn)] [(.int (65 : Int32)), (.ref aa)]))
  obtain ⟨T2, h2, k2, X2, e2, E2, A2, O2, st2⟩ := newR X1 hx hZ hown (hw _ (List.mem_of_getElem? (i := 21) rfl)) (hw _ (List.mem_of_getElem? (i := 22) rfl)) rfl (g := (mkF m 8 #[.val (.ref aa), .val (.int gn)] [(.int (65 : Int32)), (.ref aa)])) rfl (hb hby d1_8) rfl (by decide) (cap := 65) (by decide) (by decide) (by decide) (by decide)
  obtain ⟨bc, gz2⟩ : ∃ z, z = T1.heap.size := ⟨_, rfl⟩
  have ne_aa_bc : aa ≠ bc := Nat.ne_of_lt (Nat.lt_of_lt_of_le E_aa.lt (Nat.le_of_eq gz2.symm))
  have g_bc : n0 ≤ bc := Nat.le_trans Z1 (Nat.le_of_eq gz2.symm)
  have sz_bc : h0.size ≤ bc := Nat.le_trans K1'.1 (Nat.le_of_eq gz2.symm)
  rw [← gz2] at A2 st2
  replace E_aa := E_aa.ext E2
  replace F_generation_aa := F_generation_aa.ext E2
  replace F_keys_aa := F_keys_aa.ext E2
  replace F_children_aa := F_children_aa.ext E2
  replace F_childIds_aa := F_childIds_aa.ext E2
  replace F_sizes_aa := F_sizes_aa.ext E2
  replace F_count_aa := F_count_aa.ext E2
  have Z2 := Nat.le_trans Z1 E2.1
  have K2 := K1'.ext E2
  have A_bc : Ary Z h2 bc (.object "com/example/rootkeep/rootkeep/object/SortedTree$Node") 65 (fun _ => .null) := Ary.new A2 rfl
  refine Go.step st2 ?_
  show Go _ _ _ _ _ _ _ (T2.setTop (mkF m 11 #[.val (.ref aa), .val (.int gn)] [(.ref bc), (.ref aa)]))
  obtain ⟨T3, h3, X3, e3, W3, st3⟩ := putF X2 hx hZ hown (host := "") (Or.inl (hw _ (List.mem_of_getElem? (i := 23) rfl))) Via.refl e2 F_children_aa E_aa (Or.inr ⟨(hw _ (List.mem_of_getElem? (i := 24) rfl)), rfl, hnm⟩) (hw _ (List.mem_of_getElem? (i := 2) rfl)) (ty := (.array (.object "com/example/rootkeep/rootkeep/object/SortedTree$Node"))) (by decide) rfl rfl (g := (mkF m 11 #[.val (.ref aa), .val (.int gn)] [(.ref bc), (.ref aa)])) rfl rfl (hb hby d1_11)
  replace E_aa := E_aa.wr W3
  replace F_generation_aa := F_generation_aa.other W3 (Or.inr (slot_ne (Or.inr (hw _ (List.mem_of_getElem? (i := 16) rfl))) (Or.inr (hw _ (List.mem_of_getElem? (i := 24) rfl))) (by decide) (t := .int) (t' := (.array (.object "com/example/rootkeep/rootkeep/object/SortedTree$Node"))) (by decide) (by decide)))
  replace F_keys_aa := F_keys_aa.other W3 (Or.inr (slot_ne (Or.inr (hw _ (List.mem_of_getElem? (i := 20) rfl))) (Or.inr (hw _ (List.mem_of_getElem? (i := 24) rfl))) (by decide) (t := (.array (.object "java/lang/Object"))) (t' := (.array (.object "com/example/rootkeep/rootkeep/object/SortedTree$Node"))) (by decide) (by decide)))
  replace F_childIds_aa := F_childIds_aa.other W3 (Or.inr (slot_ne (Or.inr (hw _ (List.mem_of_getElem? (i := 27) rfl))) (Or.inr (hw _ (List.mem_of_getElem? (i := 24) rfl))) (by decide) (t := (.array .long)) (t' := (.array (.object "com/example/rootkeep/rootkeep/object/SortedTree$Node"))) (by decide) (by decide)))
  replace F_sizes_aa := F_sizes_aa.other W3 (Or.inr (slot_ne (Or.inr (hw _ (List.mem_of_getElem? (i := 29) rfl))) (Or.inr (hw _ (List.mem_of_getElem? (i := 24) rfl))) (by decide) (t := (.array .long)) (t' := (.array (.object "com/example/rootkeep/rootkeep/object/SortedTree$Node"))) (by decide) (by decide)))
  replace F_count_aa := F_count_aa.other W3 (Or.inr (slot_ne (Or.inl (hw _ (List.mem_of_getElem? (i := 33) rfl))) (Or.inr (hw _ (List.mem_of_getElem? (i := 24) rfl))) (by decide) (t := .int) (t' := (.array (.object "com/example/rootkeep/rootkeep/object/SortedTree$Node"))) (by decide) (by decide)))
  replace A_bc := A_bc.other W3 (Ne.symm ne_aa_bc)
  have Z3 := Nat.le_trans Z2 (Keep.of_wr W3).1
  have N3 := Fr.snoc X3 N1 g_aa
  have K3 := K2.wr W3 (Or.inl (List.mem_of_getElem? (i := 0) rfl))
  replace F_children_aa := F_children_aa.same W3
  refine Go.step st3 ?_
  show Go _ _ _ _ _ _ _ (T3.setTop (mkF m 14 #[.val (.ref aa), .val (.int gn)] []))
  refine Go.step (fun t k => XS.aloadN X3.here hx rfl (hb hby d1_14) rfl rfl k) ?_
  show Go _ _ _ _ _ _ _ (T3.setTop (mkF m 15 #[.val (.ref aa), .val (.int gn)] [(.ref aa)]))
  refine Go.step (fun t k => XS.bipush X3.here hx rfl (hb hby d1_15) k) ?_
  show Go _ _ _ _ _ _ _ (T3.setTop (mkF m 17 #[.val (.ref aa), .val (.int gn)] [(.int (65 : Int32)), (.ref aa)]))
  obtain ⟨T4, h4, k4, X4, e4, E4, A4, st4⟩ := newP X3 hx hZ (hw _ (List.mem_of_getElem? (i := 25) rfl)) e3 (g := (mkF m 17 #[.val (.ref aa), .val (.int gn)] [(.int (65 : Int32)), (.ref aa)])) rfl (hb hby d1_17) rfl (by decide) (cap := 65) (by decide) (by decide) (by decide) (by decide)
  obtain ⟨bi, gz4⟩ : ∃ z, z = h3.size := ⟨_, rfl⟩
  have ne_aa_bi : aa ≠ bi := Nat.ne_of_lt (Nat.lt_of_lt_of_le E_aa.lt (Nat.le_of_eq gz4.symm))
  have ne_bc_bi : bc ≠ bi := Nat.ne_of_lt (Nat.lt_of_lt_of_le A_bc.lt (Nat.le_of_eq gz4.symm))
  have g_bi : n0 ≤ bi := Nat.le_trans Z3 (Nat.le_of_eq gz4.symm)
  have sz_bi : h0.size ≤ bi := Nat.le_trans K3.1 (Nat.le_of_eq gz4.symm)
  rw [← gz4] at A4 st4
  replace E_aa := E_aa.ext E4
  replace F_generation_aa := F_generation_aa.ext E4
  replace F_keys_aa := F_keys_aa.ext E4
  replace F_children_aa := F_children_aa.ext E4
  replace F_childIds_aa := F_childIds_aa.ext E4
  replace F_sizes_aa := F_sizes_aa.ext E4
  replace F_count_aa := F_count_aa.ext E4
  replace A_bc := A_bc.ext E4
  have Z4 := Nat.le_trans Z3 E4.1
  have K4 := K3.ext E4
  have A_bi : AryJ Z h4 bi 65 (fun _ => (0 : Int64)) := Ary.new A4 rfl
  refine Go.step st4 ?_
  show Go _ _ _ _ _ _ _ (T4.setTop (mkF m 19 #[.val (.ref aa), .val (.int gn)] [(.ref bi), (.ref aa)]))
  obtain ⟨T5, h5, X5, e5, W5, st5⟩ := putF X4 hx hZ hown (host := "") (Or.inl (hw _ (List.mem_of_getElem? (i := 26) rfl))) Via.refl e4 F_childIds_aa E_aa (Or.inr ⟨(hw _ (List.mem_of_getElem? (i := 27) rfl)), rfl, hnm⟩) (hw _ (List.mem_of_getElem? (i := 2) rfl)) (ty := (.array .long)) (by decide) rfl rfl (g := (mkF m 19 #[.val (.ref aa), .val (.int gn)] [(.ref bi), (.ref aa)])) rfl rfl (hb hby d1_19)
  replace E_aa := E_aa.wr W5
  replace F_generation_aa := F_generation_aa.other W5 (Or.inr (slot_ne (Or.inr (hw _ (List.mem_of_getElem? (i := 16) rfl))) (Or.inr (hw _ (List.mem_of_getElem? (i := 27) rfl))) (by decide) (t := .int) (t' := (.array .long)) (by decide) (by decide)))
  replace F_keys_aa := F_keys_aa.other W5 (Or.inr (slot_ne (Or.inr (hw _ (List.mem_of_getElem? (i := 20) rfl))) (Or.inr (hw _ (List.mem_of_getElem? (i := 27) rfl))) (by decide) (t := (.array (.object "java/lang/Object"))) (t' := (.array .long)) (by decide) (by decide)))
  replace F_children_aa := F_children_aa.other W5 (Or.inr (slot_ne (Or.inr (hw _ (List.mem_of_getElem? (i := 24) rfl))) (Or.inr (hw _ (List.mem_of_getElem? (i := 27) rfl))) (by decide) (t := (.array (.object "com/example/rootkeep/rootkeep/object/SortedTree$Node"))) (t' := (.array .long)) (by decide) (by decide)))
  replace F_sizes_aa := F_sizes_aa.other W5 (Or.inr (slot_ne (Or.inr (hw _ (List.mem_of_getElem? (i := 29) rfl))) (Or.inr (hw _ (List.mem_of_getElem? (i := 27) rfl))) (by decide) (t := (.array .long)) (t' := (.array .long)) (by decide) (by decide)))
  replace F_count_aa := F_count_aa.other W5 (Or.inr (slot_ne (Or.inl (hw _ (List.mem_of_getElem? (i := 33) rfl))) (Or.inr (hw _ (List.mem_of_getElem? (i := 27) rfl))) (by decide) (t := .int) (t' := (.array .long)) (by decide) (by decide)))
  replace A_bc := A_bc.other W5 (Ne.symm ne_aa_bc)
  replace A_bi := A_bi.other W5 (Ne.symm ne_aa_bi)
  have Z5 := Nat.le_trans Z4 (Keep.of_wr W5).1
  have N5 := Fr.snoc X5 N3 g_aa
  have K5 := K4.wr W5 (Or.inl (List.mem_of_getElem? (i := 0) rfl))
  replace F_childIds_aa := F_childIds_aa.same W5
  refine Go.step st5 ?_
  show Go _ _ _ _ _ _ _ (T5.setTop (mkF m 22 #[.val (.ref aa), .val (.int gn)] []))
  refine Go.step (fun t k => XS.aloadN X5.here hx rfl (hb hby d1_22) rfl rfl k) ?_
  show Go _ _ _ _ _ _ _ (T5.setTop (mkF m 23 #[.val (.ref aa), .val (.int gn)] [(.ref aa)]))
  refine Go.step (fun t k => XS.bipush X5.here hx rfl (hb hby d1_23) k) ?_
  show Go _ _ _ _ _ _ _ (T5.setTop (mkF m 25 #[.val (.ref aa), .val (.int gn)] [(.int (65 : Int32)), (.ref aa)]))
  obtain ⟨T6, h6, k6, X6, e6, E6, A6, st6⟩ := newP X5 hx hZ (hw _ (List.mem_of_getElem? (i := 25) rfl)) e5 (g := (mkF m 25 #[.val (.ref aa), .val (.int gn)] [(.int (65 : Int32)), (.ref aa)])) rfl (hb hby d1_25) rfl (by decide) (cap := 65) (by decide) (by decide) (by decide) (by decide)
  obtain ⟨bz, gz6⟩ : ∃ z, z = h5.size := ⟨_, rfl⟩
  have ne_aa_bz : aa ≠ bz := Nat.ne_of_lt (Nat.lt_of_lt_of_le E_aa.lt (Nat.le_of_eq gz6.symm))
  have ne_bc_bz : bc ≠ bz := Nat.ne_of_lt (Nat.lt_of_lt_of_le A_bc.lt (Nat.le_of_eq gz6.symm))
  have ne_bi_bz : bi ≠ bz := Nat.ne_of_lt (Nat.lt_of_lt_of_le A_bi.lt (Nat.le_of_eq gz6.symm))
  have g_bz : n0 ≤ bz := Nat.le_trans Z5 (Nat.le_of_eq gz6.symm)
  have sz_bz : h0.size ≤ bz := Nat.le_trans K5.1 (Nat.le_of_eq gz6.symm)
  rw [← gz6] at A6 st6
  replace E_aa := E_aa.ext E6
  replace F_generation_aa := F_generation_aa.ext E6
  replace F_keys_aa := F_keys_aa.ext E6
  replace F_children_aa := F_children_aa.ext E6
  replace F_childIds_aa := F_childIds_aa.ext E6
  replace F_sizes_aa := F_sizes_aa.ext E6
  replace F_count_aa := F_count_aa.ext E6
  replace A_bc := A_bc.ext E6
  replace A_bi := A_bi.ext E6
  have Z6 := Nat.le_trans Z5 E6.1
  have K6 := K5.ext E6
  have A_bz : AryJ Z h6 bz 65 (fun _ => (0 : Int64)) := Ary.new A6 rfl
  refine Go.step st6 ?_
  show Go _ _ _ _ _ _ _ (T6.setTop (mkF m 27 #[.val (.ref aa), .val (.int gn)] [(.ref bz), (.ref aa)]))
  obtain ⟨T7, h7, X7, e7, W7, st7⟩ := putF X6 hx hZ hown (host := "") (Or.inl (hw _ (List.mem_of_getElem? (i := 28) rfl))) Via.refl e6 F_sizes_aa E_aa (Or.inr ⟨(hw _ (List.mem_of_getElem? (i := 29) rfl)), rfl, hnm⟩) (hw _ (List.mem_of_getElem? (i := 2) rfl)) (ty := (.array .long)) (by decide) rfl rfl (g := (mkF m 27 #[.val (.ref aa), .val (.int gn)] [(.ref bz), (.ref aa)])) rfl rfl (hb hby d1_27)
  replace E_aa := E_aa.wr W7
  replace F_generation_aa := F_generation_aa.other W7 (Or.inr (slot_ne (Or.inr (hw _ (List.mem_of_getElem? (i := 16) rfl))) (Or.inr (hw _ (List.mem_of_getElem? (i := 29) rfl))) (by decide) (t := .int) (t' := (.array .long)) (by decide) (by decide)))
  replace F_keys_aa := F_keys_aa.other W7 (Or.inr (slot_ne (Or.inr (hw _ (List.mem_of_getElem? (i := 20) rfl))) (Or.inr (hw _ (List.mem_of_getElem? (i := 29) rfl))) (by decide) (t := (.array (.object "java/lang/Object"))) (t' := (.array .long)) (by decide) (by decide)))
  replace F_children_aa := F_children_aa.other W7 (Or.inr (slot_ne (Or.inr (hw _ (List.mem_of_getElem? (i := 24) rfl))) (Or.inr (hw _ (List.mem_of_getElem? (i := 29) rfl))) (by decide) (t := (.array (.object "com/example/rootkeep/rootkeep/object/SortedTree$Node"))) (t' := (.array .long)) (by decide) (by decide)))
  replace F_childIds_aa := F_childIds_aa.other W7 (Or.inr (slot_ne (Or.inr (hw _ (List.mem_of_getElem? (i := 27) rfl))) (Or.inr (hw _ (List.mem_of_getElem? (i := 29) rfl))) (by decide) (t := (.array .long)) (t' := (.array .long)) (by decide) (by decide)))
  replace F_count_aa := F_count_aa.other W7 (Or.inr (slot_ne (Or.inl (hw _ (List.mem_of_getElem? (i := 33) rfl))) (Or.inr (hw _ (List.mem_of_getElem? (i := 29) rfl))) (by decide) (t := .int) (t' := (.array .long)) (by decide) (by decide)))
  replace A_bc := A_bc.other W7 (Ne.symm ne_aa_bc)
  replace A_bi := A_bi.other W7 (Ne.symm ne_aa_bi)
  replace A_bz := A_bz.other W7 (Ne.symm ne_aa_bz)
  have Z7 := Nat.le_trans Z6 (Keep.of_wr W7).1
  have N7 := Fr.snoc X7 N5 g_aa
  have K7 := K6.wr W7 (Or.inl (List.mem_of_getElem? (i := 0) rfl))
  replace F_sizes_aa := F_sizes_aa.same W7
  refine Go.step st7 ?_
  show Go _ _ _ _ _ _ _ (T7.setTop (mkF m 30 #[.val (.ref aa), .val (.int gn)] []))
  refine Go.retV X7 Bd.notSynchronized hx Bd.returns (hb hby d1_30) (by decide) (by decide) ?_
  rw [e7]
  exact ⟨bz, rfl, N7, K7, F_sizes_aa, F_count_aa, g_bz, A_bz, ne_aa_bz⟩
theorem d4_0 : decode prog_81_method_5_code 0 = .ok (.lconst 0, 1) := by decide +kernel
theorem d4_1 : decode prog_81_method_5_code 1 = .ok (.lstore_n 1, 1) := by decide +kernel
theorem d4_2 : decode prog_81_method_5_code 2 = .ok (.iconst 0, 1) := by decide +kernel
theorem d4_3 : decode prog_81_method_5_code 3 = .ok (.istore_n 3, 1) := by decide +kernel
theorem d4_4 : decode prog_81_method_5_code 4 = .ok (.iload_n 3, 1) := by decide +kernel
theorem d4_5 : decode prog_81_method_5_code 5 = .ok (.aload_n 0, 1) := by decide +kernel
theorem d4_6 : decode prog_81_method_5_code 6 = .ok (.getfield 30, 3) := by decide +kernel
theorem d4_9 : decode prog_81_method_5_code 9 = .ok (.if_icmp .ge 18, 3) := by decide +kernel
theorem d4_12 : decode prog_81_method_5_code 12 = .ok (.lload_n 1, 1) := by decide +kernel
theorem d4_13 : decode prog_81_method_5_code 13 = .ok (.aload_n 0, 1) := by decide +kernel
theorem d4_14 : decode prog_81_method_5_code 14 = .ok (.getfield 19, 3) := by decide +kernel
theorem d4_17 : decode prog_81_method_5_code 17 = .ok (.iload_n 3, 1) := by decide +kernel
theorem d4_18 : decode prog_81_method_5_code 18 = .ok (.laload, 1) := by decide +kernel
theorem d4_19 : decode prog_81_method_5_code 19 = .ok (.ladd, 1) := by decide +kernel
theorem d4_20 : decode prog_81_method_5_code 20 = .ok (.lstore_n 1, 1) := by decide +kernel
theorem d4_21 : decode prog_81_method_5_code 21 = .ok (.iinc 3 1, 3) := by decide +kernel
theorem d4_24 : decode prog_81_method_5_code 24 = .ok (.goto (-20), 3) := by decide +kernel
theorem d4_27 : decode prog_81_method_5_code 27 = .ok (.lload_n 1, 1) := by decide +kernel
theorem d4_28 : decode prog_81_method_5_code 28 = .ok (.lreturn, 1) := by decide +kernel
theorem pn_4 : plainName "com/example/rootkeep/rootkeep/object/SortedTree$Inner" = true := by first | (simp [plainName, overriddenIn]; done) | decide +kernel
theorem ef_4 (m : MethodId) (x0 : Addr) : entryFrame m #[(.ref x0)] 4 = mkF m 0 #[.val (.ref x0), .unset, .unset, .unset] [] := by first | (simp [entryFrame, mkF, argsToLocals, Value.category]; done) | rfl
def Q4 (Z : State) (aa : Addr) (cv : Int32) (bz : Addr) (ff : Nat → Int64) (cn : Nat) (h0 : Heap) (n0 : Nat) (v : Option Value) (h : Heap) (L : List Loc) : Prop := v = some (.long (own_sum ff cn)) ∧ Fr n0 L ∧ h = h0
set_option maxRecDepth 65536 in
set_option maxHeartbeats 40000000 in
theorem rm4 (l : Launch) (Z : State) (a0 : Array Value) (hw : ∀ d ∈ tables_1, d.before a0 Z = true) (ws : List Jvm.Cond) (aa : Addr) (cv : Int32) (bz : Addr) (ff : Nat → Int64) (cn : Nat) (h0 : Heap) (n0 : Nat) (Z0 : n0 ≤ h0.size) (F_count_aa : Fld Z h0 aa "com/example/rootkeep/rootkeep/object/SortedTree$Node" "count" "I" (.int cv)) (F_sizes_aa : Fld Z h0 aa "com/example/rootkeep/rootkeep/object/SortedTree$Inner" "sizes" "[J" (.ref bz)) (A_bz : AryJ Z h0 bz 65 ff) (hcn : (cv.toInt = (cn : Int))) (hle : (cn ≤ 65)) :
    MetFree l (⟨"com/example/rootkeep/rootkeep/object/SortedTree$Inner", "entries", "()J"⟩ : MethodName) (head1 (Jvm.Cond.code (⟨"com/example/rootkeep/rootkeep/object/SortedTree$Inner", "entries", "()J"⟩ : MethodName) prog_81_method_5_code 4 (some .long) :: ws) ({ frames := 0, cells := 0, slots := 0, locals := 0 } : Room)) (fun a U => a = #[(.ref aa)] ∧ Z.Warmed39 U.vm ∧ U.heap = h0) (fun _ _ _ _ _ => True) (fun _ U o U' => ∃ v L, o = .returned v ∧ Q4 Z aa cv bz ff cn h0 n0 v U'.heap L ∧ FrameEnd U o U' L ({ frames := 0, cells := 0, slots := 0, locals := 0 } : Room).cells ({ frames := 0, cells := 0, slots := 0, locals := 0 } : Room).slots) := by
  refine MetFree.of_bodySF (plainFor_of_name pn_4) hisR ?_
  intro p e s m args below meth c s₁ Bd hml0 hP hK
  obtain ⟨rfl, hZ, hh⟩ := hP
  have hx := Bd.exec
  have hby := Bd.bytes
  have hml : c.maxLocals = 4 := hml0
  have hown : s.vm.findClass "com/example/rootkeep/rootkeep/object/SortedTree$Inner" = some m.cls := findClass_of_methodNamed Bd.named
  have hnm := (name_of_methodNamed Bd.named Bd.method).1
  have X0 : Stand p l e ({ frames := 0, cells := 0, slots := 0, locals := 0 } : Room) s m #[(.ref aa)] below meth c s₁ [] 0 0 := Stand.of_body Bd
  have e0 : s₁.heap = h0 := by rw [← hh, Bd.state]; rfl
  have N0 := Fr.nil n0
  show Go p e below s (Q4 Z aa cv bz ff cn h0 n0) ({ frames := 0, cells := 0, slots := 0, locals := 0 } : Room).cells ({ frames := 0, cells := 0, slots := 0, locals := 0 } : Room).slots (s₁.setTop (entryFrame m #[(.ref aa)] 4))
  rw [ef_4]
  show Go _ _ _ _ _ _ _ (s₁.setTop (mkF m 0 #[.val (.ref aa), .unset, .unset, .unset] []))
  refine Go.step (fun t k => XS.lconst X0.here hx rfl (hb hby d4_0) k) ?_
  show Go _ _ _ _ _ _ _ (s₁.setTop (mkF m 1 #[.val (.ref aa), .unset, .unset, .unset] [(.long (0 : Int64))]))
  refine Go.step (fun t k => XS.lstoreN X0.here hx rfl (hb hby d4_1) rfl (l' := #[.val (.ref aa), .val (.long (0 : Int64)), .second, .unset]) rfl k) ?_
  show Go _ _ _ _ _ _ _ (s₁.setTop (mkF m 2 #[.val (.ref aa), .val (.long (0 : Int64)), .second, .unset] []))
  refine Go.step (fun t k => XS.iconst X0.here hx rfl (hb hby d4_2) k) ?_
  show Go _ _ _ _ _ _ _ (s₁.setTop (mkF m 3 #[.val (.ref aa), .val (.long (0 : Int64)), .second, .unset] [(.int (0 : Int32))]))
  refine Go.step (fun t k => XS.istoreN X0.here hx rfl (hb hby d4_3) rfl (l' := #[.val (.ref aa), .val (.long (0 : Int64)), .second, .val (.int (0 : Int32))]) rfl k) ?_
  show Go _ _ _ _ _ _ _ (s₁.setTop (mkF m 4 #[.val (.ref aa), .val (.long (0 : Int64)), .second, .val (.int (0 : Int32))] []))
  have loop : ∀ (d i : Nat) (iv : Int32) (T : State), i + d = cn → iv.toInt = (i : Int) → Stand p l e ({ frames := 0, cells := 0, slots := 0, locals := 0 } : Room) s m #[(.ref aa)] below meth c T [] 0 0 → T.heap = h0 → Go p e below s (Q4 Z aa cv bz ff cn h0 n0) ({ frames := 0, cells := 0, slots := 0, locals := 0 } : Room).cells ({ frames := 0, cells := 0, slots := 0, locals := 0 } : Room).slots (T.setTop (mkF m 4 #[.val (.ref aa), .val (.long (own_sum ff i)), .second, .val (.int iv)] [])) := by
    intro d
    induction d with
    | zero =>
      intro i iv T hd hi X eT
      show Go _ _ _ _ _ _ _ (T.setTop (mkF m 4 #[.val (.ref aa), .val (.long (own_sum ff i)), .second, .val (.int iv)] []))
      refine Go.step (fun t k => XS.iloadN X.here hx rfl (hb hby d4_4) rfl k) ?_
      show Go _ _ _ _ _ _ _ (T.setTop (mkF m 5 #[.val (.ref aa), .val (.long (own_sum ff i)), .second, .val (.int iv)] [(.int iv)]))
      refine Go.step (fun t k => XS.aloadN X.here hx rfl (hb hby d4_5) rfl rfl k) ?_
      show Go _ _ _ _ _ _ _ (T.setTop (mkF m 6 #[.val (.ref aa), .val (.long (own_sum ff i)), .second, .val (.int iv)] [(.ref aa), (.int iv)]))
      obtain ⟨T1, X1, e1, st1⟩ := getF X hx hZ hown (host := "") (Or.inl (hw _ (List.mem_of_getElem? (i := 39) rfl))) (Via.of (hw _ (List.mem_of_getElem? (i := 32) rfl))) eT F_count_aa (g := (mkF m 6 #[.val (.ref aa), .val (.long (own_sum ff i)), .second, .val (.int iv)] [(.ref aa), (.int iv)])) rfl rfl (hb hby d4_6)
      refine Go.step st1 ?_
      show Go _ _ _ _ _ _ _ (T1.setTop (mkF m 9 #[.val (.ref aa), .val (.long (own_sum ff i)), .second, .val (.int iv)] [(.int cv), (.int iv)]))
      refine Go.step (fun t k => XS.icmpYes X1.here hx rfl (pc0 := 9) (pc' := 27) rfl (hb hby d4_9) rfl (flt (own_ge hi hcn (by omega) : ¬ iv < cv)).2.1 (by decide) (by decide) k) ?_
      show Go _ _ _ _ _ _ _ (T1.setTop (mkF m 27 #[.val (.ref aa), .val (.long (own_sum ff i)), .second, .val (.int iv)] []))
      refine Go.step (fun t k => XS.lloadN X1.here hx rfl (hb hby d4_27) rfl k) ?_
      show Go _ _ _ _ _ _ _ (T1.setTop (mkF m 28 #[.val (.ref aa), .val (.long (own_sum ff i)), .second, .val (.int iv)] [(.long (own_sum ff i))]))
      refine Go.retJ X1 Bd.notSynchronized hx Bd.returns (hb hby d4_28) (by decide) (by decide) ?_
      rw [e1]
      exact ⟨(by rw [show i = cn by omega]), N0, rfl⟩
    | succ d ih =>
      intro i iv T hd hi X eT
      show Go _ _ _ _ _ _ _ (T.setTop (mkF m 4 #[.val (.ref aa), .val (.long (own_sum ff i)), .second, .val (.int iv)] []))
      refine Go.step (fun t k => XS.iloadN X.here hx rfl (hb hby d4_4) rfl k) ?_
      show Go _ _ _ _ _ _ _ (T.setTop (mkF m 5 #[.val (.ref aa), .val (.long (own_sum ff i)), .second, .val (.int iv)] [(.int iv)]))
      refine Go.step (fun t k => XS.aloadN X.here hx rfl (hb hby d4_5) rfl rfl k) ?_
      show Go _ _ _ _ _ _ _ (T.setTop (mkF m 6 #[.val (.ref aa), .val (.long (own_sum ff i)), .second, .val (.int iv)] [(.ref aa), (.int iv)]))
      obtain ⟨T2, X2, e2, st2⟩ := getF X hx hZ hown (host := "") (Or.inl (hw _ (List.mem_of_getElem? (i := 39) rfl))) (Via.of (hw _ (List.mem_of_getElem? (i := 32) rfl))) eT F_count_aa (g := (mkF m 6 #[.val (.ref aa), .val (.long (own_sum ff i)), .second, .val (.int iv)] [(.ref aa), (.int iv)])) rfl rfl (hb hby d4_6)
      refine Go.step st2 ?_
      show Go _ _ _ _ _ _ _ (T2.setTop (mkF m 9 #[.val (.ref aa), .val (.long (own_sum ff i)), .second, .val (.int iv)] [(.int cv), (.int iv)]))
      refine Go.step (fun t k => XS.icmpNo X2.here hx rfl (hb hby d4_9) rfl (tlt (own_ls hi hcn (by omega) : iv < cv)).2.1 k) ?_
      show Go _ _ _ _ _ _ _ (T2.setTop (mkF m 12 #[.val (.ref aa), .val (.long (own_sum ff i)), .second, .val (.int iv)] []))
      refine Go.step (fun t k => XS.lloadN X2.here hx rfl (hb hby d4_12) rfl k) ?_
      show Go _ _ _ _ _ _ _ (T2.setTop (mkF m 13 #[.val (.ref aa), .val (.long (own_sum ff i)), .second, .val (.int iv)] [(.long (own_sum ff i))]))
      refine Go.step (fun t k => XS.aloadN X2.here hx rfl (hb hby d4_13) rfl rfl k) ?_
      show Go _ _ _ _ _ _ _ (T2.setTop (mkF m 14 #[.val (.ref aa), .val (.long (own_sum ff i)), .second, .val (.int iv)] [(.ref aa), (.long (own_sum ff i))]))
      obtain ⟨T3, X3, e3, st3⟩ := getF X2 hx hZ hown (host := "") (Or.inl (hw _ (List.mem_of_getElem? (i := 28) rfl))) Via.refl e2 F_sizes_aa (g := (mkF m 14 #[.val (.ref aa), .val (.long (own_sum ff i)), .second, .val (.int iv)] [(.ref aa), (.long (own_sum ff i))])) rfl rfl (hb hby d4_14)
      refine Go.step st3 ?_
      show Go _ _ _ _ _ _ _ (T3.setTop (mkF m 17 #[.val (.ref aa), .val (.long (own_sum ff i)), .second, .val (.int iv)] [(.ref bz), (.long (own_sum ff i))]))
      refine Go.step (fun t k => XS.iloadN X3.here hx rfl (hb hby d4_17) rfl k) ?_
      show Go _ _ _ _ _ _ _ (T3.setTop (mkF m 18 #[.val (.ref aa), .val (.long (own_sum ff i)), .second, .val (.int iv)] [(.int iv), (.ref bz), (.long (own_sum ff i))]))
      refine Go.step (own_ld X3 hx hZ e3 A_bz (j := iv) i hi (by omega) (v := (.long (ff i))) rfl (Or.inr (Or.inl ⟨rfl, rfl⟩)) (f := (mkF m 18 #[.val (.ref aa), .val (.long (own_sum ff i)), .second, .val (.int iv)] [(.int iv), (.ref bz), (.long (own_sum ff i))])) rfl rfl (hb hby d4_18)) ?_
      show Go _ _ _ _ _ _ _ (T3.setTop (mkF m 19 #[.val (.ref aa), .val (.long (own_sum ff i)), .second, .val (.int iv)] [(.long (ff i)), (.long (own_sum ff i))]))
      refine Go.step (fun t k => XS.ladd X3.here hx rfl (hb hby d4_19) rfl k) ?_
      show Go _ _ _ _ _ _ _ (T3.setTop (mkF m 20 #[.val (.ref aa), .val (.long (own_sum ff i)), .second, .val (.int iv)] [(.long ((own_sum ff i) + (ff i)))]))
      refine Go.step (fun t k => XS.lstoreN X3.here hx rfl (hb hby d4_20) rfl (l' := #[.val (.ref aa), .val (.long ((own_sum ff i) + (ff i))), .second, .val (.int iv)]) rfl k) ?_
      show Go _ _ _ _ _ _ _ (T3.setTop (mkF m 21 #[.val (.ref aa), .val (.long ((own_sum ff i) + (ff i))), .second, .val (.int iv)] []))
      refine Go.step (fun t k => XS.iinc X3.here hx rfl (hb hby d4_21) rfl (l' := #[.val (.ref aa), .val (.long ((own_sum ff i) + (ff i))), .second, .val (.int (iv + (1 : Int32)))]) rfl k) ?_
      show Go _ _ _ _ _ _ _ (T3.setTop (mkF m 24 #[.val (.ref aa), .val (.long ((own_sum ff i) + (ff i))), .second, .val (.int (iv + (1 : Int32)))] []))
      refine Go.step (fun t k => XS.goto X3.here hx rfl (pc0 := 24) (pc' := 4) rfl (hb hby d4_24) (by decide) (by decide) k) ?_
      show Go _ _ _ _ _ _ _ (T3.setTop (mkF m 4 #[.val (.ref aa), .val (.long ((own_sum ff i) + (ff i))), .second, .val (.int (iv + (1 : Int32)))] []))
      have hs : own_sum ff (i + 1) = (own_sum ff i) + (ff i) := rfl
      rw [← hs]
      exact ih (i + 1) _ _ (by omega) (own_inc hi (by omega)) X3 e3
  exact loop cn 0 _ _ (by omega) rfl X0 e0
theorem pn_0 : plainName "com/example/rootkeep/rootkeep/object/InnerEntriesPinLaw" = true := by first | (simp [plainName, overriddenIn]; done) | decide +kernel
theorem pd_0_0 : parseMethodDescriptor "(I)V" = some ⟨[.int], none⟩ := by decide +kernel
theorem pd_0_1 : parseMethodDescriptor "()J" = some ⟨[], some .long⟩ := by decide +kernel
theorem ef_0 (m : MethodId) (x0 : Int32) (x1 : Int64) (x2 : Int64) (x3 : Int64) (x4 : Int64) (x5 : Int64) : entryFrame m #[(.int x0), (.long x1), (.long x2), (.long x3), (.long x4), (.long x5)] maxLocals = mkF m 0 #[.val (.int x0), .val (.long x1), .second, .val (.long x2), .second, .val (.long x3), .second, .val (.long x4), .second, .val (.long x5), .second, .unset, .unset, .unset, .unset, .unset] [] := by first | (simp [entryFrame, mkF, argsToLocals, Value.category, maxLocals]; done) | rfl
def Q0 (Z : State) (nn : Int32) (qa : Int64) (qb : Int64) (qc : Int64) (qd : Int64) (qe : Int64) (h0 : Heap) (n0 : Nat) (v : Option Value) (h : Heap) (L : List Loc) : Prop := v = some (.int (1 : Int32)) ∧ Fr n0 L
set_option maxRecDepth 65536 in
set_option maxHeartbeats 40000000 in
theorem rm0 (l : Launch) (Z : State) (a0 : Array Value) (hw : ∀ d ∈ tables_1, d.before a0 Z = true) (ws : List Jvm.Cond) (nn : Int32) (qa : Int64) (qb : Int64) (qc : Int64) (qd : Int64) (qe : Int64) (h0 : Heap) (n0 : Nat) (Z0 : n0 ≤ h0.size) :
    MetFree l x (head1 (Jvm.Cond.code x code maxLocals ret :: ws) room_1) (fun a U => a = #[(.int nn), (.long qa), (.long qb), (.long qc), (.long qd), (.long qe)] ∧ Z.Warmed39 U.vm ∧ U.heap = h0) (fun _ _ _ _ _ => True) (fun _ U o U' => ∃ v L, o = .returned v ∧ Q0 Z nn qa qb qc qd qe h0 n0 v U'.heap L ∧ FrameEnd U o U' L 24 640) := by
  refine MetFree.of_bodySF (plainFor_of_name pn_0) hisR ?_
  intro p e s m args below meth c s₁ Bd hml0 hP hK
  obtain ⟨rfl, hZ, hh⟩ := hP
  have hx := Bd.exec
  have hby := Bd.bytes
  have hml : c.maxLocals = 16 := hml0
  have hown : s.vm.findClass "com/example/rootkeep/rootkeep/object/InnerEntriesPinLaw" = some m.cls := findClass_of_methodNamed Bd.named
  have hnm := (name_of_methodNamed Bd.named Bd.method).1
  have X0 : Stand p l e room_1 s m #[(.int nn), (.long qa), (.long qb), (.long qc), (.long qd), (.long qe)] below meth c s₁ [] 0 0 := Stand.of_body Bd
  have e0 : s₁.heap = h0 := by rw [← hh, Bd.state]; rfl
  have N0 := Fr.nil n0
  show Go p e below s (Q0 Z nn qa qb qc qd qe h0 n0) 24 640 (s₁.setTop (entryFrame m #[(.int nn), (.long qa), (.long qb), (.long qc), (.long qd), (.long qe)] maxLocals))
  rw [ef_0]
  show Go _ _ _ _ _ _ _ (s₁.setTop (mkF m 0 #[.val (.int nn), .val (.long qa), .second, .val (.long qb), .second, .val (.long qc), .second, .val (.long qd), .second, .val (.long qe), .second, .unset, .unset, .unset, .unset, .unset] []))
  refine Go.step (fun t k => XS.iloadN X0.here hx rfl (hb hby at_0) rfl k) ?_
  show Go _ _ _ _ _ _ _ (s₁.setTop (mkF m 1 #[.val (.int nn), .val (.long qa), .second, .val (.long qb), .second, .val (.long qc), .second, .val (.long qd), .second, .val (.long qe), .second, .unset, .unset, .unset, .unset, .unset] [(.int nn)]))
  refine Go.step (fun t k => X0.ldcInt hx hown (mvT hZ (hw _ (List.mem_of_getElem? (i := 0) rfl))) (g := (mkF m 1 #[.val (.int nn), .val (.long qa), .second, .val (.long qb), .second, .val (.long qc), .second, .val (.long qd), .second, .val (.long qe), .second, .unset, .unset, .unset, .unset, .unset] [(.int nn)])) rfl (hb hby at_1) _ k) ?_
  show Go _ _ _ _ _ _ _ (s₁.setTop (mkF m 3 #[.val (.int nn), .val (.long qa), .second, .val (.long qb), .second, .val (.long qc), .second, .val (.long qd), .second, .val (.long qe), .second, .unset, .unset, .unset, .unset, .unset] [(.int (2147483647 : Int32)), (.int nn)]))
  refine Go.step (fun t k => XS.iand X0.here hx rfl (hb hby at_3) rfl k) ?_
  show Go _ _ _ _ _ _ _ (s₁.setTop (mkF m 4 #[.val (.int nn), .val (.long qa), .second, .val (.long qb), .second, .val (.long qc), .second, .val (.long qd), .second, .val (.long qe), .second, .unset, .unset, .unset, .unset, .unset] [(.int (nn &&& (2147483647 : Int32)))]))
  refine Go.step (fun t k => XS.bipush X0.here hx rfl (hb hby at_4) k) ?_
  show Go _ _ _ _ _ _ _ (s₁.setTop (mkF m 6 #[.val (.int nn), .val (.long qa), .second, .val (.long qb), .second, .val (.long qc), .second, .val (.long qd), .second, .val (.long qe), .second, .unset, .unset, .unset, .unset, .unset] [(.int (6 : Int32)), (.int (nn &&& (2147483647 : Int32)))]))
  refine Go.step (fun t k => iremM X0 hx rfl (hb hby at_6) rfl (by decide) k) ?_
  show Go _ _ _ _ _ _ _ (s₁.setTop (mkF m 7 #[.val (.int nn), .val (.long qa), .second, .val (.long qb), .second, .val (.long qc), .second, .val (.long qd), .second, .val (.long qe), .second, .unset, .unset, .unset, .unset, .unset] [(.int ((nn &&& (2147483647 : Int32)) % (6 : Int32)))]))
  refine Go.step (fun t k => XS.istore X0.here hx rfl (hb hby at_7) rfl (l' := #[.val (.int nn), .val (.long qa), .second, .val (.long qb), .second, .val (.long qc), .second, .val (.long qd), .second, .val (.long qe), .second, .val (.int ((nn &&& (2147483647 : Int32)) % (6 : Int32))), .unset, .unset, .unset, .unset]) rfl k) ?_
  show Go _ _ _ _ _ _ _ (s₁.setTop (mkF m 9 #[.val (.int nn), .val (.long qa), .second, .val (.long qb), .second, .val (.long qc), .second, .val (.long qd), .second, .val (.long qe), .second, .val (.int ((nn &&& (2147483647 : Int32)) % (6 : Int32))), .unset, .unset, .unset, .unset] []))
  generalize hvk : ((nn &&& (2147483647 : Int32)) % (6 : Int32)) = vk
  show Go _ _ _ _ _ _ _ (s₁.setTop (mkF m 9 #[.val (.int nn), .val (.long qa), .second, .val (.long qb), .second, .val (.long qc), .second, .val (.long qd), .second, .val (.long qe), .second, .val (.int vk), .unset, .unset, .unset, .unset] []))
  refine Go.step (fun t k => XS.iload X0.here hx rfl (hb hby at_9) rfl k) ?_
  show Go _ _ _ _ _ _ _ (s₁.setTop (mkF m 11 #[.val (.int nn), .val (.long qa), .second, .val (.long qb), .second, .val (.long qc), .second, .val (.long qd), .second, .val (.long qe), .second, .val (.int vk), .unset, .unset, .unset, .unset] [(.int vk)]))
  refine Go.step (fun t k => XS.iconst X0.here hx rfl (hb hby at_11) k) ?_
  show Go _ _ _ _ _ _ _ (s₁.setTop (mkF m 12 #[.val (.int nn), .val (.long qa), .second, .val (.long qb), .second, .val (.long qc), .second, .val (.long qd), .second, .val (.long qe), .second, .val (.int vk), .unset, .unset, .unset, .unset] [(.int (5 : Int32)), (.int vk)]))
  -- joined again at pc 22
  obtain ⟨cv, hcv⟩ : ∃ z : Int32, z = (if vk = (5 : Int32) then (64 : Int32) else vk) := ⟨_, rfl⟩
  have st1 : ∀ t, Steps p.tables e below (s₁.setTop (mkF m 22 #[.val (.int nn), .val (.long qa), .second, .val (.long qb), .second, .val (.long qc), .second, .val (.long qd), .second, .val (.long qe), .second, .val (.int vk), .unset, .unset, .unset, .unset] [(.int cv)])) t → Steps p.tables e below (s₁.setTop (mkF m 12 #[.val (.int nn), .val (.long qa), .second, .val (.long qb), .second, .val (.long qc), .second, .val (.long qd), .second, .val (.long qe), .second, .val (.int vk), .unset, .unset, .unset, .unset] [(.int (5 : Int32)), (.int vk)])) t := by
    intro t kt
    by_cases hd12_2 : vk = (5 : Int32)
    · refine XS.icmpNo X0.here hx rfl (hb hby at_12) rfl (teq hd12_2).2 ?_
      show Steps p.tables e below (s₁.setTop (mkF m 15 #[.val (.int nn), .val (.long qa), .second, .val (.long qb), .second, .val (.long qc), .second, .val (.long qd), .second, .val (.long qe), .second, .val (.int vk), .unset, .unset, .unset, .unset] [])) _
      refine XS.bipush X0.here hx rfl (hb hby at_15) ?_
      show Steps p.tables e below (s₁.setTop (mkF m 17 #[.val (.int nn), .val (.long qa), .second, .val (.long qb), .second, .val (.long qc), .second, .val (.long qd), .second, .val (.long qe), .second, .val (.int vk), .unset, .unset, .unset, .unset] [(.int (64 : Int32))])) _
      refine XS.goto X0.here hx rfl (pc0 := 17) (pc' := 22) rfl (hb hby at_17) (by decide) (by decide) ?_
      show Steps p.tables e below (s₁.setTop (mkF m 22 #[.val (.int nn), .val (.long qa), .second, .val (.long qb), .second, .val (.long qc), .second, .val (.long qd), .second, .val (.long qe), .second, .val (.int vk), .unset, .unset, .unset, .unset] [(.int (64 : Int32))])) _
      have qcv : cv = (64 : Int32) := by rw [hcv]; simp only [if_pos hd12_2]
      rw [qcv] at kt
      exact kt
    · refine XS.icmpYes X0.here hx rfl (pc0 := 12) (pc' := 20) rfl (hb hby at_12) rfl (feq hd12_2).2 (by decide) (by decide) ?_
      show Steps p.tables e below (s₁.setTop (mkF m 20 #[.val (.int nn), .val (.long qa), .second, .val (.long qb), .second, .val (.long qc), .second, .val (.long qd), .second, .val (.long qe), .second, .val (.int vk), .unset, .unset, .unset, .unset] [])) _
      refine XS.iload X0.here hx rfl (hb hby at_20) rfl ?_
      show Steps p.tables e below (s₁.setTop (mkF m 22 #[.val (.int nn), .val (.long qa), .second, .val (.long qb), .second, .val (.long qc), .second, .val (.long qd), .second, .val (.long qe), .second, .val (.int vk), .unset, .unset, .unset, .unset] [(.int vk)])) _
      have qcv : cv = vk := by rw [hcv]; simp only [if_neg hd12_2]
      rw [qcv] at kt
      exact kt
  refine Go.step st1 ?_
  show Go _ _ _ _ _ _ _ (s₁.setTop (mkF m 22 #[.val (.int nn), .val (.long qa), .second, .val (.long qb), .second, .val (.long qc), .second, .val (.long qd), .second, .val (.long qe), .second, .val (.int vk), .unset, .unset, .unset, .unset] [(.int cv)]))
  refine Go.step (fun t k => XS.istore X0.here hx rfl (hb hby at_22) rfl (l' := #[.val (.int nn), .val (.long qa), .second, .val (.long qb), .second, .val (.long qc), .second, .val (.long qd), .second, .val (.long qe), .second, .val (.int vk), .val (.int cv), .unset, .unset, .unset]) rfl k) ?_
  show Go _ _ _ _ _ _ _ (s₁.setTop (mkF m 24 #[.val (.int nn), .val (.long qa), .second, .val (.long qb), .second, .val (.long qc), .second, .val (.long qd), .second, .val (.long qe), .second, .val (.int vk), .val (.int cv), .unset, .unset, .unset] []))
  obtain ⟨T3, h3, X3, e3, E3, A3, D3, -, st3⟩ := newO X0 hx hZ hown (hw _ (List.mem_of_getElem? (i := 1) rfl)) (hw _ (List.mem_of_getElem? (i := 2) rfl)) (hw _ (List.mem_of_getElem? (i := 3) rfl)) e0 (g := (mkF m 24 #[.val (.int nn), .val (.long qa), .second, .val (.long qb), .second, .val (.long qc), .second, .val (.long qd), .second, .val (.long qe), .second, .val (.int vk), .val (.int cv), .unset, .unset, .unset] [])) rfl (hb hby at_24) (by decide) (by decide)
  obtain ⟨bo, gz3⟩ : ∃ z, z = h0.size := ⟨_, rfl⟩
  have g_bo : n0 ≤ bo := Nat.le_trans Z0 (Nat.le_of_eq gz3.symm)
  rw [← gz3] at A3 D3 st3
  have Z3 := Nat.le_trans Z0 E3.1
  have E_bo := A3
  have F_generation_bo : Fld Z h3 bo "com/example/rootkeep/rootkeep/object/SortedTree$Node" "generation" "I" (.int (0 : Int32)) := D3 (Or.inr (hw _ (List.mem_of_getElem? (i := 16) rfl))) (ty := .int) (by decide)
  have F_keys_bo : Fld Z h3 bo "com/example/rootkeep/rootkeep/object/SortedTree$Node" "keys" "[Ljava/lang/Object;" .null := D3 (Or.inr (hw _ (List.mem_of_getElem? (i := 20) rfl))) (ty := (.array (.object "java/lang/Object"))) (by decide)
  have F_children_bo : Fld Z h3 bo "com/example/rootkeep/rootkeep/object/SortedTree$Inner" "children" "[Lcom/example/rootkeep/rootkeep/object/SortedTree$Node;" .null := D3 (Or.inr (hw _ (List.mem_of_getElem? (i := 24) rfl))) (ty := (.array (.object "com/example/rootkeep/rootkeep/object/SortedTree$Node"))) (by decide)
  have F_childIds_bo : Fld Z h3 bo "com/example/rootkeep/rootkeep/object/SortedTree$Inner" "childIds" "[J" .null := D3 (Or.inr (hw _ (List.mem_of_getElem? (i := 27) rfl))) (ty := (.array .long)) (by decide)
  have F_sizes_bo : Fld Z h3 bo "com/example/rootkeep/rootkeep/object/SortedTree$Inner" "sizes" "[J" .null := D3 (Or.inr (hw _ (List.mem_of_getElem? (i := 29) rfl))) (ty := (.array .long)) (by decide)
  have F_count_bo : Fld Z h3 bo "com/example/rootkeep/rootkeep/object/SortedTree$Node" "count" "I" (.int (0 : Int32)) := D3 (Or.inl (hw _ (List.mem_of_getElem? (i := 33) rfl))) (ty := .int) (by decide)
  refine Go.step st3 ?_
  show Go _ _ _ _ _ _ _ (T3.setTop (mkF m 27 #[.val (.int nn), .val (.long qa), .second, .val (.long qb), .second, .val (.long qc), .second, .val (.long qd), .second, .val (.long qe), .second, .val (.int vk), .val (.int cv), .unset, .unset, .unset] [(.ref bo)]))
  refine Go.step (fun t k => XS.dup X3.here hx rfl (hb hby at_27) rfl rfl k) ?_
  show Go _ _ _ _ _ _ _ (T3.setTop (mkF m 28 #[.val (.int nn), .val (.long qa), .second, .val (.long qb), .second, .val (.long qc), .second, .val (.long qd), .second, .val (.long qe), .second, .val (.int vk), .val (.int cv), .unset, .unset, .unset] [(.ref bo), (.ref bo)]))
  refine Go.step (fun t k => XS.iloadN X3.here hx rfl (hb hby at_28) rfl k) ?_
  show Go _ _ _ _ _ _ _ (T3.setTop (mkF m 29 #[.val (.int nn), .val (.long qa), .second, .val (.long qb), .second, .val (.long qc), .second, .val (.long qd), .second, .val (.long qe), .second, .val (.int vk), .val (.int cv), .unset, .unset, .unset] [(.int nn), (.ref bo), (.ref bo)]))
  obtain ⟨_, _, ⟨T4, L4, k4, n4⟩, -, X4, ⟨Lc4, hQ4, l4, y4, z4⟩, st4⟩ := X3.specialBack hx (y := (⟨"com/example/rootkeep/rootkeep/object/SortedTree$Inner", "<init>", "(I)V"⟩ : MethodName)) rfl hown (mvT hZ (hw _ (List.mem_of_getElem? (i := 4) rfl))) (mvT hZ (hw _ (List.mem_of_getElem? (i := 5) rfl))) (mvT hZ (hw _ (List.mem_of_getElem? (i := 6) rfl))) (by decide) (backOf (W := 1) (rm1 l Z a0 hw [] bo nn h3 n0 Z3 F_generation_bo F_keys_bo F_children_bo F_childIds_bo F_sizes_bo F_count_bo E_bo g_bo) hZ (hw _ (List.mem_of_getElem? (i := 6) rfl)) (hw _ (List.mem_of_getElem? (i := 3) rfl)) (by decide) (by decide)) (g := (mkF m 29 #[.val (.int nn), .val (.long qa), .second, .val (.long qb), .second, .val (.long qc), .second, .val (.long qd), .second, .val (.long qe), .second, .val (.int vk), .val (.int cv), .unset, .unset, .unset] [(.int nn), (.ref bo), (.ref bo)])) rfl (by rw [hml]; rfl) (Steps.refl _) (a := bo) (argsL := [(.int nn)]) (rest := [(.ref bo)]) (lenOf pd_0_0 rfl) rfl (by show 2 * 0 + _ ≤ _; exact Nat.le_of_eq rfl) (hb hby at_29) (fun _ _ => ⟨rfl, e3, (by decide : 1 + 4 ≤ _), (by decide : 7 + 260 ≤ _)⟩)
  dsimp only [Pt.U, Pt.locs, Pt.cells, Pt.slots] at X4 l4 y4 z4 st4 hQ4
  subst l4 y4 z4
  obtain ⟨bz_4, rfl, N4q, K4q, o4_F_sizes_bo, o4_F_count_bo, o4_g_bz_4, o4_A_bz_4, o4_ne_bo_bz_4⟩ := hQ4
  have N4 := Fr.app N0 N4q
  replace E_bo := E_bo.keep K4q
  have Z4 := Nat.le_trans Z3 K4q.1
  have F_sizes_bo := o4_F_sizes_bo
  have F_count_bo := o4_F_count_bo
  have A_bz_4 := o4_A_bz_4
  refine Go.step (fun t k => st4.trans k) ?_
  show Go _ _ _ _ _ _ _ (T4.setTop (mkF m 32 #[.val (.int nn), .val (.long qa), .second, .val (.long qb), .second, .val (.long qc), .second, .val (.long qd), .second, .val (.long qe), .second, .val (.int vk), .val (.int cv), .unset, .unset, .unset] [(.ref bo)]))
  refine Go.step (fun t k => XS.astore X4.here hx rfl (hb hby at_32) rfl rfl (l' := #[.val (.int nn), .val (.long qa), .second, .val (.long qb), .second, .val (.long qc), .second, .val (.long qd), .second, .val (.long qe), .second, .val (.int vk), .val (.int cv), .val (.ref bo), .unset, .unset]) rfl k) ?_
  show Go _ _ _ _ _ _ _ (T4.setTop (mkF m 34 #[.val (.int nn), .val (.long qa), .second, .val (.long qb), .second, .val (.long qc), .second, .val (.long qd), .second, .val (.long qe), .second, .val (.int vk), .val (.int cv), .val (.ref bo), .unset, .unset] []))
  refine Go.step (fun t k => XS.aload X4.here hx rfl (hb hby at_34) rfl rfl k) ?_
  show Go _ _ _ _ _ _ _ (T4.setTop (mkF m 36 #[.val (.int nn), .val (.long qa), .second, .val (.long qb), .second, .val (.long qc), .second, .val (.long qd), .second, .val (.long qe), .second, .val (.int vk), .val (.int cv), .val (.ref bo), .unset, .unset] [(.ref bo)]))
  obtain ⟨T5, X5, e5, st5⟩ := getF X4 hx hZ hown (host := "") (Or.inl (hw _ (List.mem_of_getElem? (i := 30) rfl))) Via.refl rfl F_sizes_bo (g := (mkF m 36 #[.val (.int nn), .val (.long qa), .second, .val (.long qb), .second, .val (.long qc), .second, .val (.long qd), .second, .val (.long qe), .second, .val (.int vk), .val (.int cv), .val (.ref bo), .unset, .unset] [(.ref bo)])) rfl rfl (hb hby at_36)
  refine Go.step st5 ?_
  show Go _ _ _ _ _ _ _ (T5.setTop (mkF m 39 #[.val (.int nn), .val (.long qa), .second, .val (.long qb), .second, .val (.long qc), .second, .val (.long qd), .second, .val (.long qe), .second, .val (.int vk), .val (.int cv), .val (.ref bo), .unset, .unset] [(.ref bz_4)]))
  refine Go.step (fun t k => XS.iconst X5.here hx rfl (hb hby at_39) k) ?_
  show Go _ _ _ _ _ _ _ (T5.setTop (mkF m 40 #[.val (.int nn), .val (.long qa), .second, .val (.long qb), .second, .val (.long qc), .second, .val (.long qd), .second, .val (.long qe), .second, .val (.int vk), .val (.int cv), .val (.ref bo), .unset, .unset] [(.int (0 : Int32)), (.ref bz_4)]))
  refine Go.step (fun t k => XS.lloadN X5.here hx rfl (hb hby at_40) rfl k) ?_
  show Go _ _ _ _ _ _ _ (T5.setTop (mkF m 41 #[.val (.int nn), .val (.long qa), .second, .val (.long qb), .second, .val (.long qc), .second, .val (.long qd), .second, .val (.long qe), .second, .val (.int vk), .val (.int cv), .val (.ref bo), .unset, .unset] [(.long qa), (.int (0 : Int32)), (.ref bz_4)]))
  obtain ⟨T6, h6, X6, e6, W6, st6⟩ := own_stJ X5 hx hZ e5 A_bz_4 0 rfl (by decide) (f := (mkF m 41 #[.val (.int nn), .val (.long qa), .second, .val (.long qb), .second, .val (.long qc), .second, .val (.long qd), .second, .val (.long qe), .second, .val (.int vk), .val (.int cv), .val (.ref bo), .unset, .unset] [(.long qa), (.int (0 : Int32)), (.ref bz_4)])) rfl rfl (hb hby at_41)
  replace E_bo := E_bo.wr W6
  replace F_sizes_bo := F_sizes_bo.other W6 (Or.inl o4_ne_bo_bz_4)
  replace F_count_bo := F_count_bo.other W6 (Or.inl o4_ne_bo_bz_4)
  have Z6 := Nat.le_trans Z4 (Keep.of_wr W6).1
  have N6 := Fr.snoc X6 N4 o4_g_bz_4
  replace A_bz_4 := A_bz_4.setJ W6
  refine Go.step st6 ?_
  show Go _ _ _ _ _ _ _ (T6.setTop (mkF m 42 #[.val (.int nn), .val (.long qa), .second, .val (.long qb), .second, .val (.long qc), .second, .val (.long qd), .second, .val (.long qe), .second, .val (.int vk), .val (.int cv), .val (.ref bo), .unset, .unset] []))
  refine Go.step (fun t k => XS.aload X6.here hx rfl (hb hby at_42) rfl rfl k) ?_
  show Go _ _ _ _ _ _ _ (T6.setTop (mkF m 44 #[.val (.int nn), .val (.long qa), .second, .val (.long qb), .second, .val (.long qc), .second, .val (.long qd), .second, .val (.long qe), .second, .val (.int vk), .val (.int cv), .val (.ref bo), .unset, .unset] [(.ref bo)]))
  obtain ⟨T7, X7, e7, st7⟩ := getF X6 hx hZ hown (host := "") (Or.inl (hw _ (List.mem_of_getElem? (i := 30) rfl))) Via.refl e6 F_sizes_bo (g := (mkF m 44 #[.val (.int nn), .val (.long qa), .second, .val (.long qb), .second, .val (.long qc), .second, .val (.long qd), .second, .val (.long qe), .second, .val (.int vk), .val (.int cv), .val (.ref bo), .unset, .unset] [(.ref bo)])) rfl rfl (hb hby at_44)
  refine Go.step st7 ?_
  show Go _ _ _ _ _ _ _ (T7.setTop (mkF m 47 #[.val (.int nn), .val (.long qa), .second, .val (.long qb), .second, .val (.long qc), .second, .val (.long qd), .second, .val (.long qe), .second, .val (.int vk), .val (.int cv), .val (.ref bo), .unset, .unset] [(.ref bz_4)]))
  refine Go.step (fun t k => XS.iconst X7.here hx rfl (hb hby at_47) k) ?_
  show Go _ _ _ _ _ _ _ (T7.setTop (mkF m 48 #[.val (.int nn), .val (.long qa), .second, .val (.long qb), .second, .val (.long qc), .second, .val (.long qd), .second, .val (.long qe), .second, .val (.int vk), .val (.int cv), .val (.ref bo), .unset, .unset] [(.int (1 : Int32)), (.ref bz_4)]))
  refine Go.step (fun t k => XS.lloadN X7.here hx rfl (hb hby at_48) rfl k) ?_
  show Go _ _ _ _ _ _ _ (T7.setTop (mkF m 49 #[.val (.int nn), .val (.long qa), .second, .val (.long qb), .second, .val (.long qc), .second, .val (.long qd), .second, .val (.long qe), .second, .val (.int vk), .val (.int cv), .val (.ref bo), .unset, .unset] [(.long qb), (.int (1 : Int32)), (.ref bz_4)]))
  obtain ⟨T8, h8, X8, e8, W8, st8⟩ := own_stJ X7 hx hZ e7 A_bz_4 1 rfl (by decide) (f := (mkF m 49 #[.val (.int nn), .val (.long qa), .second, .val (.long qb), .second, .val (.long qc), .second, .val (.long qd), .second, .val (.long qe), .second, .val (.int vk), .val (.int cv), .val (.ref bo), .unset, .unset] [(.long qb), (.int (1 : Int32)), (.ref bz_4)])) rfl rfl (hb hby at_49)
  replace E_bo := E_bo.wr W8
  replace F_sizes_bo := F_sizes_bo.other W8 (Or.inl o4_ne_bo_bz_4)
  replace F_count_bo := F_count_bo.other W8 (Or.inl o4_ne_bo_bz_4)
  have Z8 := Nat.le_trans Z6 (Keep.of_wr W8).1
  have N8 := Fr.snoc X8 N6 o4_g_bz_4
  replace A_bz_4 := A_bz_4.setJ W8
  refine Go.step st8 ?_
  show Go _ _ _ _ _ _ _ (T8.setTop (mkF m 50 #[.val (.int nn), .val (.long qa), .second, .val (.long qb), .second, .val (.long qc), .second, .val (.long qd), .second, .val (.long qe), .second, .val (.int vk), .val (.int cv), .val (.ref bo), .unset, .unset] []))
  refine Go.step (fun t k => XS.aload X8.here hx rfl (hb hby at_50) rfl rfl k) ?_
  show Go _ _ _ _ _ _ _ (T8.setTop (mkF m 52 #[.val (.int nn), .val (.long qa), .second, .val (.long qb), .second, .val (.long qc), .second, .val (.long qd), .second, .val (.long qe), .second, .val (.int vk), .val (.int cv), .val (.ref bo), .unset, .unset] [(.ref bo)]))
  obtain ⟨T9, X9, e9, st9⟩ := getF X8 hx hZ hown (host := "") (Or.inl (hw _ (List.mem_of_getElem? (i := 30) rfl))) Via.refl e8 F_sizes_bo (g := (mkF m 52 #[.val (.int nn), .val (.long qa), .second, .val (.long qb), .second, .val (.long qc), .second, .val (.long qd), .second, .val (.long qe), .second, .val (.int vk), .val (.int cv), .val (.ref bo), .unset, .unset] [(.ref bo)])) rfl rfl (hb hby at_52)
  refine Go.step st9 ?_
  show Go _ _ _ _ _ _ _ (T9.setTop (mkF m 55 #[.val (.int nn), .val (.long qa), .second, .val (.long qb), .second, .val (.long qc), .second, .val (.long qd), .second, .val (.long qe), .second, .val (.int vk), .val (.int cv), .val (.ref bo), .unset, .unset] [(.ref bz_4)]))
  refine Go.step (fun t k => XS.iconst X9.here hx rfl (hb hby at_55) k) ?_
  show Go _ _ _ _ _ _ _ (T9.setTop (mkF m 56 #[.val (.int nn), .val (.long qa), .second, .val (.long qb), .second, .val (.long qc), .second, .val (.long qd), .second, .val (.long qe), .second, .val (.int vk), .val (.int cv), .val (.ref bo), .unset, .unset] [(.int (2 : Int32)), (.ref bz_4)]))
  refine Go.step (fun t k => XS.lload X9.here hx rfl (hb hby at_56) rfl k) ?_
  show Go _ _ _ _ _ _ _ (T9.setTop (mkF m 58 #[.val (.int nn), .val (.long qa), .second, .val (.long qb), .second, .val (.long qc), .second, .val (.long qd), .second, .val (.long qe), .second, .val (.int vk), .val (.int cv), .val (.ref bo), .unset, .unset] [(.long qc), (.int (2 : Int32)), (.ref bz_4)]))
  obtain ⟨T10, h10, X10, e10, W10, st10⟩ := own_stJ X9 hx hZ e9 A_bz_4 2 rfl (by decide) (f := (mkF m 58 #[.val (.int nn), .val (.long qa), .second, .val (.long qb), .second, .val (.long qc), .second, .val (.long qd), .second, .val (.long qe), .second, .val (.int vk), .val (.int cv), .val (.ref bo), .unset, .unset] [(.long qc), (.int (2 : Int32)), (.ref bz_4)])) rfl rfl (hb hby at_58)
  replace E_bo := E_bo.wr W10
  replace F_sizes_bo := F_sizes_bo.other W10 (Or.inl o4_ne_bo_bz_4)
  replace F_count_bo := F_count_bo.other W10 (Or.inl o4_ne_bo_bz_4)
  have Z10 := Nat.le_trans Z8 (Keep.of_wr W10).1
  have N10 := Fr.snoc X10 N8 o4_g_bz_4
  replace A_bz_4 := A_bz_4.setJ W10
  refine Go.step st10 ?_
  show Go _ _ _ _ _ _ _ (T10.setTop (mkF m 59 #[.val (.int nn), .val (.long qa), .second, .val (.long qb), .second, .val (.long qc), .second, .val (.long qd), .second, .val (.long qe), .second, .val (.int vk), .val (.int cv), .val (.ref bo), .unset, .unset] []))
  refine Go.step (fun t k => XS.aload X10.here hx rfl (hb hby at_59) rfl rfl k) ?_
  show Go _ _ _ _ _ _ _ (T10.setTop (mkF m 61 #[.val (.int nn), .val (.long qa), .second, .val (.long qb), .second, .val (.long qc), .second, .val (.long qd), .second, .val (.long qe), .second, .val (.int vk), .val (.int cv), .val (.ref bo), .unset, .unset] [(.ref bo)]))
  obtain ⟨T11, X11, e11, st11⟩ := getF X10 hx hZ hown (host := "") (Or.inl (hw _ (List.mem_of_getElem? (i := 30) rfl))) Via.refl e10 F_sizes_bo (g := (mkF m 61 #[.val (.int nn), .val (.long qa), .second, .val (.long qb), .second, .val (.long qc), .second, .val (.long qd), .second, .val (.long qe), .second, .val (.int vk), .val (.int cv), .val (.ref bo), .unset, .unset] [(.ref bo)])) rfl rfl (hb hby at_61)
  refine Go.step st11 ?_
  show Go _ _ _ _ _ _ _ (T11.setTop (mkF m 64 #[.val (.int nn), .val (.long qa), .second, .val (.long qb), .second, .val (.long qc), .second, .val (.long qd), .second, .val (.long qe), .second, .val (.int vk), .val (.int cv), .val (.ref bo), .unset, .unset] [(.ref bz_4)]))
  refine Go.step (fun t k => XS.iconst X11.here hx rfl (hb hby at_64) k) ?_
  show Go _ _ _ _ _ _ _ (T11.setTop (mkF m 65 #[.val (.int nn), .val (.long qa), .second, .val (.long qb), .second, .val (.long qc), .second, .val (.long qd), .second, .val (.long qe), .second, .val (.int vk), .val (.int cv), .val (.ref bo), .unset, .unset] [(.int (3 : Int32)), (.ref bz_4)]))
  refine Go.step (fun t k => XS.lload X11.here hx rfl (hb hby at_65) rfl k) ?_
  show Go _ _ _ _ _ _ _ (T11.setTop (mkF m 67 #[.val (.int nn), .val (.long qa), .second, .val (.long qb), .second, .val (.long qc), .second, .val (.long qd), .second, .val (.long qe), .second, .val (.int vk), .val (.int cv), .val (.ref bo), .unset, .unset] [(.long qd), (.int (3 : Int32)), (.ref bz_4)]))
  obtain ⟨T12, h12, X12, e12, W12, st12⟩ := own_stJ X11 hx hZ e11 A_bz_4 3 rfl (by decide) (f := (mkF m 67 #[.val (.int nn), .val (.long qa), .second, .val (.long qb), .second, .val (.long qc), .second, .val (.long qd), .second, .val (.long qe), .second, .val (.int vk), .val (.int cv), .val (.ref bo), .unset, .unset] [(.long qd), (.int (3 : Int32)), (.ref bz_4)])) rfl rfl (hb hby at_67)
  replace E_bo := E_bo.wr W12
  replace F_sizes_bo := F_sizes_bo.other W12 (Or.inl o4_ne_bo_bz_4)
  replace F_count_bo := F_count_bo.other W12 (Or.inl o4_ne_bo_bz_4)
  have Z12 := Nat.le_trans Z10 (Keep.of_wr W12).1
  have N12 := Fr.snoc X12 N10 o4_g_bz_4
  replace A_bz_4 := A_bz_4.setJ W12
  refine Go.step st12 ?_
  show Go _ _ _ _ _ _ _ (T12.setTop (mkF m 68 #[.val (.int nn), .val (.long qa), .second, .val (.long qb), .second, .val (.long qc), .second, .val (.long qd), .second, .val (.long qe), .second, .val (.int vk), .val (.int cv), .val (.ref bo), .unset, .unset] []))
  refine Go.step (fun t k => XS.aload X12.here hx rfl (hb hby at_68) rfl rfl k) ?_
  show Go _ _ _ _ _ _ _ (T12.setTop (mkF m 70 #[.val (.int nn), .val (.long qa), .second, .val (.long qb), .second, .val (.long qc), .second, .val (.long qd), .second, .val (.long qe), .second, .val (.int vk), .val (.int cv), .val (.ref bo), .unset, .unset] [(.ref bo)]))
  obtain ⟨T13, X13, e13, st13⟩ := getF X12 hx hZ hown (host := "") (Or.inl (hw _ (List.mem_of_getElem? (i := 30) rfl))) Via.refl e12 F_sizes_bo (g := (mkF m 70 #[.val (.int nn), .val (.long qa), .second, .val (.long qb), .second, .val (.long qc), .second, .val (.long qd), .second, .val (.long qe), .second, .val (.int vk), .val (.int cv), .val (.ref bo), .unset, .unset] [(.ref bo)])) rfl rfl (hb hby at_70)
  refine Go.step st13 ?_
  show Go _ _ _ _ _ _ _ (T13.setTop (mkF m 73 #[.val (.int nn), .val (.long qa), .second, .val (.long qb), .second, .val (.long qc), .second, .val (.long qd), .second, .val (.long qe), .second, .val (.int vk), .val (.int cv), .val (.ref bo), .unset, .unset] [(.ref bz_4)]))
  refine Go.step (fun t k => XS.iconst X13.here hx rfl (hb hby at_73) k) ?_
  show Go _ _ _ _ _ _ _ (T13.setTop (mkF m 74 #[.val (.int nn), .val (.long qa), .second, .val (.long qb), .second, .val (.long qc), .second, .val (.long qd), .second, .val (.long qe), .second, .val (.int vk), .val (.int cv), .val (.ref bo), .unset, .unset] [(.int (4 : Int32)), (.ref bz_4)]))
  refine Go.step (fun t k => XS.lload X13.here hx rfl (hb hby at_74) rfl k) ?_
  show Go _ _ _ _ _ _ _ (T13.setTop (mkF m 76 #[.val (.int nn), .val (.long qa), .second, .val (.long qb), .second, .val (.long qc), .second, .val (.long qd), .second, .val (.long qe), .second, .val (.int vk), .val (.int cv), .val (.ref bo), .unset, .unset] [(.long qe), (.int (4 : Int32)), (.ref bz_4)]))
  obtain ⟨T14, h14, X14, e14, W14, st14⟩ := own_stJ X13 hx hZ e13 A_bz_4 4 rfl (by decide) (f := (mkF m 76 #[.val (.int nn), .val (.long qa), .second, .val (.long qb), .second, .val (.long qc), .second, .val (.long qd), .second, .val (.long qe), .second, .val (.int vk), .val (.int cv), .val (.ref bo), .unset, .unset] [(.long qe), (.int (4 : Int32)), (.ref bz_4)])) rfl rfl (hb hby at_76)
  replace E_bo := E_bo.wr W14
  replace F_sizes_bo := F_sizes_bo.other W14 (Or.inl o4_ne_bo_bz_4)
  replace F_count_bo := F_count_bo.other W14 (Or.inl o4_ne_bo_bz_4)
  have Z14 := Nat.le_trans Z12 (Keep.of_wr W14).1
  have N14 := Fr.snoc X14 N12 o4_g_bz_4
  replace A_bz_4 := A_bz_4.setJ W14
  refine Go.step st14 ?_
  show Go _ _ _ _ _ _ _ (T14.setTop (mkF m 77 #[.val (.int nn), .val (.long qa), .second, .val (.long qb), .second, .val (.long qc), .second, .val (.long qd), .second, .val (.long qe), .second, .val (.int vk), .val (.int cv), .val (.ref bo), .unset, .unset] []))
  refine Go.step (fun t k => XS.aload X14.here hx rfl (hb hby at_77) rfl rfl k) ?_
  show Go _ _ _ _ _ _ _ (T14.setTop (mkF m 79 #[.val (.int nn), .val (.long qa), .second, .val (.long qb), .second, .val (.long qc), .second, .val (.long qd), .second, .val (.long qe), .second, .val (.int vk), .val (.int cv), .val (.ref bo), .unset, .unset] [(.ref bo)]))
  obtain ⟨T15, X15, e15, st15⟩ := getF X14 hx hZ hown (host := "") (Or.inl (hw _ (List.mem_of_getElem? (i := 30) rfl))) Via.refl e14 F_sizes_bo (g := (mkF m 79 #[.val (.int nn), .val (.long qa), .second, .val (.long qb), .second, .val (.long qc), .second, .val (.long qd), .second, .val (.long qe), .second, .val (.int vk), .val (.int cv), .val (.ref bo), .unset, .unset] [(.ref bo)])) rfl rfl (hb hby at_79)
  refine Go.step st15 ?_
  show Go _ _ _ _ _ _ _ (T15.setTop (mkF m 82 #[.val (.int nn), .val (.long qa), .second, .val (.long qb), .second, .val (.long qc), .second, .val (.long qd), .second, .val (.long qe), .second, .val (.int vk), .val (.int cv), .val (.ref bo), .unset, .unset] [(.ref bz_4)]))
  refine Go.step (fun t k => XS.bipush X15.here hx rfl (hb hby at_82) k) ?_
  show Go _ _ _ _ _ _ _ (T15.setTop (mkF m 84 #[.val (.int nn), .val (.long qa), .second, .val (.long qb), .second, .val (.long qc), .second, .val (.long qd), .second, .val (.long qe), .second, .val (.int vk), .val (.int cv), .val (.ref bo), .unset, .unset] [(.int (63 : Int32)), (.ref bz_4)]))
  refine Go.step (fun t k => XS.lload X15.here hx rfl (hb hby at_84) rfl k) ?_
  show Go _ _ _ _ _ _ _ (T15.setTop (mkF m 86 #[.val (.int nn), .val (.long qa), .second, .val (.long qb), .second, .val (.long qc), .second, .val (.long qd), .second, .val (.long qe), .second, .val (.int vk), .val (.int cv), .val (.ref bo), .unset, .unset] [(.long qe), (.int (63 : Int32)), (.ref bz_4)]))
  obtain ⟨T16, h16, X16, e16, W16, st16⟩ := own_stJ X15 hx hZ e15 A_bz_4 63 rfl (by decide) (f := (mkF m 86 #[.val (.int nn), .val (.long qa), .second, .val (.long qb), .second, .val (.long qc), .second, .val (.long qd), .second, .val (.long qe), .second, .val (.int vk), .val (.int cv), .val (.ref bo), .unset, .unset] [(.long qe), (.int (63 : Int32)), (.ref bz_4)])) rfl rfl (hb hby at_86)
  replace E_bo := E_bo.wr W16
  replace F_sizes_bo := F_sizes_bo.other W16 (Or.inl o4_ne_bo_bz_4)
  replace F_count_bo := F_count_bo.other W16 (Or.inl o4_ne_bo_bz_4)
  have Z16 := Nat.le_trans Z14 (Keep.of_wr W16).1
  have N16 := Fr.snoc X16 N14 o4_g_bz_4
  replace A_bz_4 := A_bz_4.setJ W16
  refine Go.step st16 ?_
  show Go _ _ _ _ _ _ _ (T16.setTop (mkF m 87 #[.val (.int nn), .val (.long qa), .second, .val (.long qb), .second, .val (.long qc), .second, .val (.long qd), .second, .val (.long qe), .second, .val (.int vk), .val (.int cv), .val (.ref bo), .unset, .unset] []))
  refine Go.step (fun t k => XS.aload X16.here hx rfl (hb hby at_87) rfl rfl k) ?_
  show Go _ _ _ _ _ _ _ (T16.setTop (mkF m 89 #[.val (.int nn), .val (.long qa), .second, .val (.long qb), .second, .val (.long qc), .second, .val (.long qd), .second, .val (.long qe), .second, .val (.int vk), .val (.int cv), .val (.ref bo), .unset, .unset] [(.ref bo)]))
  obtain ⟨T17, X17, e17, st17⟩ := getF X16 hx hZ hown (host := "") (Or.inl (hw _ (List.mem_of_getElem? (i := 30) rfl))) Via.refl e16 F_sizes_bo (g := (mkF m 89 #[.val (.int nn), .val (.long qa), .second, .val (.long qb), .second, .val (.long qc), .second, .val (.long qd), .second, .val (.long qe), .second, .val (.int vk), .val (.int cv), .val (.ref bo), .unset, .unset] [(.ref bo)])) rfl rfl (hb hby at_89)
  refine Go.step st17 ?_
  show Go _ _ _ _ _ _ _ (T17.setTop (mkF m 92 #[.val (.int nn), .val (.long qa), .second, .val (.long qb), .second, .val (.long qc), .second, .val (.long qd), .second, .val (.long qe), .second, .val (.int vk), .val (.int cv), .val (.ref bo), .unset, .unset] [(.ref bz_4)]))
  refine Go.step (fun t k => XS.bipush X17.here hx rfl (hb hby at_92) k) ?_
  show Go _ _ _ _ _ _ _ (T17.setTop (mkF m 94 #[.val (.int nn), .val (.long qa), .second, .val (.long qb), .second, .val (.long qc), .second, .val (.long qd), .second, .val (.long qe), .second, .val (.int vk), .val (.int cv), .val (.ref bo), .unset, .unset] [(.int (64 : Int32)), (.ref bz_4)]))
  refine Go.step (fun t k => XS.lload X17.here hx rfl (hb hby at_94) rfl k) ?_
  show Go _ _ _ _ _ _ _ (T17.setTop (mkF m 96 #[.val (.int nn), .val (.long qa), .second, .val (.long qb), .second, .val (.long qc), .second, .val (.long qd), .second, .val (.long qe), .second, .val (.int vk), .val (.int cv), .val (.ref bo), .unset, .unset] [(.long qe), (.int (64 : Int32)), (.ref bz_4)]))
  obtain ⟨T18, h18, X18, e18, W18, st18⟩ := own_stJ X17 hx hZ e17 A_bz_4 64 rfl (by decide) (f := (mkF m 96 #[.val (.int nn), .val (.long qa), .second, .val (.long qb), .second, .val (.long qc), .second, .val (.long qd), .second, .val (.long qe), .second, .val (.int vk), .val (.int cv), .val (.ref bo), .unset, .unset] [(.long qe), (.int (64 : Int32)), (.ref bz_4)])) rfl rfl (hb hby at_96)
  replace E_bo := E_bo.wr W18
  replace F_sizes_bo := F_sizes_bo.other W18 (Or.inl o4_ne_bo_bz_4)
  replace F_count_bo := F_count_bo.other W18 (Or.inl o4_ne_bo_bz_4)
  have Z18 := Nat.le_trans Z16 (Keep.of_wr W18).1
  have N18 := Fr.snoc X18 N16 o4_g_bz_4
  replace A_bz_4 := A_bz_4.setJ W18
  refine Go.step st18 ?_
  show Go _ _ _ _ _ _ _ (T18.setTop (mkF m 97 #[.val (.int nn), .val (.long qa), .second, .val (.long qb), .second, .val (.long qc), .second, .val (.long qd), .second, .val (.long qe), .second, .val (.int vk), .val (.int cv), .val (.ref bo), .unset, .unset] []))
  refine Go.step (fun t k => XS.aload X18.here hx rfl (hb hby at_97) rfl rfl k) ?_
  show Go _ _ _ _ _ _ _ (T18.setTop (mkF m 99 #[.val (.int nn), .val (.long qa), .second, .val (.long qb), .second, .val (.long qc), .second, .val (.long qd), .second, .val (.long qe), .second, .val (.int vk), .val (.int cv), .val (.ref bo), .unset, .unset] [(.ref bo)]))
  refine Go.step (fun t k => XS.iload X18.here hx rfl (hb hby at_99) rfl k) ?_
  show Go _ _ _ _ _ _ _ (T18.setTop (mkF m 101 #[.val (.int nn), .val (.long qa), .second, .val (.long qb), .second, .val (.long qc), .second, .val (.long qd), .second, .val (.long qe), .second, .val (.int vk), .val (.int cv), .val (.ref bo), .unset, .unset] [(.int cv), (.ref bo)]))
  obtain ⟨T19, h19, X19, e19, W19, st19⟩ := putF X18 hx hZ hown (host := "") (Or.inl (hw _ (List.mem_of_getElem? (i := 31) rfl))) (Via.of (hw _ (List.mem_of_getElem? (i := 32) rfl))) e18 F_count_bo E_bo (Or.inl (hw _ (List.mem_of_getElem? (i := 33) rfl))) (hw _ (List.mem_of_getElem? (i := 2) rfl)) (ty := .int) (by decide) rfl rfl (g := (mkF m 101 #[.val (.int nn), .val (.long qa), .second, .val (.long qb), .second, .val (.long qc), .second, .val (.long qd), .second, .val (.long qe), .second, .val (.int vk), .val (.int cv), .val (.ref bo), .unset, .unset] [(.int cv), (.ref bo)])) rfl rfl (hb hby at_101)
  replace E_bo := E_bo.wr W19
  replace F_sizes_bo := F_sizes_bo.other W19 (Or.inr (slot_ne (Or.inr (hw _ (List.mem_of_getElem? (i := 29) rfl))) (Or.inl (hw _ (List.mem_of_getElem? (i := 33) rfl))) (by decide) (t := (.array .long)) (t' := .int) (by decide) (by decide)))
  replace A_bz_4 := A_bz_4.other W19 (Ne.symm o4_ne_bo_bz_4)
  have Z19 := Nat.le_trans Z18 (Keep.of_wr W19).1
  have N19 := Fr.snoc X19 N18 g_bo
  replace F_count_bo := F_count_bo.same W19
  refine Go.step st19 ?_
  show Go _ _ _ _ _ _ _ (T19.setTop (mkF m 104 #[.val (.int nn), .val (.long qa), .second, .val (.long qb), .second, .val (.long qc), .second, .val (.long qd), .second, .val (.long qe), .second, .val (.int vk), .val (.int cv), .val (.ref bo), .unset, .unset] []))
  refine Go.step (fun t k => XS.iload X19.here hx rfl (hb hby at_104) rfl k) ?_
  show Go _ _ _ _ _ _ _ (T19.setTop (mkF m 106 #[.val (.int nn), .val (.long qa), .second, .val (.long qb), .second, .val (.long qc), .second, .val (.long qd), .second, .val (.long qe), .second, .val (.int vk), .val (.int cv), .val (.ref bo), .unset, .unset] [(.int vk)]))
  -- joined again at pc 195
  obtain ⟨ex, hex⟩ : ∃ z : Int64, z = (if vk = (0 : Int32) then (0 : Int64) else (if vk = (1 : Int32) then qa else (if vk = (2 : Int32) then (qa + qb) else (if vk = (3 : Int32) then ((qa + qb) + qc) else (if vk = (4 : Int32) then (((qa + qb) + qc) + qd) else (((((qa + qb) + qc) + qd) + qe) + qe)))))) := ⟨_, rfl⟩
  have st20 : ∀ t, Steps p.tables e below (T19.setTop (mkF m 195 #[.val (.int nn), .val (.long qa), .second, .val (.long qb), .second, .val (.long qc), .second, .val (.long qd), .second, .val (.long qe), .second, .val (.int vk), .val (.int cv), .val (.ref bo), .val (.long ex), .second] [])) t → Steps p.tables e below (T19.setTop (mkF m 106 #[.val (.int nn), .val (.long qa), .second, .val (.long qb), .second, .val (.long qc), .second, .val (.long qd), .second, .val (.long qe), .second, .val (.int vk), .val (.int cv), .val (.ref bo), .unset, .unset] [(.int vk)])) t := by
    intro t kt
    by_cases hd106_21 : vk = (0 : Int32)
    · refine XS.ifNo X19.here hx rfl (hb hby at_106) rfl ((if0 _ _).trans (teq hd106_21).2) ?_
      show Steps p.tables e below (T19.setTop (mkF m 109 #[.val (.int nn), .val (.long qa), .second, .val (.long qb), .second, .val (.long qc), .second, .val (.long qd), .second, .val (.long qe), .second, .val (.int vk), .val (.int cv), .val (.ref bo), .unset, .unset] [])) _
      refine XS.lconst X19.here hx rfl (hb hby at_109) ?_
      show Steps p.tables e below (T19.setTop (mkF m 110 #[.val (.int nn), .val (.long qa), .second, .val (.long qb), .second, .val (.long qc), .second, .val (.long qd), .second, .val (.long qe), .second, .val (.int vk), .val (.int cv), .val (.ref bo), .unset, .unset] [(.long (0 : Int64))])) _
      refine XS.lstore X19.here hx rfl (hb hby at_110) rfl (l' := #[.val (.int nn), .val (.long qa), .second, .val (.long qb), .second, .val (.long qc), .second, .val (.long qd), .second, .val (.long qe), .second, .val (.int vk), .val (.int cv), .val (.ref bo), .val (.long (0 : Int64)), .second]) rfl ?_
      show Steps p.tables e below (T19.setTop (mkF m 112 #[.val (.int nn), .val (.long qa), .second, .val (.long qb), .second, .val (.long qc), .second, .val (.long qd), .second, .val (.long qe), .second, .val (.int vk), .val (.int cv), .val (.ref bo), .val (.long (0 : Int64)), .second] [])) _
      refine XS.goto X19.here hx rfl (pc0 := 112) (pc' := 195) rfl (hb hby at_112) (by decide) (by decide) ?_
      show Steps p.tables e below (T19.setTop (mkF m 195 #[.val (.int nn), .val (.long qa), .second, .val (.long qb), .second, .val (.long qc), .second, .val (.long qd), .second, .val (.long qe), .second, .val (.int vk), .val (.int cv), .val (.ref bo), .val (.long (0 : Int64)), .second] [])) _
      have qex : ex = (0 : Int64) := by rw [hex]; simp only [if_pos hd106_21]
      rw [qex] at kt
      exact kt
    · refine XS.ifYes X19.here hx rfl (pc0 := 106) (pc' := 115) rfl (hb hby at_106) rfl ((if0 _ _).trans (feq hd106_21).2) (by decide) (by decide) ?_
      show Steps p.tables e below (T19.setTop (mkF m 115 #[.val (.int nn), .val (.long qa), .second, .val (.long qb), .second, .val (.long qc), .second, .val (.long qd), .second, .val (.long qe), .second, .val (.int vk), .val (.int cv), .val (.ref bo), .unset, .unset] [])) _
      refine XS.iload X19.here hx rfl (hb hby at_115) rfl ?_
      show Steps p.tables e below (T19.setTop (mkF m 117 #[.val (.int nn), .val (.long qa), .second, .val (.long qb), .second, .val (.long qc), .second, .val (.long qd), .second, .val (.long qe), .second, .val (.int vk), .val (.int cv), .val (.ref bo), .unset, .unset] [(.int vk)])) _
      refine XS.iconst X19.here hx rfl (hb hby at_117) ?_
      show Steps p.tables e below (T19.setTop (mkF m 118 #[.val (.int nn), .val (.long qa), .second, .val (.long qb), .second, .val (.long qc), .second, .val (.long qd), .second, .val (.long qe), .second, .val (.int vk), .val (.int cv), .val (.ref bo), .unset, .unset] [(.int (1 : Int32)), (.int vk)])) _
      by_cases hd118_22 : vk = (1 : Int32)
      · refine XS.icmpNo X19.here hx rfl (hb hby at_118) rfl (teq hd118_22).2 ?_
        show Steps p.tables e below (T19.setTop (mkF m 121 #[.val (.int nn), .val (.long qa), .second, .val (.long qb), .second, .val (.long qc), .second, .val (.long qd), .second, .val (.long qe), .second, .val (.int vk), .val (.int cv), .val (.ref bo), .unset, .unset] [])) _
        refine XS.lloadN X19.here hx rfl (hb hby at_121) rfl ?_
        show Steps p.tables e below (T19.setTop (mkF m 122 #[.val (.int nn), .val (.long qa), .second, .val (.long qb), .second, .val (.long qc), .second, .val (.long qd), .second, .val (.long qe), .second, .val (.int vk), .val (.int cv), .val (.ref bo), .unset, .unset] [(.long qa)])) _
        refine XS.lstore X19.here hx rfl (hb hby at_122) rfl (l' := #[.val (.int nn), .val (.long qa), .second, .val (.long qb), .second, .val (.long qc), .second, .val (.long qd), .second, .val (.long qe), .second, .val (.int vk), .val (.int cv), .val (.ref bo), .val (.long qa), .second]) rfl ?_
        show Steps p.tables e below (T19.setTop (mkF m 124 #[.val (.int nn), .val (.long qa), .second, .val (.long qb), .second, .val (.long qc), .second, .val (.long qd), .second, .val (.long qe), .second, .val (.int vk), .val (.int cv), .val (.ref bo), .val (.long qa), .second] [])) _
        refine XS.goto X19.here hx rfl (pc0 := 124) (pc' := 195) rfl (hb hby at_124) (by decide) (by decide) ?_
        show Steps p.tables e below (T19.setTop (mkF m 195 #[.val (.int nn), .val (.long qa), .second, .val (.long qb), .second, .val (.long qc), .second, .val (.long qd), .second, .val (.long qe), .second, .val (.int vk), .val (.int cv), .val (.ref bo), .val (.long qa), .second] [])) _
        have qex : ex = qa := by rw [hex]; simp only [if_neg hd106_21, if_pos hd118_22]
        rw [qex] at kt
        exact kt
      · refine XS.icmpYes X19.here hx rfl (pc0 := 118) (pc' := 127) rfl (hb hby at_118) rfl (feq hd118_22).2 (by decide) (by decide) ?_
        show Steps p.tables e below (T19.setTop (mkF m 127 #[.val (.int nn), .val (.long qa), .second, .val (.long qb), .second, .val (.long qc), .second, .val (.long qd), .second, .val (.long qe), .second, .val (.int vk), .val (.int cv), .val (.ref bo), .unset, .unset] [])) _
        refine XS.iload X19.here hx rfl (hb hby at_127) rfl ?_
        show Steps p.tables e below (T19.setTop (mkF m 129 #[.val (.int nn), .val (.long qa), .second, .val (.long qb), .second, .val (.long qc), .second, .val (.long qd), .second, .val (.long qe), .second, .val (.int vk), .val (.int cv), .val (.ref bo), .unset, .unset] [(.int vk)])) _
        refine XS.iconst X19.here hx rfl (hb hby at_129) ?_
        show Steps p.tables e below (T19.setTop (mkF m 130 #[.val (.int nn), .val (.long qa), .second, .val (.long qb), .second, .val (.long qc), .second, .val (.long qd), .second, .val (.long qe), .second, .val (.int vk), .val (.int cv), .val (.ref bo), .unset, .unset] [(.int (2 : Int32)), (.int vk)])) _
        by_cases hd130_23 : vk = (2 : Int32)
        · refine XS.icmpNo X19.here hx rfl (hb hby at_130) rfl (teq hd130_23).2 ?_
          show Steps p.tables e below (T19.setTop (mkF m 133 #[.val (.int nn), .val (.long qa), .second, .val (.long qb), .second, .val (.long qc), .second, .val (.long qd), .second, .val (.long qe), .second, .val (.int vk), .val (.int cv), .val (.ref bo), .unset, .unset] [])) _
          refine XS.lloadN X19.here hx rfl (hb hby at_133) rfl ?_
          show Steps p.tables e below (T19.setTop (mkF m 134 #[.val (.int nn), .val (.long qa), .second, .val (.long qb), .second, .val (.long qc), .second, .val (.long qd), .second, .val (.long qe), .second, .val (.int vk), .val (.int cv), .val (.ref bo), .unset, .unset] [(.long qa)])) _
          refine XS.lloadN X19.here hx rfl (hb hby at_134) rfl ?_
          show Steps p.tables e below (T19.setTop (mkF m 135 #[.val (.int nn), .val (.long qa), .second, .val (.long qb), .second, .val (.long qc), .second, .val (.long qd), .second, .val (.long qe), .second, .val (.int vk), .val (.int cv), .val (.ref bo), .unset, .unset] [(.long qb), (.long qa)])) _
          refine XS.ladd X19.here hx rfl (hb hby at_135) rfl ?_
          show Steps p.tables e below (T19.setTop (mkF m 136 #[.val (.int nn), .val (.long qa), .second, .val (.long qb), .second, .val (.long qc), .second, .val (.long qd), .second, .val (.long qe), .second, .val (.int vk), .val (.int cv), .val (.ref bo), .unset, .unset] [(.long (qa + qb))])) _
          refine XS.lstore X19.here hx rfl (hb hby at_136) rfl (l' := #[.val (.int nn), .val (.long qa), .second, .val (.long qb), .second, .val (.long qc), .second, .val (.long qd), .second, .val (.long qe), .second, .val (.int vk), .val (.int cv), .val (.ref bo), .val (.long (qa + qb)), .second]) rfl ?_
          show Steps p.tables e below (T19.setTop (mkF m 138 #[.val (.int nn), .val (.long qa), .second, .val (.long qb), .second, .val (.long qc), .second, .val (.long qd), .second, .val (.long qe), .second, .val (.int vk), .val (.int cv), .val (.ref bo), .val (.long (qa + qb)), .second] [])) _
          refine XS.goto X19.here hx rfl (pc0 := 138) (pc' := 195) rfl (hb hby at_138) (by decide) (by decide) ?_
          show Steps p.tables e below (T19.setTop (mkF m 195 #[.val (.int nn), .val (.long qa), .second, .val (.long qb), .second, .val (.long qc), .second, .val (.long qd), .second, .val (.long qe), .second, .val (.int vk), .val (.int cv), .val (.ref bo), .val (.long (qa + qb)), .second] [])) _
          have qex : ex = (qa + qb) := by rw [hex]; simp only [if_neg hd106_21, if_neg hd118_22, if_pos hd130_23]
          rw [qex] at kt
          exact kt
        · refine XS.icmpYes X19.here hx rfl (pc0 := 130) (pc' := 141) rfl (hb hby at_130) rfl (feq hd130_23).2 (by decide) (by decide) ?_
          show Steps p.tables e below (T19.setTop (mkF m 141 #[.val (.int nn), .val (.long qa), .second, .val (.long qb), .second, .val (.long qc), .second, .val (.long qd), .second, .val (.long qe), .second, .val (.int vk), .val (.int cv), .val (.ref bo), .unset, .unset] [])) _
          refine XS.iload X19.here hx rfl (hb hby at_141) rfl ?_
          show Steps p.tables e below (T19.setTop (mkF m 143 #[.val (.int nn), .val (.long qa), .second, .val (.long qb), .second, .val (.long qc), .second, .val (.long qd), .second, .val (.long qe), .second, .val (.int vk), .val (.int cv), .val (.ref bo), .unset, .unset] [(.int vk)])) _
          refine XS.iconst X19.here hx rfl (hb hby at_143) ?_
          show Steps p.tables e below (T19.setTop (mkF m 144 #[.val (.int nn), .val (.long qa), .second, .val (.long qb), .second, .val (.long qc), .second, .val (.long qd), .second, .val (.long qe), .second, .val (.int vk), .val (.int cv), .val (.ref bo), .unset, .unset] [(.int (3 : Int32)), (.int vk)])) _
          by_cases hd144_24 : vk = (3 : Int32)
          · refine XS.icmpNo X19.here hx rfl (hb hby at_144) rfl (teq hd144_24).2 ?_
            show Steps p.tables e below (T19.setTop (mkF m 147 #[.val (.int nn), .val (.long qa), .second, .val (.long qb), .second, .val (.long qc), .second, .val (.long qd), .second, .val (.long qe), .second, .val (.int vk), .val (.int cv), .val (.ref bo), .unset, .unset] [])) _
            refine XS.lloadN X19.here hx rfl (hb hby at_147) rfl ?_
            show Steps p.tables e below (T19.setTop (mkF m 148 #[.val (.int nn), .val (.long qa), .second, .val (.long qb), .second, .val (.long qc), .second, .val (.long qd), .second, .val (.long qe), .second, .val (.int vk), .val (.int cv), .val (.ref bo), .unset, .unset] [(.long qa)])) _
            refine XS.lloadN X19.here hx rfl (hb hby at_148) rfl ?_
            show Steps p.tables e below (T19.setTop (mkF m 149 #[.val (.int nn), .val (.long qa), .second, .val (.long qb), .second, .val (.long qc), .second, .val (.long qd), .second, .val (.long qe), .second, .val (.int vk), .val (.int cv), .val (.ref bo), .unset, .unset] [(.long qb), (.long qa)])) _
            refine XS.ladd X19.here hx rfl (hb hby at_149) rfl ?_
            show Steps p.tables e below (T19.setTop (mkF m 150 #[.val (.int nn), .val (.long qa), .second, .val (.long qb), .second, .val (.long qc), .second, .val (.long qd), .second, .val (.long qe), .second, .val (.int vk), .val (.int cv), .val (.ref bo), .unset, .unset] [(.long (qa + qb))])) _
            refine XS.lload X19.here hx rfl (hb hby at_150) rfl ?_
            show Steps p.tables e below (T19.setTop (mkF m 152 #[.val (.int nn), .val (.long qa), .second, .val (.long qb), .second, .val (.long qc), .second, .val (.long qd), .second, .val (.long qe), .second, .val (.int vk), .val (.int cv), .val (.ref bo), .unset, .unset] [(.long qc), (.long (qa + qb))])) _
            refine XS.ladd X19.here hx rfl (hb hby at_152) rfl ?_
            show Steps p.tables e below (T19.setTop (mkF m 153 #[.val (.int nn), .val (.long qa), .second, .val (.long qb), .second, .val (.long qc), .second, .val (.long qd), .second, .val (.long qe), .second, .val (.int vk), .val (.int cv), .val (.ref bo), .unset, .unset] [(.long ((qa + qb) + qc))])) _
            refine XS.lstore X19.here hx rfl (hb hby at_153) rfl (l' := #[.val (.int nn), .val (.long qa), .second, .val (.long qb), .second, .val (.long qc), .second, .val (.long qd), .second, .val (.long qe), .second, .val (.int vk), .val (.int cv), .val (.ref bo), .val (.long ((qa + qb) + qc)), .second]) rfl ?_
            show Steps p.tables e below (T19.setTop (mkF m 155 #[.val (.int nn), .val (.long qa), .second, .val (.long qb), .second, .val (.long qc), .second, .val (.long qd), .second, .val (.long qe), .second, .val (.int vk), .val (.int cv), .val (.ref bo), .val (.long ((qa + qb) + qc)), .second] [])) _
            refine XS.goto X19.here hx rfl (pc0 := 155) (pc' := 195) rfl (hb hby at_155) (by decide) (by decide) ?_
            show Steps p.tables e below (T19.setTop (mkF m 195 #[.val (.int nn), .val (.long qa), .second, .val (.long qb), .second, .val (.long qc), .second, .val (.long qd), .second, .val (.long qe), .second, .val (.int vk), .val (.int cv), .val (.ref bo), .val (.long ((qa + qb) + qc)), .second] [])) _
            have qex : ex = ((qa + qb) + qc) := by rw [hex]; simp only [if_neg hd106_21, if_neg hd118_22, if_neg hd130_23, if_pos hd144_24]
            rw [qex] at kt
            exact kt
          · refine XS.icmpYes X19.here hx rfl (pc0 := 144) (pc' := 158) rfl (hb hby at_144) rfl (feq hd144_24).2 (by decide) (by decide) ?_
            show Steps p.tables e below (T19.setTop (mkF m 158 #[.val (.int nn), .val (.long qa), .second, .val (.long qb), .second, .val (.long qc), .second, .val (.long qd), .second, .val (.long qe), .second, .val (.int vk), .val (.int cv), .val (.ref bo), .unset, .unset] [])) _
            refine XS.iload X19.here hx rfl (hb hby at_158) rfl ?_
            show Steps p.tables e below (T19.setTop (mkF m 160 #[.val (.int nn), .val (.long qa), .second, .val (.long qb), .second, .val (.long qc), .second, .val (.long qd), .second, .val (.long qe), .second, .val (.int vk), .val (.int cv), .val (.ref bo), .unset, .unset] [(.int vk)])) _
            refine XS.iconst X19.here hx rfl (hb hby at_160) ?_
            show Steps p.tables e below (T19.setTop (mkF m 161 #[.val (.int nn), .val (.long qa), .second, .val (.long qb), .second, .val (.long qc), .second, .val (.long qd), .second, .val (.long qe), .second, .val (.int vk), .val (.int cv), .val (.ref bo), .unset, .unset] [(.int (4 : Int32)), (.int vk)])) _
            by_cases hd161_25 : vk = (4 : Int32)
            · refine XS.icmpNo X19.here hx rfl (hb hby at_161) rfl (teq hd161_25).2 ?_
              show Steps p.tables e below (T19.setTop (mkF m 164 #[.val (.int nn), .val (.long qa), .second, .val (.long qb), .second, .val (.long qc), .second, .val (.long qd), .second, .val (.long qe), .second, .val (.int vk), .val (.int cv), .val (.ref bo), .unset, .unset] [])) _
              refine XS.lloadN X19.here hx rfl (hb hby at_164) rfl ?_
              show Steps p.tables e below (T19.setTop (mkF m 165 #[.val (.int nn), .val (.long qa), .second, .val (.long qb), .second, .val (.long qc), .second, .val (.long qd), .second, .val (.long qe), .second, .val (.int vk), .val (.int cv), .val (.ref bo), .unset, .unset] [(.long qa)])) _
              refine XS.lloadN X19.here hx rfl (hb hby at_165) rfl ?_
              show Steps p.tables e below (T19.setTop (mkF m 166 #[.val (.int nn), .val (.long qa), .second, .val (.long qb), .second, .val (.long qc), .second, .val (.long qd), .second, .val (.long qe), .second, .val (.int vk), .val (.int cv), .val (.ref bo), .unset, .unset] [(.long qb), (.long qa)])) _
              refine XS.ladd X19.here hx rfl (hb hby at_166) rfl ?_
              show Steps p.tables e below (T19.setTop (mkF m 167 #[.val (.int nn), .val (.long qa), .second, .val (.long qb), .second, .val (.long qc), .second, .val (.long qd), .second, .val (.long qe), .second, .val (.int vk), .val (.int cv), .val (.ref bo), .unset, .unset] [(.long (qa + qb))])) _
              refine XS.lload X19.here hx rfl (hb hby at_167) rfl ?_
              show Steps p.tables e below (T19.setTop (mkF m 169 #[.val (.int nn), .val (.long qa), .second, .val (.long qb), .second, .val (.long qc), .second, .val (.long qd), .second, .val (.long qe), .second, .val (.int vk), .val (.int cv), .val (.ref bo), .unset, .unset] [(.long qc), (.long (qa + qb))])) _
              refine XS.ladd X19.here hx rfl (hb hby at_169) rfl ?_
              show Steps p.tables e below (T19.setTop (mkF m 170 #[.val (.int nn), .val (.long qa), .second, .val (.long qb), .second, .val (.long qc), .second, .val (.long qd), .second, .val (.long qe), .second, .val (.int vk), .val (.int cv), .val (.ref bo), .unset, .unset] [(.long ((qa + qb) + qc))])) _
              refine XS.lload X19.here hx rfl (hb hby at_170) rfl ?_
              show Steps p.tables e below (T19.setTop (mkF m 172 #[.val (.int nn), .val (.long qa), .second, .val (.long qb), .second, .val (.long qc), .second, .val (.long qd), .second, .val (.long qe), .second, .val (.int vk), .val (.int cv), .val (.ref bo), .unset, .unset] [(.long qd), (.long ((qa + qb) + qc))])) _
              refine XS.ladd X19.here hx rfl (hb hby at_172) rfl ?_
              show Steps p.tables e below (T19.setTop (mkF m 173 #[.val (.int nn), .val (.long qa), .second, .val (.long qb), .second, .val (.long qc), .second, .val (.long qd), .second, .val (.long qe), .second, .val (.int vk), .val (.int cv), .val (.ref bo), .unset, .unset] [(.long (((qa + qb) + qc) + qd))])) _
              refine XS.lstore X19.here hx rfl (hb hby at_173) rfl (l' := #[.val (.int nn), .val (.long qa), .second, .val (.long qb), .second, .val (.long qc), .second, .val (.long qd), .second, .val (.long qe), .second, .val (.int vk), .val (.int cv), .val (.ref bo), .val (.long (((qa + qb) + qc) + qd)), .second]) rfl ?_
              show Steps p.tables e below (T19.setTop (mkF m 175 #[.val (.int nn), .val (.long qa), .second, .val (.long qb), .second, .val (.long qc), .second, .val (.long qd), .second, .val (.long qe), .second, .val (.int vk), .val (.int cv), .val (.ref bo), .val (.long (((qa + qb) + qc) + qd)), .second] [])) _
              refine XS.goto X19.here hx rfl (pc0 := 175) (pc' := 195) rfl (hb hby at_175) (by decide) (by decide) ?_
              show Steps p.tables e below (T19.setTop (mkF m 195 #[.val (.int nn), .val (.long qa), .second, .val (.long qb), .second, .val (.long qc), .second, .val (.long qd), .second, .val (.long qe), .second, .val (.int vk), .val (.int cv), .val (.ref bo), .val (.long (((qa + qb) + qc) + qd)), .second] [])) _
              have qex : ex = (((qa + qb) + qc) + qd) := by rw [hex]; simp only [if_neg hd106_21, if_neg hd118_22, if_neg hd130_23, if_neg hd144_24, if_pos hd161_25]
              rw [qex] at kt
              exact kt
            · refine XS.icmpYes X19.here hx rfl (pc0 := 161) (pc' := 178) rfl (hb hby at_161) rfl (feq hd161_25).2 (by decide) (by decide) ?_
              show Steps p.tables e below (T19.setTop (mkF m 178 #[.val (.int nn), .val (.long qa), .second, .val (.long qb), .second, .val (.long qc), .second, .val (.long qd), .second, .val (.long qe), .second, .val (.int vk), .val (.int cv), .val (.ref bo), .unset, .unset] [])) _
              refine XS.lloadN X19.here hx rfl (hb hby at_178) rfl ?_
              show Steps p.tables e below (T19.setTop (mkF m 179 #[.val (.int nn), .val (.long qa), .second, .val (.long qb), .second, .val (.long qc), .second, .val (.long qd), .second, .val (.long qe), .second, .val (.int vk), .val (.int cv), .val (.ref bo), .unset, .unset] [(.long qa)])) _
              refine XS.lloadN X19.here hx rfl (hb hby at_179) rfl ?_
              show Steps p.tables e below (T19.setTop (mkF m 180 #[.val (.int nn), .val (.long qa), .second, .val (.long qb), .second, .val (.long qc), .second, .val (.long qd), .second, .val (.long qe), .second, .val (.int vk), .val (.int cv), .val (.ref bo), .unset, .unset] [(.long qb), (.long qa)])) _
              refine XS.ladd X19.here hx rfl (hb hby at_180) rfl ?_
              show Steps p.tables e below (T19.setTop (mkF m 181 #[.val (.int nn), .val (.long qa), .second, .val (.long qb), .second, .val (.long qc), .second, .val (.long qd), .second, .val (.long qe), .second, .val (.int vk), .val (.int cv), .val (.ref bo), .unset, .unset] [(.long (qa + qb))])) _
              refine XS.lload X19.here hx rfl (hb hby at_181) rfl ?_
              show Steps p.tables e below (T19.setTop (mkF m 183 #[.val (.int nn), .val (.long qa), .second, .val (.long qb), .second, .val (.long qc), .second, .val (.long qd), .second, .val (.long qe), .second, .val (.int vk), .val (.int cv), .val (.ref bo), .unset, .unset] [(.long qc), (.long (qa + qb))])) _
              refine XS.ladd X19.here hx rfl (hb hby at_183) rfl ?_
              show Steps p.tables e below (T19.setTop (mkF m 184 #[.val (.int nn), .val (.long qa), .second, .val (.long qb), .second, .val (.long qc), .second, .val (.long qd), .second, .val (.long qe), .second, .val (.int vk), .val (.int cv), .val (.ref bo), .unset, .unset] [(.long ((qa + qb) + qc))])) _
              refine XS.lload X19.here hx rfl (hb hby at_184) rfl ?_
              show Steps p.tables e below (T19.setTop (mkF m 186 #[.val (.int nn), .val (.long qa), .second, .val (.long qb), .second, .val (.long qc), .second, .val (.long qd), .second, .val (.long qe), .second, .val (.int vk), .val (.int cv), .val (.ref bo), .unset, .unset] [(.long qd), (.long ((qa + qb) + qc))])) _
              refine XS.ladd X19.here hx rfl (hb hby at_186) rfl ?_
              show Steps p.tables e below (T19.setTop (mkF m 187 #[.val (.int nn), .val (.long qa), .second, .val (.long qb), .second, .val (.long qc), .second, .val (.long qd), .second, .val (.long qe), .second, .val (.int vk), .val (.int cv), .val (.ref bo), .unset, .unset] [(.long (((qa + qb) + qc) + qd))])) _
              refine XS.lload X19.here hx rfl (hb hby at_187) rfl ?_
              show Steps p.tables e below (T19.setTop (mkF m 189 #[.val (.int nn), .val (.long qa), .second, .val (.long qb), .second, .val (.long qc), .second, .val (.long qd), .second, .val (.long qe), .second, .val (.int vk), .val (.int cv), .val (.ref bo), .unset, .unset] [(.long qe), (.long (((qa + qb) + qc) + qd))])) _
              refine XS.ladd X19.here hx rfl (hb hby at_189) rfl ?_
              show Steps p.tables e below (T19.setTop (mkF m 190 #[.val (.int nn), .val (.long qa), .second, .val (.long qb), .second, .val (.long qc), .second, .val (.long qd), .second, .val (.long qe), .second, .val (.int vk), .val (.int cv), .val (.ref bo), .unset, .unset] [(.long ((((qa + qb) + qc) + qd) + qe))])) _
              refine XS.lload X19.here hx rfl (hb hby at_190) rfl ?_
              show Steps p.tables e below (T19.setTop (mkF m 192 #[.val (.int nn), .val (.long qa), .second, .val (.long qb), .second, .val (.long qc), .second, .val (.long qd), .second, .val (.long qe), .second, .val (.int vk), .val (.int cv), .val (.ref bo), .unset, .unset] [(.long qe), (.long ((((qa + qb) + qc) + qd) + qe))])) _
              refine XS.ladd X19.here hx rfl (hb hby at_192) rfl ?_
              show Steps p.tables e below (T19.setTop (mkF m 193 #[.val (.int nn), .val (.long qa), .second, .val (.long qb), .second, .val (.long qc), .second, .val (.long qd), .second, .val (.long qe), .second, .val (.int vk), .val (.int cv), .val (.ref bo), .unset, .unset] [(.long (((((qa + qb) + qc) + qd) + qe) + qe))])) _
              refine XS.lstore X19.here hx rfl (hb hby at_193) rfl (l' := #[.val (.int nn), .val (.long qa), .second, .val (.long qb), .second, .val (.long qc), .second, .val (.long qd), .second, .val (.long qe), .second, .val (.int vk), .val (.int cv), .val (.ref bo), .val (.long (((((qa + qb) + qc) + qd) + qe) + qe)), .second]) rfl ?_
              show Steps p.tables e below (T19.setTop (mkF m 195 #[.val (.int nn), .val (.long qa), .second, .val (.long qb), .second, .val (.long qc), .second, .val (.long qd), .second, .val (.long qe), .second, .val (.int vk), .val (.int cv), .val (.ref bo), .val (.long (((((qa + qb) + qc) + qd) + qe) + qe)), .second] [])) _
              have qex : ex = (((((qa + qb) + qc) + qd) + qe) + qe) := by rw [hex]; simp only [if_neg hd106_21, if_neg hd118_22, if_neg hd130_23, if_neg hd144_24, if_neg hd161_25]
              rw [qex] at kt
              exact kt
  refine Go.step st20 ?_
  show Go _ _ _ _ _ _ _ (T19.setTop (mkF m 195 #[.val (.int nn), .val (.long qa), .second, .val (.long qb), .second, .val (.long qc), .second, .val (.long qd), .second, .val (.long qe), .second, .val (.int vk), .val (.int cv), .val (.ref bo), .val (.long ex), .second] []))
  refine Go.step (fun t k => XS.aload X19.here hx rfl (hb hby at_195) rfl rfl k) ?_
  show Go _ _ _ _ _ _ _ (T19.setTop (mkF m 197 #[.val (.int nn), .val (.long qa), .second, .val (.long qb), .second, .val (.long qc), .second, .val (.long qd), .second, .val (.long qe), .second, .val (.int vk), .val (.int cv), .val (.ref bo), .val (.long ex), .second] [(.ref bo)]))
  obtain ⟨cq26, kq26, q26a, q26b, q26c⟩ := isOf hZ e19 E_bo
  obtain ⟨_, _, ⟨T26, L26, k26, n26⟩, -, X26, ⟨Lc26, hQ26, l26, y26, z26⟩, st26⟩ := X19.virtualBack hx (y := (⟨"com/example/rootkeep/rootkeep/object/SortedTree$Inner", "entries", "()J"⟩ : MethodName)) (z := (⟨"com/example/rootkeep/rootkeep/object/SortedTree$Inner", "entries", "()J"⟩ : MethodName)) hown (mvT hZ (hw _ (List.mem_of_getElem? (i := 34) rfl))) (mvT hZ (hw _ (List.mem_of_getElem? (i := 35) rfl))) (notFace_of_selects (args := #[]) (mvT hZ (hw _ (List.mem_of_getElem? (i := 37) rfl)))) (mvT hZ (hw _ (List.mem_of_getElem? (i := 37) rfl))) (mvT hZ (hw _ (List.mem_of_getElem? (i := 36) rfl))) (by decide) (backOf (W := 0) (rm4 l Z a0 hw [] bo cv bz_4 (up (up (up (up (up (up (up (fun _ => (0 : Int64)) 0 qa) 1 qb) 2 qc) 3 qd) 4 qe) 63 qe) 64 qe) (cv.toInt.toNat) h19 n0 Z19 F_count_bo F_sizes_bo A_bz_4 (own_cnt (own_six hvk) hcv).1 (own_cnt (own_six hvk) hcv).2) hZ (hw _ (List.mem_of_getElem? (i := 38) rfl)) (hw _ (List.mem_of_getElem? (i := 3) rfl)) (by decide) (by decide)) q26a q26c (g := (mkF m 197 #[.val (.int nn), .val (.long qa), .second, .val (.long qb), .second, .val (.long qc), .second, .val (.long qd), .second, .val (.long qe), .second, .val (.int vk), .val (.int cv), .val (.ref bo), .val (.long ex), .second] [(.ref bo)])) rfl (by rw [hml]; rfl) (Steps.refl _) (argsL := []) (rest := []) (lenOf pd_0_1 rfl) rfl (by show 2 * 0 + _ ≤ _; exact Nat.le_of_eq rfl) (hb hby at_197) (fun _ _ => ⟨rfl, e19, (by decide : 5 + 0 ≤ _), (by decide : 267 + 0 ≤ _)⟩)
  dsimp only [Pt.U, Pt.locs, Pt.cells, Pt.slots] at X26 l26 y26 z26 st26 hQ26
  subst l26 y26 z26
  obtain ⟨rfl, N26q, K26q⟩ := hQ26
  have N26 := Fr.app N19 N26q
  refine Go.step (fun t k => st26.trans k) ?_
  show Go _ _ _ _ _ _ _ (T26.setTop (mkF m 200 #[.val (.int nn), .val (.long qa), .second, .val (.long qb), .second, .val (.long qc), .second, .val (.long qd), .second, .val (.long qe), .second, .val (.int vk), .val (.int cv), .val (.ref bo), .val (.long ex), .second] [(.long (own_sum (up (up (up (up (up (up (up (fun _ => (0 : Int64)) 0 qa) 1 qb) 2 qc) 3 qd) 4 qe) 63 qe) 64 qe) (cv.toInt.toNat)))]))
  refine Go.step (fun t k => XS.lload X26.here hx rfl (hb hby at_200) rfl k) ?_
  show Go _ _ _ _ _ _ _ (T26.setTop (mkF m 202 #[.val (.int nn), .val (.long qa), .second, .val (.long qb), .second, .val (.long qc), .second, .val (.long qd), .second, .val (.long qe), .second, .val (.int vk), .val (.int cv), .val (.ref bo), .val (.long ex), .second] [(.long ex), (.long (own_sum (up (up (up (up (up (up (up (fun _ => (0 : Int64)) 0 qa) 1 qb) 2 qc) 3 qd) 4 qe) 63 qe) 64 qe) (cv.toInt.toNat)))]))
  refine Go.step (fun t k => XS.lcmp X26.here hx rfl (hb hby at_202) rfl k) ?_
  show Go _ _ _ _ _ _ _ (T26.setTop (mkF m 203 #[.val (.int nn), .val (.long qa), .second, .val (.long qb), .second, .val (.long qc), .second, .val (.long qd), .second, .val (.long qe), .second, .val (.int vk), .val (.int cv), .val (.ref bo), .val (.long ex), .second] [(.int (lcmpW (own_sum (up (up (up (up (up (up (up (fun _ => (0 : Int64)) 0 qa) 1 qb) 2 qc) 3 qd) 4 qe) 63 qe) 64 qe) (cv.toInt.toNat)) ex))]))
  refine Go.step (fun t k => XS.ifNo X26.here hx rfl (hb hby at_203) rfl ((if0 _ _).trans (teq (own_lweq (own_fin (own_six hvk) hcv hex : (own_sum (up (up (up (up (up (up (up (fun _ => (0 : Int64)) 0 qa) 1 qb) 2 qc) 3 qd) 4 qe) 63 qe) 64 qe) (cv.toInt.toNat)) = ex))).2) k) ?_
  show Go _ _ _ _ _ _ _ (T26.setTop (mkF m 206 #[.val (.int nn), .val (.long qa), .second, .val (.long qb), .second, .val (.long qc), .second, .val (.long qd), .second, .val (.long qe), .second, .val (.int vk), .val (.int cv), .val (.ref bo), .val (.long ex), .second] []))
  refine Go.step (fun t k => XS.iconst X26.here hx rfl (hb hby at_206) k) ?_
  show Go _ _ _ _ _ _ _ (T26.setTop (mkF m 207 #[.val (.int nn), .val (.long qa), .second, .val (.long qb), .second, .val (.long qc), .second, .val (.long qd), .second, .val (.long qe), .second, .val (.int vk), .val (.int cv), .val (.ref bo), .val (.long ex), .second] [(.int (1 : Int32))]))
  refine Go.step (fun t k => XS.goto X26.here hx rfl (pc0 := 207) (pc' := 211) rfl (hb hby at_207) (by decide) (by decide) k) ?_
  show Go _ _ _ _ _ _ _ (T26.setTop (mkF m 211 #[.val (.int nn), .val (.long qa), .second, .val (.long qb), .second, .val (.long qc), .second, .val (.long qd), .second, .val (.long qe), .second, .val (.int vk), .val (.int cv), .val (.ref bo), .val (.long ex), .second] [(.int (1 : Int32))]))
  refine Go.retN X26 Bd.notSynchronized hx (t := .boolean) Bd.returns (by simp) (hb hby at_211) (by decide) (by decide) (1 : Int32) rfl ?_
  rw [K26q]
  exact ⟨rfl, N26⟩
set_option maxRecDepth 65536 in
set_option maxHeartbeats 40000000 in
theorem comes_1 {Post : Tables → Env → Array Value → State → Outcome → State → Prop} (hpost : ∀ tb e args s v u, (limb_1_1.after args s (.returned v) u = true ∧ limb_1_2.after args s (.returned v) u = true ∧ True) → FrameEnd s (.returned v) u (Jvm.fieldLocs frame_1_writes args s ++ Jvm.arrayLocs frame_1_arrays args s ++ Jvm.staticLocs frame_1_statics s) 24 640 → Post tb e args s (.returned v) u) :
    ArmFor flags0 classFile x code maxLocals ret World_1 tables_1 room_1 Calls_1 rest_1 Pre_1 Post := by
  intro l hfl _ _ p e ha hc hk s m args below hf hA hF happ hP
  obtain ⟨hcalls, hrest, hpre⟩ := hP
  obtain ⟨-, -, -, hnamed, -, -, -, hat⟩ := (Spec.applies_iff hf).mp happ
  obtain ⟨hg, hn⟩ := and_e (Cond.before_iff.mp (show (Jvm.Cond.and given_1 narrow_1).before args s = true from hpre))
  obtain ⟨gv1, gv2⟩ := and_e hg
  obtain ⟨gv3, gv4⟩ := and_e gv2
  obtain ⟨gv5, gv6⟩ := and_e gv4
  obtain ⟨gv7, gv8⟩ := and_e gv6
  obtain ⟨gv9, gv10⟩ := and_e gv8
  obtain ⟨gv11, gv12⟩ := and_e gv10
  obtain ⟨w0, w1, w2, w3, w4, w5, rfl⟩ : ∃ w0 w1 w2 w3 w4 w5 : Value, args = #[w0, w1, w2, w3, w4, w5] := by
    have hs : args.size = 6 := by simpa [Cond.value, given_1] using gv1
    obtain ⟨L⟩ := args
    match L, hs with
    | [w0, w1, w2, w3, w4, w5], _ => exact ⟨w0, w1, w2, w3, w4, w5, rfl⟩
  have hw := fun d (hd : d ∈ tables_1) => atoms_spec (ws := Jvm.Cond.code x code maxLocals ret :: tables_1) hat d (List.mem_cons_of_mem _ hd)
  have hfit : Fit s := fun {y c} hc i hi => by
    obtain ⟨ha, rfl⟩ := Array.getElem?_eq_some_iff.mp hc
    have q := List.all_eq_true.mp ((Array.all_eq_true_iff_forall_mem.mp hF) _ (Array.getElem_mem ha)) i (List.mem_range.mpr hi)
    simpa [Array.getElem?_eq_getElem hi] using q
  obtain ⟨i0, ei0⟩ := is_v gv3
  obtain rfl : w0 = (.int i0) := Option.some.inj ei0
  obtain ⟨i1, ei1⟩ := isL_v gv5
  obtain rfl : w1 = (.long i1) := Option.some.inj ei1
  obtain ⟨i2, ei2⟩ := isL_v gv7
  obtain rfl : w2 = (.long i2) := Option.some.inj ei2
  obtain ⟨i3, ei3⟩ := isL_v gv9
  obtain rfl : w3 = (.long i3) := Option.some.inj ei3
  obtain ⟨i4, ei4⟩ := isL_v gv11
  obtain rfl : w4 = (.long i4) := Option.some.inj ei4
  obtain ⟨i5, ei5⟩ := isL_v gv12
  obtain rfl : w5 = (.long i5) := Option.some.inj ei5
  obtain ⟨n, o, h1, h2, h3, _, L, rfl, ⟨rfl, N⟩, hq⟩ := rm0 l s _ hw tables_1 i0 i1 i2 i3 i4 i5 s.heap s.heap.size (Nat.le_refl _) p e ha hc hk s m _ below hf ((Spec.applies_iff_loose hf).mp happ).1 ⟨rfl, State.Warmed39.refl s, rfl⟩ trivial
  refine ⟨n, _, h1, h2, h3, hpost _ _ _ _ _ _ ⟨Cond.after_iff.mpr rfl, Cond.after_iff.mpr (eq_i res_at (Term.int_eval (1)) rfl), trivial⟩ ⟨hq.1, hq.2.1, (hq.2.2.sift fun y hy => Or.inr (N y hy)).mono (by decide) (by decide)⟩⟩
theorem main_1_1 : Claimed_1_1 := comes_1 fun _ _ _ _ _ _ h hF => ⟨h.1, hF⟩
theorem main_1_2 : Claimed_1_2 := comes_1 fun _ _ _ _ _ _ h hF => ⟨h.2.1, hF⟩
end Jvm.Pilot.@@N@@
namespace Jvm.Pilot.@@N@@
open Jvm Jvm.ClassFile Sem Op Lib Jvm.Free Jvm.Stand Jvm.Pilot.@@N@@.Jvm.D
/-! MADE BY PROGRAM (witnessworld.py) out of the Statement's table words and the real class files: 14 classes; the members and pool entries that the words name. The judged class is class 1, her method 1. -/
namespace start1
open Jvm.ClassFile
def u (s : String) : CpInfo := .utf8 (stringToUtf16 s)
/-- a pool by its gaps: so many unusable entries, then the entry; so many at the end -/
def gap : Nat → List CpInfo → List CpInfo
  | 0, r => r
  | n + 1, r => .unusable :: gap n r
def poolList (es : List (Nat × CpInfo)) (last : Nat) : List CpInfo := es.foldr (fun e r => gap e.1 (e.2 :: r)) (gap last [])
def pool (es : List (Nat × CpInfo)) (last : Nat) : Array CpInfo := ⟨poolList es last⟩
def fileOf (pool : Array CpInfo) (this : Nat) (attrs : Array Attribute := #[]) (ms : Array MethodInfo := #[]) (fl : Nat := 33) (sup : Nat := 0) (ifs : Array Nat := #[]) (fds : Array FieldInfo := #[]) : ClassFile where
  minorVersion := 0
  majorVersion := 65
  constantPool := pool
  accessFlags := fl
  thisClass := this
  superClass := sup
  interfaces := ifs
  fields := fds
  methods := ms
  attributes := attrs
def plain (name : String) (sup : Option ClassId) : Class where
  name := name
  kind := .ordinary
  loader := none
  accessFlags := 33
  super := sup
  interfaces := #[]
  cf := none
  fields := #[]
  methods := #[]
  instanceTypes := #[]
  staticTypes := #[]
  resolved := #[]
  callSites := []
  init := .initialized
  statics := none
  mirror := none

def pool0 : Array CpInfo := pool [(5, u "<init>"), (0, u "()V"), (1, .class_ 10), (1, u "java/lang/Object")] 113

def k0c0 : Code := { maxStack := 0, maxLocals := 1, code := object_method_1_code, exceptionTable := #[], attributes := #[] }
def k0m0 : Method := { name := "<init>", desc := "()V", sig := { parameters := [], returnType := none }, accessFlags := 1, code := some k0c0 }
/-- java/lang/Object -/
def k0 : Class := { plain "java/lang/Object" none with
  accessFlags := 33
  interfaces := #[]
  cf := some (fileOf pool0 8 #[] #[{ accessFlags := 1, nameIndex := 5, descriptorIndex := 6, attributes := #[] }] 33 0 #[] #[])
  fields := #[]
  methods := #[k0m0]
  instanceTypes := #[]
  staticTypes := #[]
  resolved := Array.replicate 124 none
  statics := none }

def pool1 : Array CpInfo := pool [(2, .class_ 4), (1, u "java/lang/Object"), (0, u "<init>"), (0, u "()V"), (0, .integer 2147483647), (0, .class_ 9), (0, u "com/example/rootkeep/rootkeep/object/SortedTree$Inner"), (0, .methodref 8 11), (0, .nameAndType 5 12), (0, u "(I)V"), (0, .fieldref 8 14), (0, .nameAndType 15 16), (0, u "sizes"), (0, u "[J"), (0, .fieldref 8 18), (0, .nameAndType 19 20), (0, u "count"), (0, u "I"), (0, .methodref 8 22), (0, .nameAndType 23 24), (0, u "entries"), (0, u "()J"), (0, .class_ 26), (0, u "com/example/rootkeep/rootkeep/object/InnerEntriesPinLaw"), (2, u "law"), (0, u "(IJJJJJ)Z")] 7

def k1m0 : Method := { name := "<init>", desc := "()V", sig := { parameters := [], returnType := none }, accessFlags := 2, code := none }
def k1c1 : Code := { maxStack := 4, maxLocals := 16, code := code, exceptionTable := #[], attributes := #[] }
def k1m1 : Method := { name := "law", desc := "(IJJJJJ)Z", sig := { parameters := [.int, .long, .long, .long, .long, .long], returnType := some .boolean }, accessFlags := 9, code := some k1c1 }
/-- com/example/rootkeep/rootkeep/object/InnerEntriesPinLaw -/
def k1 : Class := { plain "com/example/rootkeep/rootkeep/object/InnerEntriesPinLaw" (some 0) with
  accessFlags := 49
  interfaces := #[]
  cf := some (fileOf pool1 25 #[] #[{ accessFlags := 2, nameIndex := 5, descriptorIndex := 6, attributes := #[] }, { accessFlags := 9, nameIndex := 29, descriptorIndex := 30, attributes := #[] }] 49 2 #[] #[])
  fields := #[]
  methods := #[k1m0, k1m1]
  instanceTypes := #[]
  staticTypes := #[]
  resolved := Array.replicate 38 none
  statics := none }

def pool2 : Array CpInfo := pool [(1, .class_ 2), (0, u "com/example/rootkeep/rootkeep/object/SortedTree"), (0, .methodref 4 5), (0, .class_ 6), (0, .nameAndType 7 8), (0, u "java/lang/Object"), (0, u "<init>"), (0, u "()V"), (0, .fieldref 10 11), (0, .class_ 12), (0, .nameAndType 13 14), (0, u "com/example/rootkeep/rootkeep/object/SortedTree$Node"), (0, u "generation"), (0, u "I"), (0, .fieldref 10 16), (0, .nameAndType 17 18), (0, u "keys"), (0, u "[Ljava/lang/Object;"), (4, u "count"), (4, u "id"), (0, u "J"), (0, u "(I)V")] 26

def k2c0 : Code := { maxStack := 2, maxLocals := 2, code := prog_83_method_1_code, exceptionTable := #[], attributes := #[] }
def k2m0 : Method := { name := "<init>", desc := "(I)V", sig := { parameters := [.int], returnType := none }, accessFlags := 0, code := some k2c0 }
/-- com/example/rootkeep/rootkeep/object/SortedTree$Node -/
def k2 : Class := { plain "com/example/rootkeep/rootkeep/object/SortedTree$Node" (some 0) with
  accessFlags := 1056
  interfaces := #[]
  cf := some (fileOf pool2 10 #[.nestHost 1] #[{ accessFlags := 0, nameIndex := 7, descriptorIndex := 30, attributes := #[] }] 1056 4 #[] #[{ accessFlags := 0, nameIndex := 28, descriptorIndex := 29, attributes := #[] }, { accessFlags := 16, nameIndex := 13, descriptorIndex := 14, attributes := #[] }, { accessFlags := 0, nameIndex := 23, descriptorIndex := 14, attributes := #[] }, { accessFlags := 16, nameIndex := 17, descriptorIndex := 18, attributes := #[] }])
  fields := #[{ name := "id", type := .long, accessFlags := 0, slot := 0, constantValue := 0 }, { name := "generation", type := .int, accessFlags := 16, slot := 1, constantValue := 0 }, { name := "count", type := .int, accessFlags := 0, slot := 2, constantValue := 0 }, { name := "keys", type := (.array (.object "java/lang/Object")), accessFlags := 16, slot := 3, constantValue := 0 }]
  methods := #[k2m0]
  instanceTypes := #[.long, .int, .int, (.array (.object "java/lang/Object"))]
  staticTypes := #[]
  resolved := Array.replicate 57 none
  statics := none }

def pool3 : Array CpInfo := pool [(1, .class_ 2), (0, u "com/example/rootkeep/rootkeep/object/SortedTree"), (0, .methodref 4 5), (0, .class_ 6), (0, .nameAndType 7 8), (0, u "com/example/rootkeep/rootkeep/object/SortedTree$Node"), (0, u "<init>"), (0, u "(I)V"), (0, .fieldref 10 11), (0, .class_ 12), (0, .nameAndType 13 14), (0, u "com/example/rootkeep/rootkeep/object/SortedTree$Inner"), (0, u "children"), (0, u "[Lcom/example/rootkeep/rootkeep/object/SortedTree$Node;"), (0, .fieldref 10 16), (0, .nameAndType 17 18), (0, u "childIds"), (0, u "[J"), (0, .fieldref 10 20), (0, .nameAndType 21 18), (0, u "sizes"), (8, .fieldref 10 31), (0, .nameAndType 32 33), (0, u "count"), (0, u "I"), (8, u "entries"), (0, u "()J")] 56

def k3c0 : Code := { maxStack := 2, maxLocals := 2, code := prog_81_method_1_code, exceptionTable := #[], attributes := #[] }
def k3m0 : Method := { name := "<init>", desc := "(I)V", sig := { parameters := [.int], returnType := none }, accessFlags := 0, code := some k3c0 }
def k3c1 : Code := { maxStack := 4, maxLocals := 4, code := prog_81_method_5_code, exceptionTable := #[], attributes := #[] }
def k3m1 : Method := { name := "entries", desc := "()J", sig := { parameters := [], returnType := some .long }, accessFlags := 0, code := some k3c1 }
/-- com/example/rootkeep/rootkeep/object/SortedTree$Inner -/
def k3 : Class := { plain "com/example/rootkeep/rootkeep/object/SortedTree$Inner" (some 2) with
  accessFlags := 48
  interfaces := #[]
  cf := some (fileOf pool3 10 #[.nestHost 1] #[{ accessFlags := 0, nameIndex := 7, descriptorIndex := 8, attributes := #[] }, { accessFlags := 0, nameIndex := 42, descriptorIndex := 43, attributes := #[] }] 48 4 #[] #[{ accessFlags := 16, nameIndex := 13, descriptorIndex := 14, attributes := #[] }, { accessFlags := 16, nameIndex := 17, descriptorIndex := 18, attributes := #[] }, { accessFlags := 16, nameIndex := 21, descriptorIndex := 18, attributes := #[] }])
  fields := #[{ name := "children", type := (.array (.object "com/example/rootkeep/rootkeep/object/SortedTree$Node")), accessFlags := 16, slot := 4, constantValue := 0 }, { name := "childIds", type := (.array .long), accessFlags := 16, slot := 5, constantValue := 0 }, { name := "sizes", type := (.array .long), accessFlags := 16, slot := 6, constantValue := 0 }]
  methods := #[k3m0, k3m1]
  instanceTypes := #[.long, .int, .int, (.array (.object "java/lang/Object")), (.array (.object "com/example/rootkeep/rootkeep/object/SortedTree$Node")), (.array .long), (.array .long)]
  staticTypes := #[]
  resolved := Array.replicate 100 none
  statics := none }

def pool4 : Array CpInfo := pool [(1, u "java/lang/Cloneable"), (0, .class_ 1), (0, u "java/lang/Object"), (0, .class_ 3)] 3

/-- java/lang/Cloneable -/
def k4 : Class := { plain "java/lang/Cloneable" (some 0) with
  accessFlags := 1537
  interfaces := #[]
  cf := some (fileOf pool4 2 #[] #[] 1537 4 #[] #[])
  fields := #[]
  methods := #[]
  instanceTypes := #[]
  staticTypes := #[]
  resolved := Array.replicate 8 none
  statics := none }

def pool5 : Array CpInfo := pool [(1, u "java/io/Serializable"), (0, .class_ 1), (0, u "java/lang/Object"), (0, .class_ 3)] 3

/-- java/io/Serializable -/
def k5 : Class := { plain "java/io/Serializable" (some 0) with
  accessFlags := 1537
  interfaces := #[]
  cf := some (fileOf pool5 2 #[] #[] 1537 4 #[] #[])
  fields := #[]
  methods := #[]
  instanceTypes := #[]
  staticTypes := #[]
  resolved := Array.replicate 8 none
  statics := none }

/-- the primitive byte -/
def k6 : Class := { plain "byte" none with kind := .primitive 'B', accessFlags := 0x411 }
/-- [B -/
def k7 : Class := { plain "[B" (some 0) with kind := .array 6 .byte, interfaces := #[4, 5], accessFlags := 1041 }

/-- the primitive int -/
def k8 : Class := { plain "int" none with kind := .primitive 'I', accessFlags := 0x411 }
/-- [I -/
def k9 : Class := { plain "[I" (some 0) with kind := .array 8 .int, interfaces := #[4, 5], accessFlags := 1041 }

/-- the primitive long -/
def k10 : Class := { plain "long" none with kind := .primitive 'J', accessFlags := 0x411 }
/-- [J -/
def k11 : Class := { plain "[J" (some 0) with kind := .array 10 .long, interfaces := #[4, 5], accessFlags := 1041 }

/-- [Lcom/example/rootkeep/rootkeep/object/SortedTree$Node; -/
def k12 : Class := { plain "[Lcom/example/rootkeep/rootkeep/object/SortedTree$Node;" (some 0) with kind := .array 2 (.object "com/example/rootkeep/rootkeep/object/SortedTree$Node"), interfaces := #[4, 5], accessFlags := 1041 }

/-- [Ljava/lang/Object; -/
def k13 : Class := { plain "[Ljava/lang/Object;" (some 0) with kind := .array 0 (.object "java/lang/Object"), interfaces := #[4, 5], accessFlags := 1041 }

def heap : Heap := #[]
def classes : Array Class := #[k0, k1, k2, k3, k4, k5, k6, k7, k8, k9, k10, k11, k12, k13]
def interned : List (Array UInt16 × Addr) := []
def slotsUsed : Nat := 0
def theMethod : MethodId := ⟨1, 1⟩
def args0 : Array Value := #[.int 5, .long 7, .long 8, .long 9, .long 10, .long 11]
def aboutOver (below : List Frame) : State where
  vm := { classes := classes, interned := interned.toArray }
  heap := heap
  slotsUsed := slotsUsed
  threads := #[{ frames := .invoking theMethod args0 :: below }]
def below0 : List Frame := [.native { method := ⟨0, 0⟩, args := #[] }]
def about1 : State := aboutOver below0
def p0 : Program := .bare "" "" ""
def e0 : Env := launch0.env 0 0 0
theorem w_frames : about1.frames = Frame.invoking theMethod args0 :: below0 := rfl
set_option maxRecDepth 65536 in
theorem w_args : argsFit about1.vm theMethod args0 = true := by decide +kernel
set_option maxRecDepth 65536 in
theorem w_heap : heapFits about1 = true := by decide +kernel
set_option maxRecDepth 65536 in
theorem w_runnable : about1.curStatus? = some .runnable := by decide +kernel
set_option maxRecDepth 65536 in
theorem w_alone : about1.alone = true := by decide +kernel
set_option maxRecDepth 65536 in
theorem w_named : about1.methodNamed? x = some theMethod := by decide +kernel
set_option maxRecDepth 65536 in
theorem w_hears : about1.hears theMethod below0 = true := by decide +kernel
set_option maxRecDepth 65536 in
theorem w_ripe : about1.ripe theMethod args0 below0 = true := by decide +kernel
theorem w_running : about1.status = .running := rfl
set_option maxRecDepth 65536 in
theorem w_room : about1.hasRoom e0.platform room_1 = true :=
  launch0.hasRoom_least _ room_1 (by decide +kernel) (by decide +kernel) (by decide +kernel) (by decide +kernel) (by decide +kernel) (by decide +kernel)
theorem allAtoms_all (ts : List Jvm.Cond) (a : Array Jvm.Value) (st : Jvm.State) : (allAtoms ts).before a st = ts.all (fun c => c.before a st) := by
  induction ts with
  | nil => rfl
  | cons c t ih =>
    show (Jvm.Cond.and c (allAtoms t)).before a st = _
    rw [Jvm.Cond.before_and, ih, List.all_cons]
def words1 : List Jvm.Cond := Jvm.Cond.code x code maxLocals ret :: tables_1
/-- a 'code' word, met by the world's own term for the bytes: nothing is compared byte by byte -/
theorem code_word {y : MethodName} {bytes : ByteArray} {mx : Nat} {rt : Option FieldType} {a : Array Value} {s : State} {m : MethodId} {meth : Method} {c : Code} (h1 : s.methodNamed? y = some m) (h2 : s.vm.method? m = some meth) (h3 : meth.code = some c) (h4 : c.code = bytes)
    (h5 : (c.maxLocals == mx && c.exceptionTable.isEmpty && decide (c.maxStack ≤ mostOperands) && decide (meth.sig.returnType = rt) && !meth.locks && decide (parseMethodDescriptor y.desc = some meth.sig)) = true) : (Jvm.Cond.code y bytes mx rt).before a s = true := by
  simp only [Bool.and_eq_true, beq_iff_eq, Bool.not_eq_true', decide_eq_true_eq] at h5
  obtain ⟨⟨⟨⟨⟨g1, g2⟩, g3⟩, g4⟩, g5⟩, g6⟩ := h5
  simp [Cond.before, Cond.holds, Cond.value, h1, h2, h3, h4, g1, g2, g3, g4, g5, g6]
def isCode : Jvm.Cond → Bool
  | .code _ _ _ _ => true
  | _ => false
theorem all_split {L : List Jvm.Cond} {P : Jvm.Cond → Bool} (h1 : L.all (fun c => isCode c || P c) = true) (h2 : ∀ c ∈ L.filter isCode, P c = true) : L.all P = true := by
  refine List.all_eq_true.mpr fun c hc => ?_
  have h := List.all_eq_true.mp h1 c hc
  rcases Bool.eq_false_or_eq_true (isCode c) with hi | hi
  · exact h2 c (List.mem_filter.mpr ⟨hc, hi⟩)
  · simpa [hi] using h
set_option maxRecDepth 65536 in
theorem w_c0 : (Jvm.Cond.code x code maxLocals ret).before args0 about1 = true := code_word (m := ⟨1, 1⟩) (meth := k1m1) (c := k1c1) (by decide +kernel) rfl rfl rfl (by decide +kernel)
set_option maxRecDepth 65536 in
theorem w_c1 : (Jvm.Cond.code ({ cls := "com/example/rootkeep/rootkeep/object/SortedTree$Inner", name := "<init>", desc := "(I)V" } : Jvm.MethodName) prog_81_method_1_code (2 : Nat) (Option.none : Option Jvm.ClassFile.FieldType)).before args0 about1 = true := code_word (m := ⟨3, 0⟩) (meth := k3m0) (c := k3c0) (by decide +kernel) rfl rfl rfl (by decide +kernel)
set_option maxRecDepth 65536 in
theorem w_c2 : (Jvm.Cond.code ({ cls := "com/example/rootkeep/rootkeep/object/SortedTree$Node", name := "<init>", desc := "(I)V" } : Jvm.MethodName) prog_83_method_1_code (2 : Nat) (Option.none : Option Jvm.ClassFile.FieldType)).before args0 about1 = true := code_word (m := ⟨2, 0⟩) (meth := k2m0) (c := k2c0) (by decide +kernel) rfl rfl rfl (by decide +kernel)
set_option maxRecDepth 65536 in
theorem w_c3 : (Jvm.Cond.code ({ cls := "java/lang/Object", name := "<init>", desc := "()V" } : Jvm.MethodName) object_method_1_code (1 : Nat) (Option.none : Option Jvm.ClassFile.FieldType)).before args0 about1 = true := code_word (m := ⟨0, 0⟩) (meth := k0m0) (c := k0c0) (by decide +kernel) rfl rfl rfl (by decide +kernel)
set_option maxRecDepth 65536 in
theorem w_c4 : (Jvm.Cond.code ({ cls := "com/example/rootkeep/rootkeep/object/SortedTree$Inner", name := "entries", desc := "()J" } : Jvm.MethodName) prog_81_method_5_code (4 : Nat) (Option.some Jvm.ClassFile.FieldType.long)).before args0 about1 = true := code_word (m := ⟨3, 1⟩) (meth := k3m1) (c := k3c1) (by decide +kernel) rfl rfl rfl (by decide +kernel)
def codes1 : List Jvm.Cond := [Jvm.Cond.code x code maxLocals ret, Jvm.Cond.code ({ cls := "com/example/rootkeep/rootkeep/object/SortedTree$Inner", name := "<init>", desc := "(I)V" } : Jvm.MethodName) prog_81_method_1_code (2 : Nat) (Option.none : Option Jvm.ClassFile.FieldType), Jvm.Cond.code ({ cls := "com/example/rootkeep/rootkeep/object/SortedTree$Node", name := "<init>", desc := "(I)V" } : Jvm.MethodName) prog_83_method_1_code (2 : Nat) (Option.none : Option Jvm.ClassFile.FieldType), Jvm.Cond.code ({ cls := "java/lang/Object", name := "<init>", desc := "()V" } : Jvm.MethodName) object_method_1_code (1 : Nat) (Option.none : Option Jvm.ClassFile.FieldType), Jvm.Cond.code ({ cls := "com/example/rootkeep/rootkeep/object/SortedTree$Inner", name := "entries", desc := "()J" } : Jvm.MethodName) prog_81_method_5_code (4 : Nat) (Option.some Jvm.ClassFile.FieldType.long)]
set_option maxRecDepth 65536 in
theorem codes_eq : words1.filter isCode = codes1 := rfl
theorem w_codes : ∀ c ∈ words1.filter isCode, c.before args0 about1 = true := by
  rw [codes_eq]
  intro c hc
  simp only [codes1, List.mem_cons, List.not_mem_nil, or_false] at hc
  rcases hc with rfl | rfl | rfl | rfl | rfl
  · exact w_c0
  · exact w_c1
  · exact w_c2
  · exact w_c3
  · exact w_c4
set_option maxRecDepth 65536 in
theorem w_t1 : (words1.take 24).all (fun c => isCode c || c.before args0 about1) = true := by decide +kernel
set_option maxRecDepth 65536 in
theorem w_t2 : (words1.drop 24).all (fun c => isCode c || c.before args0 about1) = true := by decide +kernel
theorem w_tables : (allAtoms (Jvm.Cond.code x code maxLocals ret :: tables_1)).before args0 about1 = true := by
  rw [allAtoms_all]
  show words1.all (fun c => c.before args0 about1) = true
  refine all_split ?_ w_codes
  rw [← List.take_append_drop 24 words1, List.all_append, w_t1, w_t2]
  rfl
set_option maxRecDepth 65536 in
theorem w_case : (Jvm.Cond.and given_1 narrow_1).before args0 about1 = true := by decide +kernel
theorem w_applies : (headSpec (Jvm.Cond.code x code maxLocals ret :: tables_1) room_1).applies x e0.platform about1 = true :=
  (Spec.applies_iff w_frames).mpr ⟨w_running, w_runnable, w_alone, w_named, w_hears, w_ripe, w_room, w_tables⟩
theorem atStart : AtStart classFile x code maxLocals ret World_1 tables_1 room_1 Calls_1 rest_1 Pre_1 launch0 p0 e0 about1 theMethod args0 below0 :=
  ⟨lists_1, trivial, launch0.admits_env _ _ _, launch0.least_env, fairChoices_fair.cas, fairChoices_fair.clock, w_frames, w_args, w_heap, w_applies, trivial, trivial, w_case⟩
end start1
theorem witness_1 : WitnessClaimed_1 := ⟨start1.p0, start1.e0, start1.about1, start1.theMethod, start1.args0, start1.below0, start1.atStart⟩
end Jvm.Pilot.@@N@@
