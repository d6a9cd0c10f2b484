import JvmDerived
import JvmDerived.Pilot.@@N@@Statement
import JvmDerived.Pilot.@@N@@Code
set_option linter.unusedVariables false
set_option linter.unusedSimpArgs false
namespace Jvm.Pilot.@@N@@
open Jvm Jvm.ClassFile Sem Op Lib Jvm.Free Jvm.Stand Jvm.LawKit Jvm.RoadKit Bundle Jvm.Pilot.@@N@@.Jvm.D
section Own
variable {p : Program} {l : Launch} {e : Env} {R : Room} {s : State} {m : MethodId} {args : Array Value} {below : List Frame} {meth : Method} {c : Code} {T : State} {locs : List Loc} {cells slots : Nat} {Z : State} {h h' : Heap} {a b : Addr}
/-- from the state σ the run comes to a return that meets Qk -/
def Go (p : Program) (e : Env) (below : List Frame) (s : State) (Qk : Option Value → Heap → List Loc → Prop) (C S : Nat) (σ : State) : Prop :=
  ∃ s₂ o, Steps p.tables e below σ s₂ ∧ s₂.status = .running ∧ Ended s₂ below o ∧ ∃ v L, o = .returned v ∧ Qk v s₂.heap L ∧ FrameEnd s o s₂ L C S
variable {Qk : Option Value → Heap → List Loc → Prop} {C S : Nat}
theorem Go.step {σ σ' : State} (hs : ∀ t, Steps p.tables e below σ' t → Steps p.tables e below σ t) (k : Go p e below s Qk C S σ') : Go p e below s Qk C S σ := by
  obtain ⟨s₂, o, h1, r⟩ := k
  exact ⟨s₂, o, hs _ h1, r⟩
theorem Go.retV (X : Stand p l e R s m args below meth c T locs cells slots) (hlk : meth.locks = false) (hx : p.tables.exec = Jvm.exec) {pc : Nat} {Ls : Array Slot} (hret : meth.sig.returnType = none) (hd : decode c.code pc = .ok (.return_, 1)) (hc : cells ≤ C) (hs : slots ≤ S) (hQ : Qk none T.heap locs) :
    Go p e below s Qk C S (T.setTop (mkF m pc Ls [])) := by
  obtain ⟨fs, hr, hrun, hended, hW, hsame⟩ := X.leave (v := none) (fun _ => rfl) hlk
  exact ⟨_, _, X.returnOut hx hret hd hr, hrun, hended, _, _, rfl, hQ, ⟨_, rfl⟩, hW, hsame.mono hc hs⟩
theorem Go.retW (X : Stand p l e R s m args below meth c T locs cells slots) (hlk : meth.locks = false) (hx : p.tables.exec = Jvm.exec) {pc : Nat} {Ls : Array Slot} {w : Value} {t : FieldType} {i : Instr} {rest : List Value} (hret : meth.sig.returnType = some t) (hn : narrow t w = w)
    (hi : (i = .ireturn ∧ (t = .int ∨ t = .boolean ∨ t = .byte ∨ t = .char ∨ t = .short) ∧ ∃ z, w = .int z) ∨ (i = .lreturn ∧ t = .long ∧ ∃ z, w = .long z) ∨ (i = .dreturn ∧ t = .double ∧ ∃ z, w = .double z) ∨ (i = .freturn ∧ t = .float ∧ ∃ z, w = .float z) ∨ (i = .areturn ∧ t.isReference = true ∧ w.isRef = true))
    (hd : decode c.code pc = .ok (i, 1)) (hc : cells ≤ C) (hs : slots ≤ S) (hQ : Qk (some w) T.heap locs) :
    Go p e below s Qk C S (T.setTop (mkF m pc Ls (w :: rest))) := by
  obtain ⟨fs, hr, hrun, hended, hW, hsame⟩ := X.leave (v := some w) (fun q => by rw [hret] at q; cases q) hlk
  exact ⟨_, _, retOut X hx hret hn hi hd hr, hrun, hended, _, _, rfl, hQ, ⟨_, rfl⟩, hW, hsame.mono hc hs⟩
theorem Go.retI (X : Stand p l e R s m args below meth c T locs cells slots) (hlk : meth.locks = false) (hx : p.tables.exec = Jvm.exec) {pc : Nat} {Ls : Array Slot} {z : Int32} {rest : List Value} (hret : meth.sig.returnType = some .int) (hd : decode c.code pc = .ok (.ireturn, 1)) (hc : cells ≤ C) (hs : slots ≤ S) (hQ : Qk (some (.int z)) T.heap locs) :
    Go p e below s Qk C S (T.setTop (mkF m pc Ls (.int z :: rest))) :=
  Go.retW X hlk hx hret rfl (Or.inl ⟨rfl, Or.inl rfl, z, rfl⟩) hd hc hs hQ
theorem Go.retJ (X : Stand p l e R s m args below meth c T locs cells slots) (hlk : meth.locks = false) (hx : p.tables.exec = Jvm.exec) {pc : Nat} {Ls : Array Slot} {z : Int64} {rest : List Value} (hret : meth.sig.returnType = some .long) (hd : decode c.code pc = .ok (.lreturn, 1)) (hc : cells ≤ C) (hs : slots ≤ S) (hQ : Qk (some (.long z)) T.heap locs) :
    Go p e below s Qk C S (T.setTop (mkF m pc Ls (.long z :: rest))) :=
  Go.retW X hlk hx hret rfl (Or.inr (Or.inl ⟨rfl, rfl, z, rfl⟩)) hd hc hs hQ
theorem Go.retA (X : Stand p l e R s m args below meth c T locs cells slots) (hlk : meth.locks = false) (hx : p.tables.exec = Jvm.exec) {pc : Nat} {Ls : Array Slot} {w : Value} {t : FieldType} {rest : List Value} (hret : meth.sig.returnType = some t) (hn : narrow t w = w) (ht : t.isReference = true) (hw : w.isRef = true) (hd : decode c.code pc = .ok (.areturn, 1)) (hc : cells ≤ C) (hs : slots ≤ S) (hQ : Qk (some w) T.heap locs) :
    Go p e below s Qk C S (T.setTop (mkF m pc Ls (w :: rest))) :=
  Go.retW X hlk hx hret hn (Or.inr (Or.inr (Or.inr (Or.inr ⟨rfl, ht, hw⟩)))) hd hc hs hQ
theorem Go.retN (X : Stand p l e R s m args below meth c T locs cells slots) (hlk : meth.locks = false) (hx : p.tables.exec = Jvm.exec) {pc : Nat} {Ls : Array Slot} {z : Int32} {t : FieldType} {rest : List Value} (hret : meth.sig.returnType = some t) (ht : t = .boolean ∨ t = .byte ∨ t = .char ∨ t = .short) (hd : decode c.code pc = .ok (.ireturn, 1)) (hc : cells ≤ C) (hs : slots ≤ S) (z' : Int32) (hz : nar t z = z') (hQ : Qk (some (.int z')) T.heap locs) :
    Go p e below s Qk C S (T.setTop (mkF m pc Ls (.int z :: rest))) := by
  subst hz
  obtain ⟨fs, hr, hrun, hended, hW, hsame⟩ := X.leave (v := some (.int (nar t z))) (fun q => by rw [hret] at q; cases q) hlk
  exact ⟨_, _, Jvm.RoadKit.retN X hx hret ht hd hr, hrun, hended, _, _, rfl, hQ, ⟨_, rfl⟩, hW, hsame.mono hc hs⟩
theorem own_narb {P : Prop} [Decidable P] : nar .boolean (if P then (1 : Int32) else (0 : Int32)) = (if P then (1 : Int32) else (0 : Int32)) := by split <;> rfl
theorem own_narb01 {z : Int32} (h : z = 0 ∨ z = 1) : nar .boolean z = z := by rcases h with rfl | rfl <;> rfl
/-- a function turned at one place -/
def up {α : Type} (f : Nat → α) (k : Nat) (v : α) : Nat → α := fun i => if i = k then v else f i
theorem up_same {α : Type} (f : Nat → α) (k : Nat) (v : α) : up f k v k = v := if_pos rfl
theorem up_ne {α : Type} (f : Nat → α) {k i : Nat} (v : α) (q : i ≠ k) : up f k v i = f i := if_neg q
/-- an array of n places; place i holds g i -/
def Ary (Z : State) (h : Heap) (a : Addr) (ty : FieldType) (n : Nat) (g : Nat → Value) : Prop := ∃ c : Cell, Arr Z h a c ty ∧ c.slots.size = n ∧ n < 2 ^ 31 ∧ ∀ i, i < n → c.slots[i]? = some (g i)
variable {ty : FieldType} {n : Nat} {g : Nat → Value}
theorem Ary.lt (F : Ary Z h a ty n g) : a < h.size := by obtain ⟨c, A, -⟩ := F; exact A.lt
theorem Ary.ext (F : Ary Z h a ty n g) (E : Ext h h') : Ary Z h' a ty n g := by obtain ⟨c, A, r⟩ := F; exact ⟨c, A.ext E, r⟩
theorem Ary.other {sl : Nat} {v : Value} (F : Ary Z h b ty n g) (W : Wr h h' a sl v) (q : b ≠ a) : Ary Z h' b ty n g := by obtain ⟨c, A, r⟩ := F; exact ⟨c, A.other W q, r⟩
theorem Ary.keep {ws : List Addr} (F : Ary Z h a ty n g) (K : Keep h h' ws) (q : a ∉ ws) : Ary Z h' a ty n g := by obtain ⟨c, A, r⟩ := F; exact ⟨c, ⟨K.2.1 a c A.1 q, A.2⟩, r⟩
theorem Ary.set {k : Nat} {v : Value} (F : Ary Z h a ty n g) (W : Wr h h' a k v) : Ary Z h' a ty n (up g k v) := by
  obtain ⟨c, A, S, B, H⟩ := F
  refine ⟨_, A.same W, by rw [sz_set]; exact S, B, fun i hi => ?_⟩
  by_cases q : k = i
  · subst q; rw [up_same]; simp [Cell.setSlot, S, hi]
  · rw [up_ne _ _ (Ne.symm q), ← H i hi]; simp only [Cell.setSlot]; rw [Array.getElem?_setIfInBounds_ne q]
theorem Ary.new {k : ClassId} {z : Int32} (A : Arr Z h a (newA k ty z) ty) (q : z.toInt = n) : Ary Z h a ty n (fun _ => defaultValue ty) := by
  have e1 : z.toNatClampNeg = n := by simp only [Int32.toNatClampNeg]; omega
  refine ⟨_, A, by rw [sz_new]; exact e1, ?_, fun i hi => ?_⟩
  · have := Int32.toInt_lt z; omega
  · simp [newA, e1, hi]
theorem Ary.congr {g' : Nat → Value} (F : Ary Z h a ty n g) (q : ∀ i, i < n → g i = g' i) : Ary Z h a ty n g' := by
  obtain ⟨c, A, S, B, H⟩ := F
  exact ⟨c, A, S, B, fun i hi => by rw [← q i hi]; exact H i hi⟩
abbrev AryI (Z : State) (h : Heap) (a : Addr) (ty : FieldType) (n : Nat) (g : Nat → Int32) : Prop := Ary Z h a ty n (fun i => .int (g i))
abbrev AryJ (Z : State) (h : Heap) (a : Addr) (n : Nat) (g : Nat → Int64) : Prop := Ary Z h a .long n (fun i => .long (g i))
theorem own_upI (f : Nat → Int32) (k : Nat) (v : Int32) : up (fun i => Value.int (f i)) k (.int v) = fun i => Value.int (up f k v i) := by funext i; simp only [up]; split <;> rfl
theorem own_upJ (f : Nat → Int64) (k : Nat) (v : Int64) : up (fun i => Value.long (f i)) k (.long v) = fun i => Value.long (up f k v i) := by funext i; simp only [up]; split <;> rfl
theorem Ary.setI {f : Nat → Int32} {k : Nat} {v : Int32} (F : AryI Z h a ty n f) (W : Wr h h' a k (.int v)) : AryI Z h' a ty n (up f k v) := by have r := Ary.set F W; rw [own_upI] at r; exact r
theorem Ary.setJ {f : Nat → Int64} {k : Nat} {v : Int64} (F : AryJ Z h a n f) (W : Wr h h' a k (.long v)) : AryJ Z h' a n (up f k v) := by have r := Ary.set F W; rw [own_upJ] at r; exact r
theorem own_idx {c : Cell} {j : Int32} {k : Nat} (S : c.slots.size = n) (q : j.toInt = k) (hk : k < n) : ¬ (j < 0 ∨ c.slots.size ≤ j.toNatClampNeg) ∧ j.toNatClampNeg = k := by
  have e1 : j.toNatClampNeg = k := by simp only [Int32.toNatClampNeg]; omega
  have e0 : (0 : Int32).toInt = 0 := rfl
  refine ⟨?_, e1⟩
  rw [e1, S, Int32.lt_iff_toInt_lt]; omega
theorem own_ld (X : Stand p l e R s m args below meth c T locs cells slots) (hx : p.tables.exec = Jvm.exec) (hZ : Z.Warmed39 s.vm) (eT : T.heap = h) (F : Ary Z h a ty n g) {j : Int32} (k : Nat) (q : j.toInt = k) (hk : k < n) {v : Value} (hv : g k = v) {i : Instr}
    (hi : (i = .iaload ∧ ty = .int) ∨ (i = .laload ∧ ty = .long) ∨ (i = .caload ∧ ty = .char) ∨ (i = .baload ∧ ty = .byte)) {f : JFrame} (hg : f.method = m) {rest : List Value} (hs : f.stack = .int j :: .ref a :: rest) (hd : decode c.code f.pc = .ok (i, 1)) :
    ∀ target, Steps p.tables e below (T.setTop { f with pc := f.pc + 1, stack := v :: rest }) target → Steps p.tables e below (T.setTop f) target := by
  subst hv
  obtain ⟨cl, A, S, -, H⟩ := F
  obtain ⟨hin, e1⟩ := own_idx S q hk
  have hat : cl.slots[j.toNatClampNeg]? = some (g k) := by rw [e1]; exact H k hk
  intro t kt
  rcases hi with ⟨rfl, rfl⟩ | ⟨rfl, rfl⟩ | ⟨rfl, rfl⟩ | ⟨rfl, rfl⟩
  · exact X.iaload hx (by rw [eT]; exact A.1) (State.isArrayOf_alike hZ.alike A.2.1) A.2.2 hin hat hg hs hd t kt
  · exact X.laload hx (by rw [eT]; exact A.1) (State.isArrayOf_alike hZ.alike A.2.1) A.2.2 hin hat hg hs hd t kt
  · exact X.caload hx (by rw [eT]; exact A.1) (State.isArrayOf_alike hZ.alike A.2.1) A.2.2 hin hat hg hs hd t kt
  · exact X.baloadBytes hx (by rw [eT]; exact A.1) (State.isArrayOf_alike hZ.alike A.2.1) A.2.2 hin hat hg hs hd t kt
theorem own_len (X : Stand p l e R s m args below meth c T locs cells slots) (hx : p.tables.exec = Jvm.exec) (hZ : Z.Warmed39 s.vm) (eT : T.heap = h) (F : Ary Z h a ty n g) {z : Int32} (hz : n.toInt32 = z) {f : JFrame} (hg : f.method = m) {rest : List Value} (hs : f.stack = .ref a :: rest) (hd : decode c.code f.pc = .ok (.arraylength, 1)) :
    ∀ target, Steps p.tables e below (T.setTop { f with pc := f.pc + 1, stack := .int z :: rest }) target → Steps p.tables e below (T.setTop f) target := by
  subst hz
  obtain ⟨cl, A, S, -⟩ := F
  intro t kt
  refine X.arraylength hx (by rw [eT]; exact A.1) (State.isArrayOf_alike hZ.alike A.2.1) hg hs hd t ?_
  rw [S]; exact kt
theorem own_stI (X : Stand p l e R s m args below meth c T locs cells slots) (hx : p.tables.exec = Jvm.exec) (hZ : Z.Warmed39 s.vm) (eT : T.heap = h) (F : Ary Z h a .int n g) {j x : Int32} (k : Nat) (q : j.toInt = k) (hk : k < n) {f : JFrame} (hg : f.method = m) {rest : List Value} (hs : f.stack = .int x :: .int j :: .ref a :: rest) (hd : decode c.code f.pc = .ok (.iastore, 1)) :
    ∃ T' h', Stand p l e R s m args below meth c T' (locs ++ [⟨a, k⟩]) cells slots ∧ T'.heap = h' ∧ Wr h h' a k (.int x) ∧ ∀ target, Steps p.tables e below (T'.setTop { f with pc := f.pc + 1, stack := rest }) target → Steps p.tables e below (T.setTop f) target := by
  obtain ⟨cl, A, S, -, -⟩ := F
  obtain ⟨hin, e1⟩ := own_idx S q hk
  have r := stI X hx hZ eT A hin hg hs hd
  rw [e1] at r; exact r
theorem own_stJ (X : Stand p l e R s m args below meth c T locs cells slots) (hx : p.tables.exec = Jvm.exec) (hZ : Z.Warmed39 s.vm) (eT : T.heap = h) (F : Ary Z h a .long n g) {j : Int32} {x : Int64} (k : Nat) (q : j.toInt = k) (hk : k < n) {f : JFrame} (hg : f.method = m) {rest : List Value} (hs : f.stack = .long x :: .int j :: .ref a :: rest) (hd : decode c.code f.pc = .ok (.lastore, 1)) :
    ∃ T' h', Stand p l e R s m args below meth c T' (locs ++ [⟨a, k⟩]) cells slots ∧ T'.heap = h' ∧ Wr h h' a k (.long x) ∧ ∀ target, Steps p.tables e below (T'.setTop { f with pc := f.pc + 1, stack := rest }) target → Steps p.tables e below (T.setTop f) target := by
  obtain ⟨cl, A, S, -, -⟩ := F
  obtain ⟨hin, e1⟩ := own_idx S q hk
  have r := stJ X hx hZ eT A hin hg hs hd
  rw [e1] at r; exact r
theorem own_stB (X : Stand p l e R s m args below meth c T locs cells slots) (hx : p.tables.exec = Jvm.exec) (hZ : Z.Warmed39 s.vm) (eT : T.heap = h) (F : Ary Z h a .byte n g) {j x : Int32} (k : Nat) (q : j.toInt = k) (hk : k < n) {f : JFrame} (hg : f.method = m) {rest : List Value} (hs : f.stack = .int x :: .int j :: .ref a :: rest) (hd : decode c.code f.pc = .ok (.bastore, 1)) :
    ∃ T' h', Stand p l e R s m args below meth c T' (locs ++ [⟨a, k⟩]) cells slots ∧ T'.heap = h' ∧ Wr h h' a k (.int (nar .byte x)) ∧ ∀ target, Steps p.tables e below (T'.setTop { f with pc := f.pc + 1, stack := rest }) target → Steps p.tables e below (T.setTop f) target := by
  obtain ⟨cl, A, S, -, -⟩ := F
  obtain ⟨hin, e1⟩ := own_idx S q hk
  have r := stB X hx hZ eT A hin hg hs hd
  rw [e1] at r; exact r
theorem own_stC (X : Stand p l e R s m args below meth c T locs cells slots) (hx : p.tables.exec = Jvm.exec) (hZ : Z.Warmed39 s.vm) (eT : T.heap = h) (F : Ary Z h a .char n g) {j x : Int32} (k : Nat) (q : j.toInt = k) (hk : k < n) {f : JFrame} (hg : f.method = m) {rest : List Value} (hs : f.stack = .int x :: .int j :: .ref a :: rest) (hd : decode c.code f.pc = .ok (.castore, 1)) :
    ∃ T' h', Stand p l e R s m args below meth c T' (locs ++ [⟨a, k⟩]) cells slots ∧ T'.heap = h' ∧ Wr h h' a k (.int (nar .char x)) ∧ ∀ target, Steps p.tables e below (T'.setTop { f with pc := f.pc + 1, stack := rest }) target → Steps p.tables e below (T.setTop f) target := by
  obtain ⟨cl, A, S, -, -⟩ := F
  obtain ⟨hin, e1⟩ := own_idx S q hk
  have r := stC X hx hZ eT A hin hg hs hd
  rw [e1] at r; exact r
theorem own_neA {a0 : Array Value} {k : Nat} {K : String} (F : Exa Z h a K) (wi : (Cond.instantiable K k).before a0 Z = true) (G : Ary Z h b ty n g) : a ≠ b := by
  obtain ⟨cl, A, -⟩ := G
  exact ne_arr F wi A
theorem own_selP {y : MethodName} {k : Nat} {a0 as' : Array Value} (hZ : Z.Warmed39 s.vm) (wi : (Cond.instantiable y.cls k).before a0 Z = true) (wn : (Cond.instanceMethod y).before a0 Z = true) (wp : (Cond.privateMethod y).before a0 Z = true) (hy : y.cls ≠ "java/lang/invoke/MethodHandle" ∧ y.cls ≠ "java/lang/invoke/VarHandle") : (Cond.selects y.cls y y).before as' s = true := by
  have wi' : (Cond.instantiable y.cls k).before as' s = true := mvT hZ wi
  obtain ⟨c, kc, h1, h2, -, h4, -⟩ := Cond.instantiable_spec wi'
  refine selects_self_of_private h1 h2 ?_ (Cond.privateMethod_at (mvP hZ wp (args := #[]))) (mvT hZ wn) hy
  cases hi : kc.isInterface with
  | false => rfl
  | true => rw [hi] at h4; simp at h4
/-- long comparisons -/
theorem own_lwlt {x y : Int64} (h : x < y) : lcmpW x y < 0 := (lw_lt x y).mpr h
theorem own_nlwlt {x y : Int64} (h : ¬ x < y) : ¬ lcmpW x y < 0 := fun q => h ((lw_lt x y).mp q)
theorem own_lwgt {x y : Int64} (h : y < x) : 0 < lcmpW x y := (lw_gt x y).mpr h
theorem own_nlwgt {x y : Int64} (h : ¬ y < x) : ¬ 0 < lcmpW x y := fun q => h ((lw_gt x y).mp q)
theorem own_lweq {x y : Int64} (h : x = y) : lcmpW x y = 0 := (lw_eq x y).mpr h
theorem own_nlweq {x y : Int64} (h : ¬ x = y) : ¬ lcmpW x y = 0 := fun q => h ((lw_eq x y).mp q)
end Own
theorem own_lt {x y : Int32} (h : x < y) : x.toInt < y.toInt := Int32.lt_iff_toInt_lt.mp h
theorem own_nlt {x y : Int32} (h : ¬ x < y) : ¬ x.toInt < y.toInt := fun q => h (Int32.lt_iff_toInt_lt.mpr q)
theorem own_eq {x y : Int32} (h : x = y) : x.toInt = y.toInt := by rw [h]
theorem own_neq {x y : Int32} (h : ¬ x = y) : ¬ x.toInt = y.toInt := fun q => h (Int32.toInt_inj.mp q)
theorem own_ltL {x y : Int64} (h : x < y) : x.toInt < y.toInt := Int64.lt_iff_toInt_lt.mp h
theorem own_nltL {x y : Int64} (h : ¬ x < y) : ¬ x.toInt < y.toInt := fun q => h (Int64.lt_iff_toInt_lt.mpr q)
theorem own_eqL {x y : Int64} (h : x = y) : x.toInt = y.toInt := by rw [h]
theorem own_neqL {x y : Int64} (h : ¬ x = y) : ¬ x.toInt = y.toInt := fun q => h (Int64.toInt_inj.mp q)
theorem own_rng32 (x : Int32) : -2147483648 ≤ x.toInt ∧ x.toInt ≤ 2147483647 := by
  have h1 := Int32.le_toInt x
  have h2 := Int32.toInt_lt x
  omega
theorem own_rng64 (x : Int64) : -9223372036854775808 ≤ x.toInt ∧ x.toInt ≤ 9223372036854775807 := by
  have h1 := Int64.le_toInt x
  have h2 := Int64.toInt_lt x
  omega

def own_cache (Z : State) (ca : Addr) : Prop := ∃ c : Cell, Arr Z Z.heap ca c (.object "java/lang/Long") ∧ c.slots.size = 256 ∧ ∀ i, i < 256 → ∃ b, c.slots[i]? = some (.ref b) ∧ Exa Z Z.heap b "java/lang/Long" ∧ Fld Z Z.heap b "java/lang/Long" "value" "J" (.long (((Nat.toInt32 i) - (128 : Int32)).toInt64))
theorem own_cached {Z : State} {h : Heap} {ca : Addr} (H : own_cache Z ca) (E : Ext Z.heap h) {v : Int64} (h1 : ¬ v < (-128 : Int64)) (h2 : ¬ (127 : Int64) < v) : ∃ c b, Arr Z h ca c (.object "java/lang/Long") ∧ ¬ (((v.toInt32) + (128 : Int32)) < 0 ∨ c.slots.size ≤ ((v.toInt32) + (128 : Int32)).toNatClampNeg) ∧ c.slots[((v.toInt32) + (128 : Int32)).toNatClampNeg]? = some (.ref b) ∧ Exa Z h b "java/lang/Long" ∧ Fld Z h b "java/lang/Long" "value" "J" (.long v) := by
  obtain ⟨c, A, S, H⟩ := H
  have a1 := own_nltL h1
  have a2 := own_nltL h2
  have e1 : (-128 : Int64).toInt = -128 := rfl
  have e2 : (127 : Int64).toInt = 127 := rfl
  have e3 : (128 : Int32).toInt = 128 := rfl
  have a3 := c_l2i v
  have a4 := own_rng32 (v.toInt32)
  have a5 := c_iadd (v.toInt32) (128 : Int32)
  have a6 := own_rng32 ((v.toInt32) + (128 : Int32))
  have q : ((v.toInt32) + (128 : Int32)).toInt = (((v.toInt + 128).toNat : Nat) : Int) := by omega
  have hk : (v.toInt + 128).toNat < 256 := by omega
  obtain ⟨hin, ej⟩ := own_idx S q hk
  obtain ⟨b, g1, g2, g3⟩ := H _ hk
  refine ⟨c, b, A.ext E, hin, by rw [ej]; exact g1, g2.ext E, ?_⟩
  have hv : (((Nat.toInt32 (v.toInt + 128).toNat) - (128 : Int32)).toInt64) = v := by
    apply Int64.toInt_inj.mp
    have b1 := c_i2l ((Nat.toInt32 (v.toInt + 128).toNat) - (128 : Int32))
    have b2 := c_isub (Nat.toInt32 (v.toInt + 128).toNat) (128 : Int32)
    have b3 := own_rng32 ((Nat.toInt32 (v.toInt + 128).toNat) - (128 : Int32))
    have b4 := len_toInt (n := (v.toInt + 128).toNat) (by omega)
    omega
  rw [hv] at g3; exact g3.ext E
def own_cmp (x y : Int64) : Int32 := if x < y then (-1 : Int32) else if x = y then (0 : Int32) else (1 : Int32)
theorem own_cl {x y : Int64} (h : x < y) : own_cmp x y < (0 : Int32) := by rw [own_cmp, if_pos h]; decide
theorem own_cg {x y : Int64} (h : y < x) : (0 : Int32) < own_cmp x y := by
  have h1 : ¬ x < y := by rw [Int64.lt_iff_toInt_lt] at h ⊢; omega
  have h2 : ¬ x = y := fun q => by rw [q, Int64.lt_iff_toInt_lt] at h; omega
  rw [own_cmp, if_neg h1, if_neg h2]; decide
theorem own_nz {x : Int32} (h : x = 0 ∨ x = 1) : narrow .boolean (.int x) = .int x := by rcases h with rfl | rfl <;> rfl
theorem own_fz {x : Int32} (h : x = 0 ∨ x = 1) : fits .boolean (.int x) = true := by rcases h with rfl | rfl <;> rfl
theorem own_01 {x : Int32} {P : Prop} [Decidable P] (h : x = (if P then (0 : Int32) else (1 : Int32))) : x = 0 ∨ x = 1 := by subst h; split; exact Or.inl rfl; exact Or.inr rfl
theorem own_10 {x : Int32} {P : Prop} [Decidable P] (h : x = (if P then (1 : Int32) else (0 : Int32))) : x = 0 ∨ x = 1 := by subst h; split; exact Or.inr rfl; exact Or.inl rfl
theorem own_lo {a b : Int64} (hb : b = (-9223372036854775807 : Int64)) (h : ¬ a < b) : (-9223372036854775808 : Int64) < a := by
  subst hb
  rw [Int64.lt_iff_toInt_lt] at h ⊢
  have e1 : (-9223372036854775807 : Int64).toInt = -9223372036854775807 := rfl
  have e2 : (-9223372036854775808 : Int64).toInt = -9223372036854775808 := rfl
  omega
theorem own_hi {a b : Int64} (hb : b = (9223372036854775806 : Int64)) (h : ¬ b < a) : a < (9223372036854775807 : Int64) := by
  subst hb
  rw [Int64.lt_iff_toInt_lt] at h ⊢
  have e1 : (9223372036854775806 : Int64).toInt = 9223372036854775806 := rfl
  have e2 : (9223372036854775807 : Int64).toInt = 9223372036854775807 := rfl
  omega
theorem own_irr (a : Int64) : ¬ a < a := by rw [Int64.lt_iff_toInt_lt]; omega
theorem own_cstart {s : State} {args : Array Value} {t : Term} {a : Addr} {c : Cell} (A : Arr s s.heap a c (.object "java/lang/Long")) (ev : ∀ idx, t.eval args s none idx s = some (.ref a)) (k4 : (Jvm.Cond.eq (Jvm.Term.length t) (Jvm.Term.int (256 : Int32))).value args s none s [] = some true)
    (k5 : (Jvm.Cond.all t (Jvm.Cond.and (Jvm.Cond.exactly (Jvm.Term.elem t (Jvm.Term.index (0 : Nat))) "java/lang/Long") (Jvm.Cond.eq (Jvm.Term.field (Jvm.Term.elem t (Jvm.Term.index (0 : Nat))) "java/lang/Long" "value" "J") (Jvm.Term.op1 Jvm.Unary.i2l (Jvm.Term.sub (Jvm.Term.index (0 : Nat)) (Jvm.Term.int (128 : Int32))))))).value args s none s [] = some true) : own_cache s a := by
  have hA := Arr.fin (U := s) (Vm.Alike.refl _) A
  have S : c.slots.size = 256 := by
    by_cases hl : c.slots.size < 2 ^ 31
    · have e := len_f (first := s) (o := none) (idx := []) (ev []) hA hl
      have hw : (Jvm.Term.int (256 : Int32)).eval args s none [] s = some (.int (256 : Int32)) := rfl
      have q : c.slots.size.toInt32 = (256 : Int32) := by simp only [Cond.value, e, hw] at k4; simpa using k4
      have q2 := congrArg Int32.toInt q
      rw [len_toInt hl] at q2
      have e3 : (256 : Int32).toInt = 256 := rfl
      omega
    · obtain ⟨x, y, hx, -⟩ := cmp_v (Or.inl k4)
      simp [Term.eval, ev [], hA, hl] at hx
  refine ⟨c, A, S, fun i hi => ?_⟩
  have k := Cond.all_elim (ev []) hA k5 i (by omega)
  obtain ⟨k6, k7⟩ := and_e k
  obtain ⟨b, eb⟩ := exa_v k6
  have hidx : (Jvm.Term.index 0).eval args s none [i] s = some (.int (Nat.toInt32 i)) := Term.index_eval _
  have hin := elem_in eb (ev [i]) hidx A.1
  have hc : (Nat.toInt32 i).toNatClampNeg = i := by simp only [Int32.toNatClampNeg, len_toInt (n := i) (by omega)]; rfl
  rw [hc] at hin
  refine ⟨b, hin.2, exa_at eb k6, ?_⟩
  obtain ⟨x, y, hx, hy, -, kin⟩ := cmp_v (Or.inl k7)
  have hw : (Jvm.Term.op1 Jvm.Unary.i2l (Jvm.Term.sub (Jvm.Term.index (0 : Nat)) (Jvm.Term.int (128 : Int32)))).eval args s none [i] s = some (.long (((Nat.toInt32 i) - (128 : Int32)).toInt64)) := by simp [Term.eval, Unary.apply]
  have hy' : y = .long (((Nat.toInt32 i) - (128 : Int32)).toInt64) := Option.some.inj (hy.symm.trans hw)
  subst hy'
  obtain ⟨z, rfl⟩ := kin
  have hz : z = (((Nat.toInt32 i) - (128 : Int32)).toInt64) := by simp only [Cond.value, hx, hw] at k7; simpa using k7
  rw [fld_at eb] at hx
  rw [← hz]; exact Fld.start hx
theorem d1_0 : decode jdk_29_method_66_code 0 = .ok (.lload_n 0, 1) := by decide +kernel
theorem d1_1 : decode jdk_29_method_66_code 1 = .ok (.lload_n 2, 1) := by decide +kernel
theorem d1_2 : decode jdk_29_method_66_code 2 = .ok (.lcmp, 1) := by decide +kernel
theorem d1_3 : decode jdk_29_method_66_code 3 = .ok (.ifCond .lt 7, 3) := by decide +kernel
theorem d1_6 : decode jdk_29_method_66_code 6 = .ok (.lload_n 0, 1) := by decide +kernel
theorem d1_7 : decode jdk_29_method_66_code 7 = .ok (.goto 4, 3) := by decide +kernel
theorem d1_10 : decode jdk_29_method_66_code 10 = .ok (.lload_n 2, 1) := by decide +kernel
theorem d1_11 : decode jdk_29_method_66_code 11 = .ok (.lreturn, 1) := by decide +kernel
theorem ef_1 (m : MethodId) (x0 : Int64) (x1 : Int64) : entryFrame m #[(.long x0), (.long x1)] 4 = mkF m 0 #[.val (.long x0), .second, .val (.long x1), .second] [] := by first | (simp [entryFrame, mkF, argsToLocals, Value.category]; done) | rfl
def Q1 (Z : State) (xx : Int64) (yy : Int64) (h0 : Heap) (n0 : Nat) (v : Option Value) (h : Heap) (L : List Loc) : Prop := ∃ z : Int64, v = some (.long z) ∧ Fr n0 L ∧ h = h0 ∧ (¬ z < yy)
set_option maxRecDepth 65536 in
set_option maxHeartbeats 40000000 in
theorem rm1 (l : Launch) (Z : State) (a0 : Array Value) (hw : ∀ d ∈ tables_1, d.before a0 Z = true) (ws : List Jvm.Cond) (xx : Int64) (yy : Int64) (h0 : Heap) (n0 : Nat) (Z0 : n0 ≤ h0.size) :
    MetFree l (⟨"java/lang/Math", "max", "(JJ)J"⟩ : MethodName) (head1 (Jvm.Cond.code (⟨"java/lang/Math", "max", "(JJ)J"⟩ : MethodName) jdk_29_method_66_code 4 (some .long) :: ws) ({ frames := 0, cells := 0, slots := 0, locals := 0 } : Room)) (fun a U => a = #[(.long xx), (.long yy)] ∧ Z.Warmed39 U.vm ∧ U.heap = h0) (fun _ _ _ _ _ => True) (fun _ U o U' => ∃ v L, o = .returned v ∧ Q1 Z xx yy h0 n0 v U'.heap L ∧ FrameEnd U o U' L ({ frames := 0, cells := 0, slots := 0, locals := 0 } : Room).cells ({ frames := 0, cells := 0, slots := 0, locals := 0 } : Room).slots) := by
  refine MetFree.of_bodySF (Jvm.Free.JP.mathPlain rfl (by decide +kernel)) hisR ?_
  intro p e s m args below meth c s₁ Bd hml0 hP hK
  obtain ⟨rfl, hZ, hh⟩ := hP
  have hx := Bd.exec
  have hby := Bd.bytes
  have hml : c.maxLocals = 4 := hml0
  have hown : s.vm.findClass "java/lang/Math" = some m.cls := findClass_of_methodNamed Bd.named
  have hnm := (name_of_methodNamed Bd.named Bd.method).1
  have X0 : Stand p l e ({ frames := 0, cells := 0, slots := 0, locals := 0 } : Room) s m #[(.long xx), (.long yy)] below meth c s₁ [] 0 0 := Stand.of_body Bd
  have e0 : s₁.heap = h0 := by rw [← hh, Bd.state]; rfl
  have N0 := Fr.nil n0
  show Go p e below s (Q1 Z xx yy h0 n0) ({ frames := 0, cells := 0, slots := 0, locals := 0 } : Room).cells ({ frames := 0, cells := 0, slots := 0, locals := 0 } : Room).slots (s₁.setTop (entryFrame m #[(.long xx), (.long yy)] 4))
  rw [ef_1]
  show Go _ _ _ _ _ _ _ (s₁.setTop (mkF m 0 #[.val (.long xx), .second, .val (.long yy), .second] []))
  refine Go.step (fun t k => XS.lloadN X0.here hx rfl (hb hby d1_0) rfl k) ?_
  show Go _ _ _ _ _ _ _ (s₁.setTop (mkF m 1 #[.val (.long xx), .second, .val (.long yy), .second] [(.long xx)]))
  refine Go.step (fun t k => XS.lloadN X0.here hx rfl (hb hby d1_1) rfl k) ?_
  show Go _ _ _ _ _ _ _ (s₁.setTop (mkF m 2 #[.val (.long xx), .second, .val (.long yy), .second] [(.long yy), (.long xx)]))
  refine Go.step (fun t k => XS.lcmp X0.here hx rfl (hb hby d1_2) rfl k) ?_
  show Go _ _ _ _ _ _ _ (s₁.setTop (mkF m 3 #[.val (.long xx), .second, .val (.long yy), .second] [(.int (lcmpW xx yy))]))
  by_cases hc3_1 : xx < yy
  · refine Go.step (fun t k => XS.ifYes X0.here hx rfl (pc0 := 3) (pc' := 10) rfl (hb hby d1_3) rfl ((if0 _ _).trans (tlt (own_lwlt hc3_1)).1) (by decide) (by decide) k) ?_
    show Go _ _ _ _ _ _ _ (s₁.setTop (mkF m 10 #[.val (.long xx), .second, .val (.long yy), .second] []))
    refine Go.step (fun t k => XS.lloadN X0.here hx rfl (hb hby d1_10) rfl k) ?_
    show Go _ _ _ _ _ _ _ (s₁.setTop (mkF m 11 #[.val (.long xx), .second, .val (.long yy), .second] [(.long yy)]))
    refine Go.retJ X0 Bd.notSynchronized hx Bd.returns (hb hby d1_11) (by decide) (by decide) ?_
    rw [e0]
    exact ⟨yy, rfl, N0, rfl, (own_irr yy)⟩
  · refine Go.step (fun t k => XS.ifNo X0.here hx rfl (hb hby d1_3) rfl ((if0 _ _).trans (flt (own_nlwlt hc3_1)).1) k) ?_
    show Go _ _ _ _ _ _ _ (s₁.setTop (mkF m 6 #[.val (.long xx), .second, .val (.long yy), .second] []))
    refine Go.step (fun t k => XS.lloadN X0.here hx rfl (hb hby d1_6) rfl k) ?_
    show Go _ _ _ _ _ _ _ (s₁.setTop (mkF m 7 #[.val (.long xx), .second, .val (.long yy), .second] [(.long xx)]))
    refine Go.step (fun t k => XS.goto X0.here hx rfl (pc0 := 7) (pc' := 11) rfl (hb hby d1_7) (by decide) (by decide) k) ?_
    show Go _ _ _ _ _ _ _ (s₁.setTop (mkF m 11 #[.val (.long xx), .second, .val (.long yy), .second] [(.long xx)]))
    refine Go.retJ X0 Bd.notSynchronized hx Bd.returns (hb hby d1_11) (by decide) (by decide) ?_
    rw [e0]
    exact ⟨xx, rfl, N0, rfl, hc3_1⟩
theorem d3_0 : decode jdk_29_method_70_code 0 = .ok (.lload_n 0, 1) := by decide +kernel
theorem d3_1 : decode jdk_29_method_70_code 1 = .ok (.lload_n 2, 1) := by decide +kernel
theorem d3_2 : decode jdk_29_method_70_code 2 = .ok (.lcmp, 1) := by decide +kernel
theorem d3_3 : decode jdk_29_method_70_code 3 = .ok (.ifCond .gt 7, 3) := by decide +kernel
theorem d3_6 : decode jdk_29_method_70_code 6 = .ok (.lload_n 0, 1) := by decide +kernel
theorem d3_7 : decode jdk_29_method_70_code 7 = .ok (.goto 4, 3) := by decide +kernel
theorem d3_10 : decode jdk_29_method_70_code 10 = .ok (.lload_n 2, 1) := by decide +kernel
theorem d3_11 : decode jdk_29_method_70_code 11 = .ok (.lreturn, 1) := by decide +kernel
theorem ef_3 (m : MethodId) (x0 : Int64) (x1 : Int64) : entryFrame m #[(.long x0), (.long x1)] 4 = mkF m 0 #[.val (.long x0), .second, .val (.long x1), .second] [] := by first | (simp [entryFrame, mkF, argsToLocals, Value.category]; done) | rfl
def Q3 (Z : State) (xx : Int64) (yy : Int64) (h0 : Heap) (n0 : Nat) (v : Option Value) (h : Heap) (L : List Loc) : Prop := ∃ z : Int64, v = some (.long z) ∧ Fr n0 L ∧ h = h0 ∧ (¬ yy < z)
set_option maxRecDepth 65536 in
set_option maxHeartbeats 40000000 in
theorem rm3 (l : Launch) (Z : State) (a0 : Array Value) (hw : ∀ d ∈ tables_1, d.before a0 Z = true) (ws : List Jvm.Cond) (xx : Int64) (yy : Int64) (h0 : Heap) (n0 : Nat) (Z0 : n0 ≤ h0.size) :
    MetFree l (⟨"java/lang/Math", "min", "(JJ)J"⟩ : MethodName) (head1 (Jvm.Cond.code (⟨"java/lang/Math", "min", "(JJ)J"⟩ : MethodName) jdk_29_method_70_code 4 (some .long) :: ws) ({ frames := 0, cells := 0, slots := 0, locals := 0 } : Room)) (fun a U => a = #[(.long xx), (.long yy)] ∧ Z.Warmed39 U.vm ∧ U.heap = h0) (fun _ _ _ _ _ => True) (fun _ U o U' => ∃ v L, o = .returned v ∧ Q3 Z xx yy h0 n0 v U'.heap L ∧ FrameEnd U o U' L ({ frames := 0, cells := 0, slots := 0, locals := 0 } : Room).cells ({ frames := 0, cells := 0, slots := 0, locals := 0 } : Room).slots) := by
  refine MetFree.of_bodySF (Jvm.Free.JP.mathPlain rfl (by decide +kernel)) hisR ?_
  intro p e s m args below meth c s₁ Bd hml0 hP hK
  obtain ⟨rfl, hZ, hh⟩ := hP
  have hx := Bd.exec
  have hby := Bd.bytes
  have hml : c.maxLocals = 4 := hml0
  have hown : s.vm.findClass "java/lang/Math" = some m.cls := findClass_of_methodNamed Bd.named
  have hnm := (name_of_methodNamed Bd.named Bd.method).1
  have X0 : Stand p l e ({ frames := 0, cells := 0, slots := 0, locals := 0 } : Room) s m #[(.long xx), (.long yy)] below meth c s₁ [] 0 0 := Stand.of_body Bd
  have e0 : s₁.heap = h0 := by rw [← hh, Bd.state]; rfl
  have N0 := Fr.nil n0
  show Go p e below s (Q3 Z xx yy h0 n0) ({ frames := 0, cells := 0, slots := 0, locals := 0 } : Room).cells ({ frames := 0, cells := 0, slots := 0, locals := 0 } : Room).slots (s₁.setTop (entryFrame m #[(.long xx), (.long yy)] 4))
  rw [ef_3]
  show Go _ _ _ _ _ _ _ (s₁.setTop (mkF m 0 #[.val (.long xx), .second, .val (.long yy), .second] []))
  refine Go.step (fun t k => XS.lloadN X0.here hx rfl (hb hby d3_0) rfl k) ?_
  show Go _ _ _ _ _ _ _ (s₁.setTop (mkF m 1 #[.val (.long xx), .second, .val (.long yy), .second] [(.long xx)]))
  refine Go.step (fun t k => XS.lloadN X0.here hx rfl (hb hby d3_1) rfl k) ?_
  show Go _ _ _ _ _ _ _ (s₁.setTop (mkF m 2 #[.val (.long xx), .second, .val (.long yy), .second] [(.long yy), (.long xx)]))
  refine Go.step (fun t k => XS.lcmp X0.here hx rfl (hb hby d3_2) rfl k) ?_
  show Go _ _ _ _ _ _ _ (s₁.setTop (mkF m 3 #[.val (.long xx), .second, .val (.long yy), .second] [(.int (lcmpW xx yy))]))
  by_cases hc3_1 : yy < xx
  · refine Go.step (fun t k => XS.ifYes X0.here hx rfl (pc0 := 3) (pc' := 10) rfl (hb hby d3_3) rfl ((if0 _ _).trans (tlt (own_lwgt hc3_1)).2.2.1) (by decide) (by decide) k) ?_
    show Go _ _ _ _ _ _ _ (s₁.setTop (mkF m 10 #[.val (.long xx), .second, .val (.long yy), .second] []))
    refine Go.step (fun t k => XS.lloadN X0.here hx rfl (hb hby d3_10) rfl k) ?_
    show Go _ _ _ _ _ _ _ (s₁.setTop (mkF m 11 #[.val (.long xx), .second, .val (.long yy), .second] [(.long yy)]))
    refine Go.retJ X0 Bd.notSynchronized hx Bd.returns (hb hby d3_11) (by decide) (by decide) ?_
    rw [e0]
    exact ⟨yy, rfl, N0, rfl, (own_irr yy)⟩
  · refine Go.step (fun t k => XS.ifNo X0.here hx rfl (hb hby d3_3) rfl ((if0 _ _).trans (flt (own_nlwgt hc3_1)).2.2.1) k) ?_
    show Go _ _ _ _ _ _ _ (s₁.setTop (mkF m 6 #[.val (.long xx), .second, .val (.long yy), .second] []))
    refine Go.step (fun t k => XS.lloadN X0.here hx rfl (hb hby d3_6) rfl k) ?_
    show Go _ _ _ _ _ _ _ (s₁.setTop (mkF m 7 #[.val (.long xx), .second, .val (.long yy), .second] [(.long xx)]))
    refine Go.step (fun t k => XS.goto X0.here hx rfl (pc0 := 7) (pc' := 11) rfl (hb hby d3_7) (by decide) (by decide) k) ?_
    show Go _ _ _ _ _ _ _ (s₁.setTop (mkF m 11 #[.val (.long xx), .second, .val (.long yy), .second] [(.long xx)]))
    refine Go.retJ X0 Bd.notSynchronized hx Bd.returns (hb hby d3_11) (by decide) (by decide) ?_
    rw [e0]
    exact ⟨xx, rfl, N0, rfl, hc3_1⟩
theorem d5_0 : decode jdk_18_method_1_code 0 = .ok (.aload_n 0, 1) := by decide +kernel
theorem d5_1 : decode jdk_18_method_1_code 1 = .ok (.invokespecial 1, 3) := by decide +kernel
theorem d5_4 : decode jdk_18_method_1_code 4 = .ok (.return_, 1) := by decide +kernel
theorem pn_5 : plainName "java/lang/Number" = true := by first | (simp [plainName, overriddenIn]; done) | decide +kernel
theorem ef_5 (m : MethodId) (x0 : Addr) : entryFrame m #[(.ref x0)] 1 = mkF m 0 #[.val (.ref x0)] [] := by first | (simp [entryFrame, mkF, argsToLocals, Value.category]; done) | rfl
def Q5 (Z : State) (aa : Addr) (h0 : Heap) (n0 : Nat) (v : Option Value) (h : Heap) (L : List Loc) : Prop := v = none ∧ Fr n0 L ∧ h = h0
set_option maxRecDepth 65536 in
set_option maxHeartbeats 40000000 in
theorem rm5 (l : Launch) (Z : State) (a0 : Array Value) (hw : ∀ d ∈ tables_1, d.before a0 Z = true) (ws : List Jvm.Cond) (aa : Addr) (h0 : Heap) (n0 : Nat) (Z0 : n0 ≤ h0.size) :
    MetFree l (⟨"java/lang/Number", "<init>", "()V"⟩ : MethodName) (head1 (Jvm.Cond.code (⟨"java/lang/Number", "<init>", "()V"⟩ : MethodName) jdk_18_method_1_code 1 none :: ws) ({ frames := 1, cells := 0, slots := 0, locals := 12 } : Room)) (fun a U => a = #[(.ref aa)] ∧ Z.Warmed39 U.vm ∧ U.heap = h0) (fun _ _ _ _ _ => True) (fun _ U o U' => ∃ v L, o = .returned v ∧ Q5 Z aa h0 n0 v U'.heap L ∧ FrameEnd U o U' L ({ frames := 1, cells := 0, slots := 0, locals := 12 } : Room).cells ({ frames := 1, cells := 0, slots := 0, locals := 12 } : Room).slots) := by
  refine MetFree.of_bodySF (plainFor_of_name pn_5) hisR ?_
  intro p e s m args below meth c s₁ Bd hml0 hP hK
  obtain ⟨rfl, hZ, hh⟩ := hP
  have hx := Bd.exec
  have hby := Bd.bytes
  have hml : c.maxLocals = 1 := hml0
  have hown : s.vm.findClass "java/lang/Number" = some m.cls := findClass_of_methodNamed Bd.named
  have hnm := (name_of_methodNamed Bd.named Bd.method).1
  have X0 : Stand p l e ({ frames := 1, cells := 0, slots := 0, locals := 12 } : Room) s m #[(.ref aa)] below meth c s₁ [] 0 0 := Stand.of_body Bd
  have e0 : s₁.heap = h0 := by rw [← hh, Bd.state]; rfl
  have N0 := Fr.nil n0
  show Go p e below s (Q5 Z aa h0 n0) ({ frames := 1, cells := 0, slots := 0, locals := 12 } : Room).cells ({ frames := 1, cells := 0, slots := 0, locals := 12 } : Room).slots (s₁.setTop (entryFrame m #[(.ref aa)] 1))
  rw [ef_5]
  show Go _ _ _ _ _ _ _ (s₁.setTop (mkF m 0 #[.val (.ref aa)] []))
  refine Go.step (fun t k => XS.aloadN X0.here hx rfl (hb hby d5_0) rfl rfl k) ?_
  show Go _ _ _ _ _ _ _ (s₁.setTop (mkF m 1 #[.val (.ref aa)] [(.ref aa)]))
  obtain ⟨T1, X1, e1, st1⟩ := initO X0 hx hZ hown (hw _ (List.mem_of_getElem? (i := 29) rfl)) (hw _ (List.mem_of_getElem? (i := 30) rfl)) (hw _ (List.mem_of_getElem? (i := 31) rfl)) e0 (g := (mkF m 1 #[.val (.ref aa)] [(.ref aa)])) rfl (by rw [hml]; rfl) rfl (hb hby d5_1) (by decide) (W := 0) (by show 2 * 0 + _ ≤ _; exact Nat.le_of_eq rfl) (by decide)
  refine Go.step st1 ?_
  show Go _ _ _ _ _ _ _ (T1.setTop (mkF m 4 #[.val (.ref aa)] []))
  refine Go.retV X1 Bd.notSynchronized hx Bd.returns (hb hby d5_4) (by decide) (by decide) ?_
  rw [e1]
  exact ⟨rfl, N0, rfl⟩
theorem d4_0 : decode jdk_35_method_26_code 0 = .ok (.aload_n 0, 1) := by decide +kernel
theorem d4_1 : decode jdk_35_method_26_code 1 = .ok (.invokespecial 270, 3) := by decide +kernel
theorem d4_4 : decode jdk_35_method_26_code 4 = .ok (.aload_n 0, 1) := by decide +kernel
theorem d4_5 : decode jdk_35_method_26_code 5 = .ok (.lload_n 1, 1) := by decide +kernel
theorem d4_6 : decode jdk_35_method_26_code 6 = .ok (.putfield 273, 3) := by decide +kernel
theorem d4_9 : decode jdk_35_method_26_code 9 = .ok (.return_, 1) := by decide +kernel
theorem pn_4 : plainName "java/lang/Long" = true := by first | (simp [plainName, overriddenIn]; done) | decide +kernel
theorem pd_4_0 : parseMethodDescriptor "()V" = some ⟨[], none⟩ := by decide +kernel
theorem ef_4 (m : MethodId) (x0 : Addr) (x1 : Int64) : entryFrame m #[(.ref x0), (.long x1)] 3 = mkF m 0 #[.val (.ref x0), .val (.long x1), .second] [] := by first | (simp [entryFrame, mkF, argsToLocals, Value.category]; done) | rfl
def Q4 (Z : State) (aa : Addr) (qq : Int64) (h0 : Heap) (n0 : Nat) (v : Option Value) (h : Heap) (L : List Loc) : Prop := v = none ∧ Fr n0 L ∧ Keep h0 h [aa] ∧ Fld Z h aa "java/lang/Long" "value" "J" (.long qq)
set_option maxRecDepth 65536 in
set_option maxHeartbeats 40000000 in
theorem rm4 (l : Launch) (Z : State) (a0 : Array Value) (hw : ∀ d ∈ tables_1, d.before a0 Z = true) (ws : List Jvm.Cond) (aa : Addr) (qq : Int64) (h0 : Heap) (n0 : Nat) (Z0 : n0 ≤ h0.size) (F_value_aa : Fld Z h0 aa "java/lang/Long" "value" "J" (.long (0 : Int64))) (E_aa : Exa Z h0 aa "java/lang/Long") (g_aa : n0 ≤ aa) :
    MetFree l (⟨"java/lang/Long", "<init>", "(J)V"⟩ : MethodName) (head1 (Jvm.Cond.code (⟨"java/lang/Long", "<init>", "(J)V"⟩ : MethodName) jdk_35_method_26_code 3 none :: ws) ({ frames := 2, cells := 0, slots := 0, locals := 24 } : Room)) (fun a U => a = #[(.ref aa), (.long qq)] ∧ Z.Warmed39 U.vm ∧ U.heap = h0) (fun _ _ _ _ _ => True) (fun _ U o U' => ∃ v L, o = .returned v ∧ Q4 Z aa qq h0 n0 v U'.heap L ∧ FrameEnd U o U' L ({ frames := 2, cells := 0, slots := 0, locals := 24 } : Room).cells ({ frames := 2, cells := 0, slots := 0, locals := 24 } : Room).slots) := by
  refine MetFree.of_bodySF (plainFor_of_name pn_4) hisR ?_
  intro p e s m args below meth c s₁ Bd hml0 hP hK
  obtain ⟨rfl, hZ, hh⟩ := hP
  have hx := Bd.exec
  have hby := Bd.bytes
  have hml : c.maxLocals = 3 := hml0
  have hown : s.vm.findClass "java/lang/Long" = some m.cls := findClass_of_methodNamed Bd.named
  have hnm := (name_of_methodNamed Bd.named Bd.method).1
  have X0 : Stand p l e ({ frames := 2, cells := 0, slots := 0, locals := 24 } : Room) s m #[(.ref aa), (.long qq)] below meth c s₁ [] 0 0 := Stand.of_body Bd
  have e0 : s₁.heap = h0 := by rw [← hh, Bd.state]; rfl
  have N0 := Fr.nil n0
  have K0 := Keep.refl h0 ([aa] : List Addr)
  show Go p e below s (Q4 Z aa qq h0 n0) ({ frames := 2, cells := 0, slots := 0, locals := 24 } : Room).cells ({ frames := 2, cells := 0, slots := 0, locals := 24 } : Room).slots (s₁.setTop (entryFrame m #[(.ref aa), (.long qq)] 3))
  rw [ef_4]
  show Go _ _ _ _ _ _ _ (s₁.setTop (mkF m 0 #[.val (.ref aa), .val (.long qq), .second] []))
  refine Go.step (fun t k => XS.aloadN X0.here hx rfl (hb hby d4_0) rfl rfl k) ?_
  show Go _ _ _ _ _ _ _ (s₁.setTop (mkF m 1 #[.val (.ref aa), .val (.long qq), .second] [(.ref aa)]))
  obtain ⟨_, _, ⟨T1, L1, k1, n1⟩, -, X1, ⟨Lc1, hQ1, l1, y1, z1⟩, st1⟩ := X0.specialBack hx (y := (⟨"java/lang/Number", "<init>", "()V"⟩ : MethodName)) rfl hown (mvT hZ (hw _ (List.mem_of_getElem? (i := 23) rfl))) (mvT hZ (hw _ (List.mem_of_getElem? (i := 24) rfl))) (mvT hZ (hw _ (List.mem_of_getElem? (i := 28) rfl))) (by decide) (backOf (W := 0) (rm5 l Z a0 hw [] aa h0 n0 Z0) hZ (hw _ (List.mem_of_getElem? (i := 28) rfl)) (hw _ (List.mem_of_getElem? (i := 27) rfl)) (by decide) (by decide)) (g := (mkF m 1 #[.val (.ref aa), .val (.long qq), .second] [(.ref aa)])) rfl (by rw [hml]; rfl) (Steps.refl _) (a := aa) (argsL := []) (rest := []) (lenOf pd_4_0 rfl) rfl (by show 2 * 0 + _ ≤ _; exact Nat.le_of_eq rfl) (hb hby d4_1) (fun _ _ => ⟨rfl, e0, (by decide : 0 + 0 ≤ _), (by decide : 0 + 0 ≤ _)⟩)
  dsimp only [Pt.U, Pt.locs, Pt.cells, Pt.slots] at X1 l1 y1 z1 st1 hQ1
  subst l1 y1 z1
  obtain ⟨rfl, N1q, K1q⟩ := hQ1
  have N1 := Fr.app N0 N1q
  refine Go.step (fun t k => st1.trans k) ?_
  show Go _ _ _ _ _ _ _ (T1.setTop (mkF m 4 #[.val (.ref aa), .val (.long qq), .second] []))
  refine Go.step (fun t k => XS.aloadN X1.here hx rfl (hb hby d4_4) rfl rfl k) ?_
  show Go _ _ _ _ _ _ _ (T1.setTop (mkF m 5 #[.val (.ref aa), .val (.long qq), .second] [(.ref aa)]))
  refine Go.step (fun t k => XS.lloadN X1.here hx rfl (hb hby d4_5) rfl k) ?_
  show Go _ _ _ _ _ _ _ (T1.setTop (mkF m 6 #[.val (.ref aa), .val (.long qq), .second] [(.long qq), (.ref aa)]))
  obtain ⟨T2, h2, X2, e2, W2, st2⟩ := putF X1 hx hZ hown (host := "") (Or.inl (hw _ (List.mem_of_getElem? (i := 32) rfl))) Via.refl K1q F_value_aa E_aa (Or.inr ⟨(hw _ (List.mem_of_getElem? (i := 33) rfl)), rfl, hnm⟩) (hw _ (List.mem_of_getElem? (i := 18) rfl)) (ty := .long) (by decide) rfl rfl (g := (mkF m 6 #[.val (.ref aa), .val (.long qq), .second] [(.long qq), (.ref aa)])) rfl rfl (hb hby d4_6)
  replace E_aa := E_aa.wr W2
  have Z2 := Nat.le_trans Z0 (Keep.of_wr W2).1
  have N2 := Fr.snoc X2 N1 g_aa
  have K2 := K0.wr W2 (Or.inl (List.mem_of_getElem? (i := 0) rfl))
  replace F_value_aa := F_value_aa.same W2
  refine Go.step st2 ?_
  show Go _ _ _ _ _ _ _ (T2.setTop (mkF m 9 #[.val (.ref aa), .val (.long qq), .second] []))
  refine Go.retV X2 Bd.notSynchronized hx Bd.returns (hb hby d4_9) (by decide) (by decide) ?_
  rw [e2]
  exact ⟨rfl, N2, K2, F_value_aa⟩
theorem d2_0 : decode jdk_35_method_24_code 0 = .ok (.sipush 128, 3) := by decide +kernel
theorem d2_3 : decode jdk_35_method_24_code 3 = .ok (.istore_n 2, 1) := by decide +kernel
theorem d2_4 : decode jdk_35_method_24_code 4 = .ok (.lload_n 0, 1) := by decide +kernel
theorem d2_5 : decode jdk_35_method_24_code 5 = .ok (.ldc2_w 230, 3) := by decide +kernel
theorem d2_8 : decode jdk_35_method_24_code 8 = .ok (.lcmp, 1) := by decide +kernel
theorem d2_9 : decode jdk_35_method_24_code 9 = .ok (.ifCond .lt 22, 3) := by decide +kernel
theorem d2_12 : decode jdk_35_method_24_code 12 = .ok (.lload_n 0, 1) := by decide +kernel
theorem d2_13 : decode jdk_35_method_24_code 13 = .ok (.ldc2_w 232, 3) := by decide +kernel
theorem d2_16 : decode jdk_35_method_24_code 16 = .ok (.lcmp, 1) := by decide +kernel
theorem d2_17 : decode jdk_35_method_24_code 17 = .ok (.ifCond .gt 14, 3) := by decide +kernel
theorem d2_20 : decode jdk_35_method_24_code 20 = .ok (.getstatic 234, 3) := by decide +kernel
theorem d2_23 : decode jdk_35_method_24_code 23 = .ok (.lload_n 0, 1) := by decide +kernel
theorem d2_24 : decode jdk_35_method_24_code 24 = .ok (.l2i, 1) := by decide +kernel
theorem d2_25 : decode jdk_35_method_24_code 25 = .ok (.sipush 128, 3) := by decide +kernel
theorem d2_28 : decode jdk_35_method_24_code 28 = .ok (.iadd, 1) := by decide +kernel
theorem d2_29 : decode jdk_35_method_24_code 29 = .ok (.aaload, 1) := by decide +kernel
theorem d2_30 : decode jdk_35_method_24_code 30 = .ok (.areturn, 1) := by decide +kernel
theorem d2_31 : decode jdk_35_method_24_code 31 = .ok (.new 1, 3) := by decide +kernel
theorem d2_34 : decode jdk_35_method_24_code 34 = .ok (.dup, 1) := by decide +kernel
theorem d2_35 : decode jdk_35_method_24_code 35 = .ok (.lload_n 0, 1) := by decide +kernel
theorem d2_36 : decode jdk_35_method_24_code 36 = .ok (.invokespecial 240, 3) := by decide +kernel
theorem d2_39 : decode jdk_35_method_24_code 39 = .ok (.areturn, 1) := by decide +kernel
theorem pn_2 : plainName "java/lang/Long" = true := by first | (simp [plainName, overriddenIn]; done) | decide +kernel
theorem pd_2_0 : parseMethodDescriptor "(J)V" = some ⟨[.long], none⟩ := by decide +kernel
theorem ef_2 (m : MethodId) (x0 : Int64) : entryFrame m #[(.long x0)] 3 = mkF m 0 #[.val (.long x0), .second, .unset] [] := by first | (simp [entryFrame, mkF, argsToLocals, Value.category]; done) | rfl
def Q2 (Z : State) (xx : Int64) (ca : Addr) (h0 : Heap) (n0 : Nat) (v : Option Value) (h : Heap) (L : List Loc) : Prop := ∃ bl : Addr, v = some (.ref bl) ∧ Fr n0 L ∧ Keep h0 h [] ∧ Exa Z h bl "java/lang/Long" ∧ Fld Z h bl "java/lang/Long" "value" "J" (.long xx)
set_option maxRecDepth 65536 in
set_option maxHeartbeats 40000000 in
theorem rm2 (l : Launch) (Z : State) (a0 : Array Value) (hw : ∀ d ∈ tables_1, d.before a0 Z = true) (ws : List Jvm.Cond) (xx : Int64) (ca : Addr) (h0 : Heap) (n0 : Nat) (Z0 : n0 ≤ h0.size) (old : Old Z n0 h0) (hsta : (Sta Z Z.heap "java/lang/Long$LongCache" "cache" "[Ljava/lang/Long;" (.ref ca))) (hca : (own_cache Z ca)) :
    MetFree l (⟨"java/lang/Long", "valueOf", "(J)Ljava/lang/Long;"⟩ : MethodName) (head1 (Jvm.Cond.code (⟨"java/lang/Long", "valueOf", "(J)Ljava/lang/Long;"⟩ : MethodName) jdk_35_method_24_code 3 (some (.object "java/lang/Long")) :: ws) ({ frames := 3, cells := 1, slots := 1, locals := 39 } : Room)) (fun a U => a = #[(.long xx)] ∧ Z.Warmed39 U.vm ∧ U.heap = h0) (fun _ _ _ _ _ => True) (fun _ U o U' => ∃ v L, o = .returned v ∧ Q2 Z xx ca h0 n0 v U'.heap L ∧ FrameEnd U o U' L ({ frames := 3, cells := 1, slots := 1, locals := 39 } : Room).cells ({ frames := 3, cells := 1, slots := 1, locals := 39 } : Room).slots) := by
  refine MetFree.of_bodySF (plainFor_of_name pn_2) hisR ?_
  intro p e s m args below meth c s₁ Bd hml0 hP hK
  obtain ⟨rfl, hZ, hh⟩ := hP
  have hx := Bd.exec
  have hby := Bd.bytes
  have hml : c.maxLocals = 3 := hml0
  have hown : s.vm.findClass "java/lang/Long" = some m.cls := findClass_of_methodNamed Bd.named
  have hnm := (name_of_methodNamed Bd.named Bd.method).1
  have X0 : Stand p l e ({ frames := 3, cells := 1, slots := 1, locals := 39 } : Room) s m #[(.long xx)] below meth c s₁ [] 0 0 := Stand.of_body Bd
  have e0 : s₁.heap = h0 := by rw [← hh, Bd.state]; rfl
  have N0 := Fr.nil n0
  have K0 := Keep.refl h0 ([] : List Addr)
  show Go p e below s (Q2 Z xx ca h0 n0) ({ frames := 3, cells := 1, slots := 1, locals := 39 } : Room).cells ({ frames := 3, cells := 1, slots := 1, locals := 39 } : Room).slots (s₁.setTop (entryFrame m #[(.long xx)] 3))
  rw [ef_2]
  show Go _ _ _ _ _ _ _ (s₁.setTop (mkF m 0 #[.val (.long xx), .second, .unset] []))
  have S_C := Sta.ext old.2 hsta
  refine Go.step (fun t k => XS.sipush X0.here hx rfl (hb hby d2_0) k) ?_
  show Go _ _ _ _ _ _ _ (s₁.setTop (mkF m 3 #[.val (.long xx), .second, .unset] [(.int (128 : Int32))]))
  refine Go.step (fun t k => XS.istoreN X0.here hx rfl (hb hby d2_3) rfl (l' := #[.val (.long xx), .second, .val (.int (128 : Int32))]) rfl k) ?_
  show Go _ _ _ _ _ _ _ (s₁.setTop (mkF m 4 #[.val (.long xx), .second, .val (.int (128 : Int32))] []))
  refine Go.step (fun t k => XS.lloadN X0.here hx rfl (hb hby d2_4) rfl k) ?_
  show Go _ _ _ _ _ _ _ (s₁.setTop (mkF m 5 #[.val (.long xx), .second, .val (.int (128 : Int32))] [(.long xx)]))
  refine Go.step (fun t k => X0.ldc2Long hx hown (mvT hZ (hw _ (List.mem_of_getElem? (i := 9) rfl))) (g := (mkF m 5 #[.val (.long xx), .second, .val (.int (128 : Int32))] [(.long xx)])) rfl (hb hby d2_5) _ k) ?_
  show Go _ _ _ _ _ _ _ (s₁.setTop (mkF m 8 #[.val (.long xx), .second, .val (.int (128 : Int32))] [(.long (-128 : Int64)), (.long xx)]))
  refine Go.step (fun t k => XS.lcmp X0.here hx rfl (hb hby d2_8) rfl k) ?_
  show Go _ _ _ _ _ _ _ (s₁.setTop (mkF m 9 #[.val (.long xx), .second, .val (.int (128 : Int32))] [(.int (lcmpW xx (-128 : Int64)))]))
  by_cases hc9_1 : xx < (-128 : Int64)
  · refine Go.step (fun t k => XS.ifYes X0.here hx rfl (pc0 := 9) (pc' := 31) rfl (hb hby d2_9) rfl ((if0 _ _).trans (tlt (own_lwlt hc9_1)).1) (by decide) (by decide) k) ?_
    show Go _ _ _ _ _ _ _ (s₁.setTop (mkF m 31 #[.val (.long xx), .second, .val (.int (128 : Int32))] []))
    obtain ⟨T2, h2, X2, e2, E2, A2, D2, -, st2⟩ := newO X0 hx hZ hown (hw _ (List.mem_of_getElem? (i := 17) rfl)) (hw _ (List.mem_of_getElem? (i := 18) rfl)) (hw _ (List.mem_of_getElem? (i := 7) rfl)) e0 (g := (mkF m 31 #[.val (.long xx), .second, .val (.int (128 : Int32))] [])) rfl (hb hby d2_31) (by decide) (by decide)
    obtain ⟨bw, gz2⟩ : ∃ z, z = h0.size := ⟨_, rfl⟩
    have g_bw : n0 ≤ bw := Nat.le_trans Z0 (Nat.le_of_eq gz2.symm)
    have sz_bw : h0.size ≤ bw := Nat.le_trans K0.1 (Nat.le_of_eq gz2.symm)
    rw [← gz2] at A2 D2 st2
    replace old := Old.ext old E2
    replace S_C := Sta.ext E2 S_C
    have Z2 := Nat.le_trans Z0 E2.1
    have K2 := K0.ext E2
    have E_bw := A2
    have F_value_bw : Fld Z h2 bw "java/lang/Long" "value" "J" (.long (0 : Int64)) := D2 (Or.inr (hw _ (List.mem_of_getElem? (i := 33) rfl))) (ty := .long) (by decide)
    refine Go.step st2 ?_
    show Go _ _ _ _ _ _ _ (T2.setTop (mkF m 34 #[.val (.long xx), .second, .val (.int (128 : Int32))] [(.ref bw)]))
    refine Go.step (fun t k => XS.dup X2.here hx rfl (hb hby d2_34) rfl rfl k) ?_
    show Go _ _ _ _ _ _ _ (T2.setTop (mkF m 35 #[.val (.long xx), .second, .val (.int (128 : Int32))] [(.ref bw), (.ref bw)]))
    refine Go.step (fun t k => XS.lloadN X2.here hx rfl (hb hby d2_35) rfl k) ?_
    show Go _ _ _ _ _ _ _ (T2.setTop (mkF m 36 #[.val (.long xx), .second, .val (.int (128 : Int32))] [(.long xx), (.ref bw), (.ref bw)]))
    obtain ⟨_, _, ⟨T3, L3, k3, n3⟩, -, X3, ⟨Lc3, hQ3, l3, y3, z3⟩, st3⟩ := X2.specialBack hx (y := (⟨"java/lang/Long", "<init>", "(J)V"⟩ : MethodName)) rfl hown (mvT hZ (hw _ (List.mem_of_getElem? (i := 19) rfl))) (mvT hZ (hw _ (List.mem_of_getElem? (i := 20) rfl))) (mvT hZ (hw _ (List.mem_of_getElem? (i := 22) rfl))) (by decide) (backOf (W := 1) (rm4 l Z a0 hw [] bw xx h2 n0 Z2 F_value_bw E_bw g_bw) hZ (hw _ (List.mem_of_getElem? (i := 22) rfl)) (hw _ (List.mem_of_getElem? (i := 7) rfl)) (by decide) (by decide)) (g := (mkF m 36 #[.val (.long xx), .second, .val (.int (128 : Int32))] [(.long xx), (.ref bw), (.ref bw)])) rfl (by rw [hml]; rfl) (Steps.refl _) (a := bw) (argsL := [(.long xx)]) (rest := [(.ref bw)]) (lenOf pd_2_0 rfl) rfl (by show 2 * 0 + _ ≤ _; exact Nat.le_of_eq rfl) (hb hby d2_36) (fun _ _ => ⟨rfl, e2, (by decide : 1 + 0 ≤ _), (by decide : 1 + 0 ≤ _)⟩)
    dsimp only [Pt.U, Pt.locs, Pt.cells, Pt.slots] at X3 l3 y3 z3 st3 hQ3
    subst l3 y3 z3
    obtain ⟨rfl, N3q, K3q, o3_F_value_bw⟩ := hQ3
    have N3 := Fr.app N0 N3q
    replace old := Old.keep old K3q (allS g_bw all0)
    replace E_bw := E_bw.keep K3q
    have Z3 := Nat.le_trans Z2 K3q.1
    have K3' := K2.trans K3q (allS (Or.inr sz_bw) all0)
    have F_value_bw := o3_F_value_bw
    refine Go.step (fun t k => st3.trans k) ?_
    show Go _ _ _ _ _ _ _ (T3.setTop (mkF m 39 #[.val (.long xx), .second, .val (.int (128 : Int32))] [(.ref bw)]))
    refine Go.retA X3 Bd.notSynchronized hx Bd.returns rfl rfl rfl (hb hby d2_39) (by decide) (by decide) ?_
    exact ⟨bw, rfl, N3, K3', E_bw, F_value_bw⟩
  · refine Go.step (fun t k => XS.ifNo X0.here hx rfl (hb hby d2_9) rfl ((if0 _ _).trans (flt (own_nlwlt hc9_1)).1) k) ?_
    show Go _ _ _ _ _ _ _ (s₁.setTop (mkF m 12 #[.val (.long xx), .second, .val (.int (128 : Int32))] []))
    refine Go.step (fun t k => XS.lloadN X0.here hx rfl (hb hby d2_12) rfl k) ?_
    show Go _ _ _ _ _ _ _ (s₁.setTop (mkF m 13 #[.val (.long xx), .second, .val (.int (128 : Int32))] [(.long xx)]))
    refine Go.step (fun t k => X0.ldc2Long hx hown (mvT hZ (hw _ (List.mem_of_getElem? (i := 10) rfl))) (g := (mkF m 13 #[.val (.long xx), .second, .val (.int (128 : Int32))] [(.long xx)])) rfl (hb hby d2_13) _ k) ?_
    show Go _ _ _ _ _ _ _ (s₁.setTop (mkF m 16 #[.val (.long xx), .second, .val (.int (128 : Int32))] [(.long (127 : Int64)), (.long xx)]))
    refine Go.step (fun t k => XS.lcmp X0.here hx rfl (hb hby d2_16) rfl k) ?_
    show Go _ _ _ _ _ _ _ (s₁.setTop (mkF m 17 #[.val (.long xx), .second, .val (.int (128 : Int32))] [(.int (lcmpW xx (127 : Int64)))]))
    by_cases hc17_4 : (127 : Int64) < xx
    · refine Go.step (fun t k => XS.ifYes X0.here hx rfl (pc0 := 17) (pc' := 31) rfl (hb hby d2_17) rfl ((if0 _ _).trans (tlt (own_lwgt hc17_4)).2.2.1) (by decide) (by decide) k) ?_
      show Go _ _ _ _ _ _ _ (s₁.setTop (mkF m 31 #[.val (.long xx), .second, .val (.int (128 : Int32))] []))
      obtain ⟨T5, h5, X5, e5, E5, A5, D5, -, st5⟩ := newO X0 hx hZ hown (hw _ (List.mem_of_getElem? (i := 17) rfl)) (hw _ (List.mem_of_getElem? (i := 18) rfl)) (hw _ (List.mem_of_getElem? (i := 7) rfl)) e0 (g := (mkF m 31 #[.val (.long xx), .second, .val (.int (128 : Int32))] [])) rfl (hb hby d2_31) (by decide) (by decide)
      obtain ⟨bw, gz5⟩ : ∃ z, z = h0.size := ⟨_, rfl⟩
      have g_bw : n0 ≤ bw := Nat.le_trans Z0 (Nat.le_of_eq gz5.symm)
      have sz_bw : h0.size ≤ bw := Nat.le_trans K0.1 (Nat.le_of_eq gz5.symm)
      rw [← gz5] at A5 D5 st5
      replace old := Old.ext old E5
      replace S_C := Sta.ext E5 S_C
      have Z5 := Nat.le_trans Z0 E5.1
      have K5 := K0.ext E5
      have E_bw := A5
      have F_value_bw : Fld Z h5 bw "java/lang/Long" "value" "J" (.long (0 : Int64)) := D5 (Or.inr (hw _ (List.mem_of_getElem? (i := 33) rfl))) (ty := .long) (by decide)
      refine Go.step st5 ?_
      show Go _ _ _ _ _ _ _ (T5.setTop (mkF m 34 #[.val (.long xx), .second, .val (.int (128 : Int32))] [(.ref bw)]))
      refine Go.step (fun t k => XS.dup X5.here hx rfl (hb hby d2_34) rfl rfl k) ?_
      show Go _ _ _ _ _ _ _ (T5.setTop (mkF m 35 #[.val (.long xx), .second, .val (.int (128 : Int32))] [(.ref bw), (.ref bw)]))
      refine Go.step (fun t k => XS.lloadN X5.here hx rfl (hb hby d2_35) rfl k) ?_
      show Go _ _ _ _ _ _ _ (T5.setTop (mkF m 36 #[.val (.long xx), .second, .val (.int (128 : Int32))] [(.long xx), (.ref bw), (.ref bw)]))
      obtain ⟨_, _, ⟨T6, L6, k6, n6⟩, -, X6, ⟨Lc6, hQ6, l6, y6, z6⟩, st6⟩ := X5.specialBack hx (y := (⟨"java/lang/Long", "<init>", "(J)V"⟩ : MethodName)) rfl hown (mvT hZ (hw _ (List.mem_of_getElem? (i := 19) rfl))) (mvT hZ (hw _ (List.mem_of_getElem? (i := 20) rfl))) (mvT hZ (hw _ (List.mem_of_getElem? (i := 22) rfl))) (by decide) (backOf (W := 1) (rm4 l Z a0 hw [] bw xx h5 n0 Z5 F_value_bw E_bw g_bw) hZ (hw _ (List.mem_of_getElem? (i := 22) rfl)) (hw _ (List.mem_of_getElem? (i := 7) rfl)) (by decide) (by decide)) (g := (mkF m 36 #[.val (.long xx), .second, .val (.int (128 : Int32))] [(.long xx), (.ref bw), (.ref bw)])) rfl (by rw [hml]; rfl) (Steps.refl _) (a := bw) (argsL := [(.long xx)]) (rest := [(.ref bw)]) (lenOf pd_2_0 rfl) rfl (by show 2 * 0 + _ ≤ _; exact Nat.le_of_eq rfl) (hb hby d2_36) (fun _ _ => ⟨rfl, e5, (by decide : 1 + 0 ≤ _), (by decide : 1 + 0 ≤ _)⟩)
      dsimp only [Pt.U, Pt.locs, Pt.cells, Pt.slots] at X6 l6 y6 z6 st6 hQ6
      subst l6 y6 z6
      obtain ⟨rfl, N6q, K6q, o6_F_value_bw⟩ := hQ6
      have N6 := Fr.app N0 N6q
      replace old := Old.keep old K6q (allS g_bw all0)
      replace E_bw := E_bw.keep K6q
      have Z6 := Nat.le_trans Z5 K6q.1
      have K6' := K5.trans K6q (allS (Or.inr sz_bw) all0)
      have F_value_bw := o6_F_value_bw
      refine Go.step (fun t k => st6.trans k) ?_
      show Go _ _ _ _ _ _ _ (T6.setTop (mkF m 39 #[.val (.long xx), .second, .val (.int (128 : Int32))] [(.ref bw)]))
      refine Go.retA X6 Bd.notSynchronized hx Bd.returns rfl rfl rfl (hb hby d2_39) (by decide) (by decide) ?_
      exact ⟨bw, rfl, N6, K6', E_bw, F_value_bw⟩
    · refine Go.step (fun t k => XS.ifNo X0.here hx rfl (hb hby d2_17) rfl ((if0 _ _).trans (flt (own_nlwgt hc17_4)).2.2.1) k) ?_
      show Go _ _ _ _ _ _ _ (s₁.setTop (mkF m 20 #[.val (.long xx), .second, .val (.int (128 : Int32))] []))
      obtain ⟨T7, X7, e7, st7⟩ := getS2 X0 hx hZ hown (host := "") (Or.inl (hw _ (List.mem_of_getElem? (i := 11) rfl))) Via.refl e0 S_C (g := (mkF m 20 #[.val (.long xx), .second, .val (.int (128 : Int32))] [])) rfl (hb hby d2_20)
      refine Go.step st7 ?_
      show Go _ _ _ _ _ _ _ (T7.setTop (mkF m 23 #[.val (.long xx), .second, .val (.int (128 : Int32))] [(.ref ca)]))
      refine Go.step (fun t k => XS.lloadN X7.here hx rfl (hb hby d2_23) rfl k) ?_
      show Go _ _ _ _ _ _ _ (T7.setTop (mkF m 24 #[.val (.long xx), .second, .val (.int (128 : Int32))] [(.long xx), (.ref ca)]))
      refine Go.step (fun t k => XS.l2i X7.here hx rfl (hb hby d2_24) rfl k) ?_
      show Go _ _ _ _ _ _ _ (T7.setTop (mkF m 25 #[.val (.long xx), .second, .val (.int (128 : Int32))] [(.int (xx.toInt32)), (.ref ca)]))
      refine Go.step (fun t k => XS.sipush X7.here hx rfl (hb hby d2_25) k) ?_
      show Go _ _ _ _ _ _ _ (T7.setTop (mkF m 28 #[.val (.long xx), .second, .val (.int (128 : Int32))] [(.int (128 : Int32)), (.int (xx.toInt32)), (.ref ca)]))
      refine Go.step (fun t k => XS.iadd X7.here hx rfl (hb hby d2_28) rfl k) ?_
      show Go _ _ _ _ _ _ _ (T7.setTop (mkF m 29 #[.val (.long xx), .second, .val (.int (128 : Int32))] [(.int ((xx.toInt32) + (128 : Int32))), (.ref ca)]))
      obtain ⟨cc, bc, Ac, hinc, hatc, E_bc, F_value_bc⟩ := own_cached hca old.2 hc9_1 hc17_4
      refine Go.step (X7.aaload hx (j := ((xx.toInt32) + (128 : Int32))) (v := .ref bc) (by rw [e7]; exact Ac.1) (State.isArrayOf_alike hZ.alike Ac.2.1) rfl Ac.2.2 hinc hatc (g := (mkF m 29 #[.val (.long xx), .second, .val (.int (128 : Int32))] [(.int ((xx.toInt32) + (128 : Int32))), (.ref ca)])) rfl rfl (hb hby d2_29)) ?_
      show Go _ _ _ _ _ _ _ (T7.setTop (mkF m 30 #[.val (.long xx), .second, .val (.int (128 : Int32))] [(.ref bc)]))
      refine Go.retA X7 Bd.notSynchronized hx Bd.returns rfl rfl rfl (hb hby d2_30) (by decide) (by decide) ?_
      rw [e7]
      exact ⟨bc, rfl, N0, K0, E_bc, F_value_bc⟩
theorem d14_0 : decode jdk_35_method_42_code 0 = .ok (.lload_n 0, 1) := by decide +kernel
theorem d14_1 : decode jdk_35_method_42_code 1 = .ok (.lload_n 2, 1) := by decide +kernel
theorem d14_2 : decode jdk_35_method_42_code 2 = .ok (.lcmp, 1) := by decide +kernel
theorem d14_3 : decode jdk_35_method_42_code 3 = .ok (.ifCond .ge 7, 3) := by decide +kernel
theorem d14_6 : decode jdk_35_method_42_code 6 = .ok (.iconst (-1), 1) := by decide +kernel
theorem d14_7 : decode jdk_35_method_42_code 7 = .ok (.goto 14, 3) := by decide +kernel
theorem d14_10 : decode jdk_35_method_42_code 10 = .ok (.lload_n 0, 1) := by decide +kernel
theorem d14_11 : decode jdk_35_method_42_code 11 = .ok (.lload_n 2, 1) := by decide +kernel
theorem d14_12 : decode jdk_35_method_42_code 12 = .ok (.lcmp, 1) := by decide +kernel
theorem d14_13 : decode jdk_35_method_42_code 13 = .ok (.ifCond .ne 7, 3) := by decide +kernel
theorem d14_16 : decode jdk_35_method_42_code 16 = .ok (.iconst 0, 1) := by decide +kernel
theorem d14_17 : decode jdk_35_method_42_code 17 = .ok (.goto 4, 3) := by decide +kernel
theorem d14_20 : decode jdk_35_method_42_code 20 = .ok (.iconst 1, 1) := by decide +kernel
theorem d14_21 : decode jdk_35_method_42_code 21 = .ok (.ireturn, 1) := by decide +kernel
theorem pn_14 : plainName "java/lang/Long" = true := by first | (simp [plainName, overriddenIn]; done) | decide +kernel
theorem ef_14 (m : MethodId) (x0 : Int64) (x1 : Int64) : entryFrame m #[(.long x0), (.long x1)] 4 = mkF m 0 #[.val (.long x0), .second, .val (.long x1), .second] [] := by first | (simp [entryFrame, mkF, argsToLocals, Value.category]; done) | rfl
def Q14 (Z : State) (xx : Int64) (yy : Int64) (h0 : Heap) (n0 : Nat) (v : Option Value) (h : Heap) (L : List Loc) : Prop := v = some (.int (own_cmp xx yy)) ∧ Fr n0 L ∧ h = h0
set_option maxRecDepth 65536 in
set_option maxHeartbeats 40000000 in
theorem rm14 (l : Launch) (Z : State) (a0 : Array Value) (hw : ∀ d ∈ tables_1, d.before a0 Z = true) (ws : List Jvm.Cond) (xx : Int64) (yy : Int64) (h0 : Heap) (n0 : Nat) (Z0 : n0 ≤ h0.size) :
    MetFree l (⟨"java/lang/Long", "compare", "(JJ)I"⟩ : MethodName) (head1 (Jvm.Cond.code (⟨"java/lang/Long", "compare", "(JJ)I"⟩ : MethodName) jdk_35_method_42_code 4 (some .int) :: ws) ({ frames := 0, cells := 0, slots := 0, locals := 0 } : Room)) (fun a U => a = #[(.long xx), (.long yy)] ∧ Z.Warmed39 U.vm ∧ U.heap = h0) (fun _ _ _ _ _ => True) (fun _ U o U' => ∃ v L, o = .returned v ∧ Q14 Z xx yy h0 n0 v U'.heap L ∧ FrameEnd U o U' L ({ frames := 0, cells := 0, slots := 0, locals := 0 } : Room).cells ({ frames := 0, cells := 0, slots := 0, locals := 0 } : Room).slots) := by
  refine MetFree.of_bodySF (plainFor_of_name pn_14) hisR ?_
  intro p e s m args below meth c s₁ Bd hml0 hP hK
  obtain ⟨rfl, hZ, hh⟩ := hP
  have hx := Bd.exec
  have hby := Bd.bytes
  have hml : c.maxLocals = 4 := hml0
  have hown : s.vm.findClass "java/lang/Long" = some m.cls := findClass_of_methodNamed Bd.named
  have hnm := (name_of_methodNamed Bd.named Bd.method).1
  have X0 : Stand p l e ({ frames := 0, cells := 0, slots := 0, locals := 0 } : Room) s m #[(.long xx), (.long yy)] below meth c s₁ [] 0 0 := Stand.of_body Bd
  have e0 : s₁.heap = h0 := by rw [← hh, Bd.state]; rfl
  have N0 := Fr.nil n0
  show Go p e below s (Q14 Z xx yy h0 n0) ({ frames := 0, cells := 0, slots := 0, locals := 0 } : Room).cells ({ frames := 0, cells := 0, slots := 0, locals := 0 } : Room).slots (s₁.setTop (entryFrame m #[(.long xx), (.long yy)] 4))
  rw [ef_14]
  show Go _ _ _ _ _ _ _ (s₁.setTop (mkF m 0 #[.val (.long xx), .second, .val (.long yy), .second] []))
  refine Go.step (fun t k => XS.lloadN X0.here hx rfl (hb hby d14_0) rfl k) ?_
  show Go _ _ _ _ _ _ _ (s₁.setTop (mkF m 1 #[.val (.long xx), .second, .val (.long yy), .second] [(.long xx)]))
  refine Go.step (fun t k => XS.lloadN X0.here hx rfl (hb hby d14_1) rfl k) ?_
  show Go _ _ _ _ _ _ _ (s₁.setTop (mkF m 2 #[.val (.long xx), .second, .val (.long yy), .second] [(.long yy), (.long xx)]))
  refine Go.step (fun t k => XS.lcmp X0.here hx rfl (hb hby d14_2) rfl k) ?_
  show Go _ _ _ _ _ _ _ (s₁.setTop (mkF m 3 #[.val (.long xx), .second, .val (.long yy), .second] [(.int (lcmpW xx yy))]))
  by_cases hc3_1 : xx < yy
  · refine Go.step (fun t k => XS.ifNo X0.here hx rfl (hb hby d14_3) rfl ((if0 _ _).trans (tlt (own_lwlt hc3_1)).2.1) k) ?_
    show Go _ _ _ _ _ _ _ (s₁.setTop (mkF m 6 #[.val (.long xx), .second, .val (.long yy), .second] []))
    refine Go.step (fun t k => XS.iconst X0.here hx rfl (hb hby d14_6) k) ?_
    show Go _ _ _ _ _ _ _ (s₁.setTop (mkF m 7 #[.val (.long xx), .second, .val (.long yy), .second] [(.int (-1 : Int32))]))
    refine Go.step (fun t k => XS.goto X0.here hx rfl (pc0 := 7) (pc' := 21) rfl (hb hby d14_7) (by decide) (by decide) k) ?_
    show Go _ _ _ _ _ _ _ (s₁.setTop (mkF m 21 #[.val (.long xx), .second, .val (.long yy), .second] [(.int (-1 : Int32))]))
    refine Go.retI X0 Bd.notSynchronized hx Bd.returns (hb hby d14_21) (by decide) (by decide) ?_
    rw [e0]
    exact ⟨(by rw [own_cmp, if_pos hc3_1]), N0, rfl⟩
  · refine Go.step (fun t k => XS.ifYes X0.here hx rfl (pc0 := 3) (pc' := 10) rfl (hb hby d14_3) rfl ((if0 _ _).trans (flt (own_nlwlt hc3_1)).2.1) (by decide) (by decide) k) ?_
    show Go _ _ _ _ _ _ _ (s₁.setTop (mkF m 10 #[.val (.long xx), .second, .val (.long yy), .second] []))
    refine Go.step (fun t k => XS.lloadN X0.here hx rfl (hb hby d14_10) rfl k) ?_
    show Go _ _ _ _ _ _ _ (s₁.setTop (mkF m 11 #[.val (.long xx), .second, .val (.long yy), .second] [(.long xx)]))
    refine Go.step (fun t k => XS.lloadN X0.here hx rfl (hb hby d14_11) rfl k) ?_
    show Go _ _ _ _ _ _ _ (s₁.setTop (mkF m 12 #[.val (.long xx), .second, .val (.long yy), .second] [(.long yy), (.long xx)]))
    refine Go.step (fun t k => XS.lcmp X0.here hx rfl (hb hby d14_12) rfl k) ?_
    show Go _ _ _ _ _ _ _ (s₁.setTop (mkF m 13 #[.val (.long xx), .second, .val (.long yy), .second] [(.int (lcmpW xx yy))]))
    by_cases hc13_2 : xx = yy
    · refine Go.step (fun t k => XS.ifNo X0.here hx rfl (hb hby d14_13) rfl ((if0 _ _).trans (teq (own_lweq hc13_2)).2) k) ?_
      show Go _ _ _ _ _ _ _ (s₁.setTop (mkF m 16 #[.val (.long xx), .second, .val (.long yy), .second] []))
      refine Go.step (fun t k => XS.iconst X0.here hx rfl (hb hby d14_16) k) ?_
      show Go _ _ _ _ _ _ _ (s₁.setTop (mkF m 17 #[.val (.long xx), .second, .val (.long yy), .second] [(.int (0 : Int32))]))
      refine Go.step (fun t k => XS.goto X0.here hx rfl (pc0 := 17) (pc' := 21) rfl (hb hby d14_17) (by decide) (by decide) k) ?_
      show Go _ _ _ _ _ _ _ (s₁.setTop (mkF m 21 #[.val (.long xx), .second, .val (.long yy), .second] [(.int (0 : Int32))]))
      refine Go.retI X0 Bd.notSynchronized hx Bd.returns (hb hby d14_21) (by decide) (by decide) ?_
      rw [e0]
      exact ⟨(by rw [own_cmp, if_neg hc3_1, if_pos hc13_2]), N0, rfl⟩
    · refine Go.step (fun t k => XS.ifYes X0.here hx rfl (pc0 := 13) (pc' := 20) rfl (hb hby d14_13) rfl ((if0 _ _).trans (feq (own_nlweq hc13_2)).2) (by decide) (by decide) k) ?_
      show Go _ _ _ _ _ _ _ (s₁.setTop (mkF m 20 #[.val (.long xx), .second, .val (.long yy), .second] []))
      refine Go.step (fun t k => XS.iconst X0.here hx rfl (hb hby d14_20) k) ?_
      show Go _ _ _ _ _ _ _ (s₁.setTop (mkF m 21 #[.val (.long xx), .second, .val (.long yy), .second] [(.int (1 : Int32))]))
      refine Go.retI X0 Bd.notSynchronized hx Bd.returns (hb hby d14_21) (by decide) (by decide) ?_
      rw [e0]
      exact ⟨(by rw [own_cmp, if_neg hc3_1, if_neg hc13_2]), N0, rfl⟩
theorem d13_0 : decode jdk_35_method_41_code 0 = .ok (.aload_n 0, 1) := by decide +kernel
theorem d13_1 : decode jdk_35_method_41_code 1 = .ok (.getfield 273, 3) := by decide +kernel
theorem d13_4 : decode jdk_35_method_41_code 4 = .ok (.aload_n 1, 1) := by decide +kernel
theorem d13_5 : decode jdk_35_method_41_code 5 = .ok (.getfield 273, 3) := by decide +kernel
theorem d13_8 : decode jdk_35_method_41_code 8 = .ok (.invokestatic 302, 3) := by decide +kernel
theorem d13_11 : decode jdk_35_method_41_code 11 = .ok (.ireturn, 1) := by decide +kernel
theorem pn_13_l : plainName "java/lang/Long" = true := by first | (simp [plainName, overriddenIn]; done) | decide +kernel
theorem pd_13_0_l : parseMethodDescriptor "(JJ)I" = some ⟨[.long, .long], some .int⟩ := by decide +kernel
theorem ef_13_l (m : MethodId) (x0 : Addr) (x1 : Addr) : entryFrame m #[(.ref x0), (.ref x1)] 2 = mkF m 0 #[.val (.ref x0), .val (.ref x1)] [] := by first | (simp [entryFrame, mkF, argsToLocals, Value.category]; done) | rfl
def Q13_l (Z : State) (aa : Addr) (bb : Addr) (vx : Int64) (vy : Int64) (h0 : Heap) (n0 : Nat) (v : Option Value) (h : Heap) (L : List Loc) : Prop := v = some (.int (own_cmp vx vy)) ∧ Fr n0 L ∧ h = h0
set_option maxRecDepth 65536 in
set_option maxHeartbeats 40000000 in
theorem rm13_l (l : Launch) (Z : State) (a0 : Array Value) (hw : ∀ d ∈ tables_1, d.before a0 Z = true) (ws : List Jvm.Cond) (aa : Addr) (bb : Addr) (vx : Int64) (vy : Int64) (h0 : Heap) (n0 : Nat) (Z0 : n0 ≤ h0.size) (F_value_aa : Fld Z h0 aa "java/lang/Long" "value" "J" (.long vx)) (F_value_bb : Fld Z h0 bb "java/lang/Long" "value" "J" (.long vy)) :
    MetFree l (⟨"java/lang/Long", "compareTo", "(Ljava/lang/Long;)I"⟩ : MethodName) (head1 (Jvm.Cond.code (⟨"java/lang/Long", "compareTo", "(Ljava/lang/Long;)I"⟩ : MethodName) jdk_35_method_41_code 2 (some .int) :: ws) ({ frames := 1, cells := 0, slots := 0, locals := 15 } : Room)) (fun a U => a = #[(.ref aa), (.ref bb)] ∧ Z.Warmed39 U.vm ∧ U.heap = h0) (fun _ _ _ _ _ => True) (fun _ U o U' => ∃ v L, o = .returned v ∧ Q13_l Z aa bb vx vy h0 n0 v U'.heap L ∧ FrameEnd U o U' L ({ frames := 1, cells := 0, slots := 0, locals := 15 } : Room).cells ({ frames := 1, cells := 0, slots := 0, locals := 15 } : Room).slots) := by
  refine MetFree.of_bodySF (plainFor_of_name pn_13_l) hisR ?_
  intro p e s m args below meth c s₁ Bd hml0 hP hK
  obtain ⟨rfl, hZ, hh⟩ := hP
  have hx := Bd.exec
  have hby := Bd.bytes
  have hml : c.maxLocals = 2 := hml0
  have hown : s.vm.findClass "java/lang/Long" = some m.cls := findClass_of_methodNamed Bd.named
  have hnm := (name_of_methodNamed Bd.named Bd.method).1
  have X0 : Stand p l e ({ frames := 1, cells := 0, slots := 0, locals := 15 } : Room) s m #[(.ref aa), (.ref bb)] below meth c s₁ [] 0 0 := Stand.of_body Bd
  have e0 : s₁.heap = h0 := by rw [← hh, Bd.state]; rfl
  have N0 := Fr.nil n0
  show Go p e below s (Q13_l Z aa bb vx vy h0 n0) ({ frames := 1, cells := 0, slots := 0, locals := 15 } : Room).cells ({ frames := 1, cells := 0, slots := 0, locals := 15 } : Room).slots (s₁.setTop (entryFrame m #[(.ref aa), (.ref bb)] 2))
  rw [ef_13_l]
  show Go _ _ _ _ _ _ _ (s₁.setTop (mkF m 0 #[.val (.ref aa), .val (.ref bb)] []))
  refine Go.step (fun t k => XS.aloadN X0.here hx rfl (hb hby d13_0) rfl rfl k) ?_
  show Go _ _ _ _ _ _ _ (s₁.setTop (mkF m 1 #[.val (.ref aa), .val (.ref bb)] [(.ref aa)]))
  obtain ⟨T1, X1, e1, st1⟩ := getF X0 hx hZ hown (host := "") (Or.inl (hw _ (List.mem_of_getElem? (i := 32) rfl))) Via.refl e0 F_value_aa (g := (mkF m 1 #[.val (.ref aa), .val (.ref bb)] [(.ref aa)])) rfl rfl (hb hby d13_1)
  refine Go.step st1 ?_
  show Go _ _ _ _ _ _ _ (T1.setTop (mkF m 4 #[.val (.ref aa), .val (.ref bb)] [(.long vx)]))
  refine Go.step (fun t k => XS.aloadN X1.here hx rfl (hb hby d13_4) rfl rfl k) ?_
  show Go _ _ _ _ _ _ _ (T1.setTop (mkF m 5 #[.val (.ref aa), .val (.ref bb)] [(.ref bb), (.long vx)]))
  obtain ⟨T2, X2, e2, st2⟩ := getF X1 hx hZ hown (host := "") (Or.inl (hw _ (List.mem_of_getElem? (i := 32) rfl))) Via.refl e1 F_value_bb (g := (mkF m 5 #[.val (.ref aa), .val (.ref bb)] [(.ref bb), (.long vx)])) rfl rfl (hb hby d13_5)
  refine Go.step st2 ?_
  show Go _ _ _ _ _ _ _ (T2.setTop (mkF m 8 #[.val (.ref aa), .val (.ref bb)] [(.long vy), (.long vx)]))
  obtain ⟨_, _, ⟨T3, L3, k3, n3⟩, -, X3, ⟨Lc3, hQ3, l3, y3, z3⟩, st3⟩ := Jvm.LawKit.callS X2 hx (y := (⟨"java/lang/Long", "compare", "(JJ)I"⟩ : MethodName)) hown (mvT hZ (hw _ (List.mem_of_getElem? (i := 91) rfl))) (mvT hZ (hw _ (List.mem_of_getElem? (i := 92) rfl))) (mvT hZ (hw _ (List.mem_of_getElem? (i := 7) rfl))) (mvT hZ (hw _ (List.mem_of_getElem? (i := 93) rfl))) (by decide) (backOf (W := 0) (rm14 l Z a0 hw [] vx vy h0 n0 Z0) hZ (hw _ (List.mem_of_getElem? (i := 93) rfl)) (hw _ (List.mem_of_getElem? (i := 7) rfl)) (by decide) (by decide)) (g := (mkF m 8 #[.val (.ref aa), .val (.ref bb)] [(.long vy), (.long vx)])) rfl (by rw [hml]; rfl) (argsL := [(.long vx), (.long vy)]) (rest := []) (lenOf pd_13_0_l rfl) rfl (by show 2 * 0 + _ ≤ _; exact Nat.le_of_eq rfl) (hb hby d13_8) (fun _ _ => ⟨rfl, e2, (by decide : 0 + 0 ≤ _), (by decide : 0 + 0 ≤ _)⟩)
  dsimp only [Pt.U, Pt.locs, Pt.cells, Pt.slots] at X3 l3 y3 z3 st3 hQ3
  subst l3 y3 z3
  obtain ⟨rfl, N3q, K3q⟩ := hQ3
  have N3 := Fr.app N0 N3q
  refine Go.step st3 ?_
  show Go _ _ _ _ _ _ _ (T3.setTop (mkF m 11 #[.val (.ref aa), .val (.ref bb)] [(.int (own_cmp vx vy))]))
  refine Go.retI X3 Bd.notSynchronized hx Bd.returns (hb hby d13_11) (by decide) (by decide) ?_
  rw [K3q]
  exact ⟨rfl, N3, rfl⟩
theorem d12_0 : decode jdk_35_method_64_code 0 = .ok (.aload_n 0, 1) := by decide +kernel
theorem d12_1 : decode jdk_35_method_64_code 1 = .ok (.aload_n 1, 1) := by decide +kernel
theorem d12_2 : decode jdk_35_method_64_code 2 = .ok (.checkcast 1, 3) := by decide +kernel
theorem d12_5 : decode jdk_35_method_64_code 5 = .ok (.invokevirtual 343, 3) := by decide +kernel
theorem d12_8 : decode jdk_35_method_64_code 8 = .ok (.ireturn, 1) := by decide +kernel
theorem pn_12_o : plainName "java/lang/Long" = true := by first | (simp [plainName, overriddenIn]; done) | decide +kernel
theorem pd_12_0_o : parseMethodDescriptor "(Ljava/lang/Long;)I" = some ⟨[(.object "java/lang/Long")], some .int⟩ := by decide +kernel
theorem ef_12_o (m : MethodId) (x0 : Addr) (x1 : Addr) : entryFrame m #[(.ref x0), (.ref x1)] 2 = mkF m 0 #[.val (.ref x0), .val (.ref x1)] [] := by first | (simp [entryFrame, mkF, argsToLocals, Value.category]; done) | rfl
def Q12_o (Z : State) (aa : Addr) (bb : Addr) (vx : Int64) (vy : Int64) (h0 : Heap) (n0 : Nat) (v : Option Value) (h : Heap) (L : List Loc) : Prop := v = some (.int (own_cmp vx vy)) ∧ Fr n0 L ∧ h = h0
set_option maxRecDepth 65536 in
set_option maxHeartbeats 40000000 in
theorem rm12_o (l : Launch) (Z : State) (a0 : Array Value) (hw : ∀ d ∈ tables_1, d.before a0 Z = true) (ws : List Jvm.Cond) (aa : Addr) (bb : Addr) (vx : Int64) (vy : Int64) (h0 : Heap) (n0 : Nat) (Z0 : n0 ≤ h0.size) (F_value_aa : Fld Z h0 aa "java/lang/Long" "value" "J" (.long vx)) (F_value_bb : Fld Z h0 bb "java/lang/Long" "value" "J" (.long vy)) (E_aa : Exa Z h0 aa "java/lang/Long") (E_bb : Exa Z h0 bb "java/lang/Long") :
    MetFree l (⟨"java/lang/Long", "compareTo", "(Ljava/lang/Object;)I"⟩ : MethodName) (head1 (Jvm.Cond.code (⟨"java/lang/Long", "compareTo", "(Ljava/lang/Object;)I"⟩ : MethodName) jdk_35_method_64_code 2 (some .int) :: ws) ({ frames := 2, cells := 0, slots := 0, locals := 28 } : Room)) (fun a U => a = #[(.ref aa), (.ref bb)] ∧ Z.Warmed39 U.vm ∧ U.heap = h0) (fun _ _ _ _ _ => True) (fun _ U o U' => ∃ v L, o = .returned v ∧ Q12_o Z aa bb vx vy h0 n0 v U'.heap L ∧ FrameEnd U o U' L ({ frames := 2, cells := 0, slots := 0, locals := 28 } : Room).cells ({ frames := 2, cells := 0, slots := 0, locals := 28 } : Room).slots) := by
  refine MetFree.of_bodySF (plainFor_of_name pn_12_o) hisR ?_
  intro p e s m args below meth c s₁ Bd hml0 hP hK
  obtain ⟨rfl, hZ, hh⟩ := hP
  have hx := Bd.exec
  have hby := Bd.bytes
  have hml : c.maxLocals = 2 := hml0
  have hown : s.vm.findClass "java/lang/Long" = some m.cls := findClass_of_methodNamed Bd.named
  have hnm := (name_of_methodNamed Bd.named Bd.method).1
  have X0 : Stand p l e ({ frames := 2, cells := 0, slots := 0, locals := 28 } : Room) s m #[(.ref aa), (.ref bb)] below meth c s₁ [] 0 0 := Stand.of_body Bd
  have e0 : s₁.heap = h0 := by rw [← hh, Bd.state]; rfl
  have N0 := Fr.nil n0
  show Go p e below s (Q12_o Z aa bb vx vy h0 n0) ({ frames := 2, cells := 0, slots := 0, locals := 28 } : Room).cells ({ frames := 2, cells := 0, slots := 0, locals := 28 } : Room).slots (s₁.setTop (entryFrame m #[(.ref aa), (.ref bb)] 2))
  rw [ef_12_o]
  show Go _ _ _ _ _ _ _ (s₁.setTop (mkF m 0 #[.val (.ref aa), .val (.ref bb)] []))
  refine Go.step (fun t k => XS.aloadN X0.here hx rfl (hb hby d12_0) rfl rfl k) ?_
  show Go _ _ _ _ _ _ _ (s₁.setTop (mkF m 1 #[.val (.ref aa), .val (.ref bb)] [(.ref aa)]))
  refine Go.step (fun t k => XS.aloadN X0.here hx rfl (hb hby d12_1) rfl rfl k) ?_
  show Go _ _ _ _ _ _ _ (s₁.setTop (mkF m 2 #[.val (.ref aa), .val (.ref bb)] [(.ref bb), (.ref aa)]))
  obtain ⟨T1, X1, e1, st1⟩ := castY X0 hx hZ hown (hw _ (List.mem_of_getElem? (i := 17) rfl)) e0 (Ins.self E_bb) (g := (mkF m 2 #[.val (.ref aa), .val (.ref bb)] [(.ref bb), (.ref aa)])) rfl rfl (hb hby d12_2)
  refine Go.step st1 ?_
  show Go _ _ _ _ _ _ _ (T1.setTop (mkF m 5 #[.val (.ref aa), .val (.ref bb)] [(.ref bb), (.ref aa)]))
  obtain ⟨cq2, kq2, q2a, q2b, q2c⟩ := isOf hZ e1 E_aa
  obtain ⟨_, _, ⟨T2, L2, k2, n2⟩, -, X2, ⟨Lc2, hQ2, l2, y2, z2⟩, st2⟩ := X1.virtualBack hx (y := (⟨"java/lang/Long", "compareTo", "(Ljava/lang/Long;)I"⟩ : MethodName)) (z := (⟨"java/lang/Long", "compareTo", "(Ljava/lang/Long;)I"⟩ : MethodName)) hown (mvT hZ (hw _ (List.mem_of_getElem? (i := 86) rfl))) (mvT hZ (hw _ (List.mem_of_getElem? (i := 87) rfl))) (notFace_of_selects (args := #[]) (mvT hZ (hw _ (List.mem_of_getElem? (i := 89) rfl)))) (mvT hZ (hw _ (List.mem_of_getElem? (i := 89) rfl))) (mvT hZ (hw _ (List.mem_of_getElem? (i := 88) rfl))) (by decide) (backOf (W := 0) (rm13_l l Z a0 hw [] aa bb vx vy h0 n0 Z0 F_value_aa F_value_bb) hZ (hw _ (List.mem_of_getElem? (i := 90) rfl)) (hw _ (List.mem_of_getElem? (i := 7) rfl)) (by decide) (by decide)) q2a q2c (g := (mkF m 5 #[.val (.ref aa), .val (.ref bb)] [(.ref bb), (.ref aa)])) rfl (by rw [hml]; rfl) (Steps.refl _) (argsL := [(.ref bb)]) (rest := []) (lenOf pd_12_0_o rfl) rfl (by show 2 * 0 + _ ≤ _; exact Nat.le_of_eq rfl) (hb hby d12_5) (fun _ _ => ⟨rfl, e1, (by decide : 0 + 0 ≤ _), (by decide : 0 + 0 ≤ _)⟩)
  dsimp only [Pt.U, Pt.locs, Pt.cells, Pt.slots] at X2 l2 y2 z2 st2 hQ2
  subst l2 y2 z2
  obtain ⟨rfl, N2q, K2q⟩ := hQ2
  have N2 := Fr.app N0 N2q
  refine Go.step (fun t k => st2.trans k) ?_
  show Go _ _ _ _ _ _ _ (T2.setTop (mkF m 8 #[.val (.ref aa), .val (.ref bb)] [(.int (own_cmp vx vy))]))
  refine Go.retI X2 Bd.notSynchronized hx Bd.returns (hb hby d12_8) (by decide) (by decide) ?_
  rw [K2q]
  exact ⟨rfl, N2, rfl⟩
theorem d11_0 : decode prog_78_method_3_code 0 = .ok (.aload_n 0, 1) := by decide +kernel
theorem d11_1 : decode prog_78_method_3_code 1 = .ok (.checkcast 55, 3) := by decide +kernel
theorem d11_4 : decode prog_78_method_3_code 4 = .ok (.aload_n 1, 1) := by decide +kernel
theorem d11_5 : decode prog_78_method_3_code 5 = .ok (.invokeinterface 57 2, 5) := by decide +kernel
theorem d11_10 : decode prog_78_method_3_code 10 = .ok (.ireturn, 1) := by decide +kernel
theorem pn_11 : plainName "com/example/rootkeep/rootkeep/object/SortedTree" = true := by first | (simp [plainName, overriddenIn]; done) | decide +kernel
theorem pd_11_0 : parseMethodDescriptor "(Ljava/lang/Object;)I" = some ⟨[(.object "java/lang/Object")], some .int⟩ := by decide +kernel
theorem ef_11 (m : MethodId) (x0 : Addr) (x1 : Addr) : entryFrame m #[(.ref x0), (.ref x1)] 2 = mkF m 0 #[.val (.ref x0), .val (.ref x1)] [] := by first | (simp [entryFrame, mkF, argsToLocals, Value.category]; done) | rfl
def Q11 (Z : State) (aa : Addr) (bb : Addr) (vx : Int64) (vy : Int64) (h0 : Heap) (n0 : Nat) (v : Option Value) (h : Heap) (L : List Loc) : Prop := v = some (.int (own_cmp vx vy)) ∧ Fr n0 L ∧ h = h0
set_option maxRecDepth 65536 in
set_option maxHeartbeats 40000000 in
theorem rm11 (l : Launch) (Z : State) (a0 : Array Value) (hw : ∀ d ∈ tables_1, d.before a0 Z = true) (ws : List Jvm.Cond) (aa : Addr) (bb : Addr) (vx : Int64) (vy : Int64) (h0 : Heap) (n0 : Nat) (Z0 : n0 ≤ h0.size) (F_value_aa : Fld Z h0 aa "java/lang/Long" "value" "J" (.long vx)) (F_value_bb : Fld Z h0 bb "java/lang/Long" "value" "J" (.long vy)) (E_aa : Exa Z h0 aa "java/lang/Long") (E_bb : Exa Z h0 bb "java/lang/Long") :
    MetFree l (⟨"com/example/rootkeep/rootkeep/object/SortedTree", "compare", "(Ljava/lang/Object;Ljava/lang/Object;)I"⟩ : MethodName) (head1 (Jvm.Cond.code (⟨"com/example/rootkeep/rootkeep/object/SortedTree", "compare", "(Ljava/lang/Object;Ljava/lang/Object;)I"⟩ : MethodName) prog_78_method_3_code 2 (some .int) :: ws) ({ frames := 3, cells := 0, slots := 0, locals := 41 } : Room)) (fun a U => a = #[(.ref aa), (.ref bb)] ∧ Z.Warmed39 U.vm ∧ U.heap = h0) (fun _ _ _ _ _ => True) (fun _ U o U' => ∃ v L, o = .returned v ∧ Q11 Z aa bb vx vy h0 n0 v U'.heap L ∧ FrameEnd U o U' L ({ frames := 3, cells := 0, slots := 0, locals := 41 } : Room).cells ({ frames := 3, cells := 0, slots := 0, locals := 41 } : Room).slots) := by
  refine MetFree.of_bodySF (plainFor_of_name pn_11) hisR ?_
  intro p e s m args below meth c s₁ Bd hml0 hP hK
  obtain ⟨rfl, hZ, hh⟩ := hP
  have hx := Bd.exec
  have hby := Bd.bytes
  have hml : c.maxLocals = 2 := hml0
  have hown : s.vm.findClass "com/example/rootkeep/rootkeep/object/SortedTree" = some m.cls := findClass_of_methodNamed Bd.named
  have hnm := (name_of_methodNamed Bd.named Bd.method).1
  have X0 : Stand p l e ({ frames := 3, cells := 0, slots := 0, locals := 41 } : Room) s m #[(.ref aa), (.ref bb)] below meth c s₁ [] 0 0 := Stand.of_body Bd
  have e0 : s₁.heap = h0 := by rw [← hh, Bd.state]; rfl
  have N0 := Fr.nil n0
  show Go p e below s (Q11 Z aa bb vx vy h0 n0) ({ frames := 3, cells := 0, slots := 0, locals := 41 } : Room).cells ({ frames := 3, cells := 0, slots := 0, locals := 41 } : Room).slots (s₁.setTop (entryFrame m #[(.ref aa), (.ref bb)] 2))
  rw [ef_11]
  show Go _ _ _ _ _ _ _ (s₁.setTop (mkF m 0 #[.val (.ref aa), .val (.ref bb)] []))
  refine Go.step (fun t k => XS.aloadN X0.here hx rfl (hb hby d11_0) rfl rfl k) ?_
  show Go _ _ _ _ _ _ _ (s₁.setTop (mkF m 1 #[.val (.ref aa), .val (.ref bb)] [(.ref aa)]))
  obtain ⟨T1, X1, e1, st1⟩ := castY X0 hx hZ hown (hw _ (List.mem_of_getElem? (i := 76) rfl)) e0 (Ins.of_exa E_aa (hw _ (List.mem_of_getElem? (i := 77) rfl))) (g := (mkF m 1 #[.val (.ref aa), .val (.ref bb)] [(.ref aa)])) rfl rfl (hb hby d11_1)
  refine Go.step st1 ?_
  show Go _ _ _ _ _ _ _ (T1.setTop (mkF m 4 #[.val (.ref aa), .val (.ref bb)] [(.ref aa)]))
  refine Go.step (fun t k => XS.aloadN X1.here hx rfl (hb hby d11_4) rfl rfl k) ?_
  show Go _ _ _ _ _ _ _ (T1.setTop (mkF m 5 #[.val (.ref aa), .val (.ref bb)] [(.ref bb), (.ref aa)]))
  obtain ⟨cq2, kq2, q2a, q2b, q2c⟩ := isOf hZ e1 E_aa
  obtain ⟨_, _, ⟨T2, L2, k2, n2⟩, -, X2, ⟨Lc2, hQ2, l2, y2, z2⟩, st2⟩ := X1.interfaceBack hx (xi := (⟨"java/lang/Comparable", "compareTo", "(Ljava/lang/Object;)I"⟩ : MethodName)) (y := (⟨"java/lang/Long", "compareTo", "(Ljava/lang/Object;)I"⟩ : MethodName)) hown (mvT hZ (hw _ (List.mem_of_getElem? (i := 78) rfl))) (mvT hZ (hw _ (List.mem_of_getElem? (i := 79) rfl))) (mvT hZ (hw _ (List.mem_of_getElem? (i := 80) rfl))) (mvT hZ (hw _ (List.mem_of_getElem? (i := 81) rfl))) (mvT hZ (hw _ (List.mem_of_getElem? (i := 82) rfl))) (mvT hZ (hw _ (List.mem_of_getElem? (i := 83) rfl))) (mvT hZ (hw _ (List.mem_of_getElem? (i := 84) rfl))) (mvT hZ (hw _ (List.mem_of_getElem? (i := 77) rfl))) (by decide) (backOf (W := 0) (rm12_o l Z a0 hw [] aa bb vx vy h0 n0 Z0 F_value_aa F_value_bb E_aa E_bb) hZ (hw _ (List.mem_of_getElem? (i := 85) rfl)) (hw _ (List.mem_of_getElem? (i := 7) rfl)) (by decide) (by decide)) q2a q2b q2c (g := (mkF m 5 #[.val (.ref aa), .val (.ref bb)] [(.ref bb), (.ref aa)])) rfl (by rw [hml]; rfl) (Steps.refl _) (argsL := [(.ref bb)]) (rest := []) (lenOf pd_11_0 rfl) rfl (by show 2 * 0 + _ ≤ _; exact Nat.le_of_eq rfl) (hb hby d11_5) (fun _ _ => ⟨rfl, e1, (by decide : 0 + 0 ≤ _), (by decide : 0 + 0 ≤ _)⟩)
  dsimp only [Pt.U, Pt.locs, Pt.cells, Pt.slots] at X2 l2 y2 z2 st2 hQ2
  subst l2 y2 z2
  obtain ⟨rfl, N2q, K2q⟩ := hQ2
  have N2 := Fr.app N0 N2q
  refine Go.step (fun t k => st2.trans k) ?_
  show Go _ _ _ _ _ _ _ (T2.setTop (mkF m 10 #[.val (.ref aa), .val (.ref bb)] [(.int (own_cmp vx vy))]))
  refine Go.retI X2 Bd.notSynchronized hx Bd.returns (hb hby d11_10) (by decide) (by decide) ?_
  rw [K2q]
  exact ⟨rfl, N2, rfl⟩
theorem d8_0 : decode jdk_30_method_1_code 0 = .ok (.aload_n 0, 1) := by decide +kernel
theorem d8_1 : decode jdk_30_method_1_code 1 = .ok (.invokespecial 1, 3) := by decide +kernel
theorem d8_4 : decode jdk_30_method_1_code 4 = .ok (.return_, 1) := by decide +kernel
theorem pn_8 : plainName "java/lang/Record" = true := by first | (simp [plainName, overriddenIn]; done) | decide +kernel
theorem ef_8 (m : MethodId) (x0 : Addr) : entryFrame m #[(.ref x0)] 1 = mkF m 0 #[.val (.ref x0)] [] := by first | (simp [entryFrame, mkF, argsToLocals, Value.category]; done) | rfl
def Q8 (Z : State) (aa : Addr) (h0 : Heap) (n0 : Nat) (v : Option Value) (h : Heap) (L : List Loc) : Prop := v = none ∧ Fr n0 L ∧ h = h0
set_option maxRecDepth 65536 in
set_option maxHeartbeats 40000000 in
theorem rm8 (l : Launch) (Z : State) (a0 : Array Value) (hw : ∀ d ∈ tables_1, d.before a0 Z = true) (ws : List Jvm.Cond) (aa : Addr) (h0 : Heap) (n0 : Nat) (Z0 : n0 ≤ h0.size) :
    MetFree l (⟨"java/lang/Record", "<init>", "()V"⟩ : MethodName) (head1 (Jvm.Cond.code (⟨"java/lang/Record", "<init>", "()V"⟩ : MethodName) jdk_30_method_1_code 1 none :: ws) ({ frames := 1, cells := 0, slots := 0, locals := 12 } : Room)) (fun a U => a = #[(.ref aa)] ∧ Z.Warmed39 U.vm ∧ U.heap = h0) (fun _ _ _ _ _ => True) (fun _ U o U' => ∃ v L, o = .returned v ∧ Q8 Z aa h0 n0 v U'.heap L ∧ FrameEnd U o U' L ({ frames := 1, cells := 0, slots := 0, locals := 12 } : Room).cells ({ frames := 1, cells := 0, slots := 0, locals := 12 } : Room).slots) := by
  refine MetFree.of_bodySF (plainFor_of_name pn_8) hisR ?_
  intro p e s m args below meth c s₁ Bd hml0 hP hK
  obtain ⟨rfl, hZ, hh⟩ := hP
  have hx := Bd.exec
  have hby := Bd.bytes
  have hml : c.maxLocals = 1 := hml0
  have hown : s.vm.findClass "java/lang/Record" = some m.cls := findClass_of_methodNamed Bd.named
  have hnm := (name_of_methodNamed Bd.named Bd.method).1
  have X0 : Stand p l e ({ frames := 1, cells := 0, slots := 0, locals := 12 } : Room) s m #[(.ref aa)] below meth c s₁ [] 0 0 := Stand.of_body Bd
  have e0 : s₁.heap = h0 := by rw [← hh, Bd.state]; rfl
  have N0 := Fr.nil n0
  show Go p e below s (Q8 Z aa h0 n0) ({ frames := 1, cells := 0, slots := 0, locals := 12 } : Room).cells ({ frames := 1, cells := 0, slots := 0, locals := 12 } : Room).slots (s₁.setTop (entryFrame m #[(.ref aa)] 1))
  rw [ef_8]
  show Go _ _ _ _ _ _ _ (s₁.setTop (mkF m 0 #[.val (.ref aa)] []))
  refine Go.step (fun t k => XS.aloadN X0.here hx rfl (hb hby d8_0) rfl rfl k) ?_
  show Go _ _ _ _ _ _ _ (s₁.setTop (mkF m 1 #[.val (.ref aa)] [(.ref aa)]))
  obtain ⟨T1, X1, e1, st1⟩ := initO X0 hx hZ hown (hw _ (List.mem_of_getElem? (i := 47) rfl)) (hw _ (List.mem_of_getElem? (i := 30) rfl)) (hw _ (List.mem_of_getElem? (i := 31) rfl)) e0 (g := (mkF m 1 #[.val (.ref aa)] [(.ref aa)])) rfl (by rw [hml]; rfl) rfl (hb hby d8_1) (by decide) (W := 0) (by show 2 * 0 + _ ≤ _; exact Nat.le_of_eq rfl) (by decide)
  refine Go.step st1 ?_
  show Go _ _ _ _ _ _ _ (T1.setTop (mkF m 4 #[.val (.ref aa)] []))
  refine Go.retV X1 Bd.notSynchronized hx Bd.returns (hb hby d8_4) (by decide) (by decide) ?_
  rw [e1]
  exact ⟨rfl, N0, rfl⟩
theorem d7_0 : decode prog_1_method_1_code 0 = .ok (.aload_n 0, 1) := by decide +kernel
theorem d7_1 : decode prog_1_method_1_code 1 = .ok (.invokespecial 1, 3) := by decide +kernel
theorem d7_4 : decode prog_1_method_1_code 4 = .ok (.aload_n 0, 1) := by decide +kernel
theorem d7_5 : decode prog_1_method_1_code 5 = .ok (.iload_n 1, 1) := by decide +kernel
theorem d7_6 : decode prog_1_method_1_code 6 = .ok (.putfield 7, 3) := by decide +kernel
theorem d7_9 : decode prog_1_method_1_code 9 = .ok (.aload_n 0, 1) := by decide +kernel
theorem d7_10 : decode prog_1_method_1_code 10 = .ok (.iload_n 2, 1) := by decide +kernel
theorem d7_11 : decode prog_1_method_1_code 11 = .ok (.putfield 13, 3) := by decide +kernel
theorem d7_14 : decode prog_1_method_1_code 14 = .ok (.aload_n 0, 1) := by decide +kernel
theorem d7_15 : decode prog_1_method_1_code 15 = .ok (.aload_n 3, 1) := by decide +kernel
theorem d7_16 : decode prog_1_method_1_code 16 = .ok (.putfield 16, 3) := by decide +kernel
theorem d7_19 : decode prog_1_method_1_code 19 = .ok (.aload_n 0, 1) := by decide +kernel
theorem d7_20 : decode prog_1_method_1_code 20 = .ok (.iload 4, 2) := by decide +kernel
theorem d7_22 : decode prog_1_method_1_code 22 = .ok (.putfield 20, 3) := by decide +kernel
theorem d7_25 : decode prog_1_method_1_code 25 = .ok (.aload_n 0, 1) := by decide +kernel
theorem d7_26 : decode prog_1_method_1_code 26 = .ok (.iload 5, 2) := by decide +kernel
theorem d7_28 : decode prog_1_method_1_code 28 = .ok (.putfield 23, 3) := by decide +kernel
theorem d7_31 : decode prog_1_method_1_code 31 = .ok (.aload_n 0, 1) := by decide +kernel
theorem d7_32 : decode prog_1_method_1_code 32 = .ok (.aload 6, 2) := by decide +kernel
theorem d7_34 : decode prog_1_method_1_code 34 = .ok (.putfield 26, 3) := by decide +kernel
theorem d7_37 : decode prog_1_method_1_code 37 = .ok (.aload_n 0, 1) := by decide +kernel
theorem d7_38 : decode prog_1_method_1_code 38 = .ok (.iload 7, 2) := by decide +kernel
theorem d7_40 : decode prog_1_method_1_code 40 = .ok (.putfield 29, 3) := by decide +kernel
theorem d7_43 : decode prog_1_method_1_code 43 = .ok (.return_, 1) := by decide +kernel
theorem pn_7_00 : plainName "com/example/rootkeep/rootkeep/KeyRange" = true := by first | (simp [plainName, overriddenIn]; done) | decide +kernel
theorem pd_7_0_00 : parseMethodDescriptor "()V" = some ⟨[], none⟩ := by decide +kernel
theorem ef_7_00 (m : MethodId) (x0 : Addr) (x1 : Int32) (x2 : Int32) (x3 : Addr) (x4 : Int32) (x5 : Int32) (x6 : Addr) (x7 : Int32) : entryFrame m #[(.ref x0), (.int x1), (.int x2), (.ref x3), (.int x4), (.int x5), (.ref x6), (.int x7)] 8 = mkF m 0 #[.val (.ref x0), .val (.int x1), .val (.int x2), .val (.ref x3), .val (.int x4), .val (.int x5), .val (.ref x6), .val (.int x7)] [] := by first | (simp [entryFrame, mkF, argsToLocals, Value.category]; done) | rfl
def Q7_00 (Z : State) (aa : Addr) (ds : Int32) (fs : Int32) (xl : Addr) (li : Int32) (te : Int32) (xh : Addr) (hi : Int32) (h0 : Heap) (n0 : Nat) (v : Option Value) (h : Heap) (L : List Loc) : Prop := v = none ∧ Fr n0 L ∧ Keep h0 h [aa] ∧ Fld Z h aa "com/example/rootkeep/rootkeep/KeyRange" "descending" "Z" (.int ds) ∧ Fld Z h aa "com/example/rootkeep/rootkeep/KeyRange" "fromStart" "Z" (.int fs) ∧ Fld Z h aa "com/example/rootkeep/rootkeep/KeyRange" "lo" "Ljava/lang/Object;" (.ref xl) ∧ Fld Z h aa "com/example/rootkeep/rootkeep/KeyRange" "loInclusive" "Z" (.int li) ∧ Fld Z h aa "com/example/rootkeep/rootkeep/KeyRange" "toEnd" "Z" (.int te) ∧ Fld Z h aa "com/example/rootkeep/rootkeep/KeyRange" "hi" "Ljava/lang/Object;" (.ref xh) ∧ Fld Z h aa "com/example/rootkeep/rootkeep/KeyRange" "hiInclusive" "Z" (.int hi)
set_option maxRecDepth 65536 in
set_option maxHeartbeats 40000000 in
theorem rm7_00 (l : Launch) (Z : State) (a0 : Array Value) (hw : ∀ d ∈ tables_1, d.before a0 Z = true) (ws : List Jvm.Cond) (aa : Addr) (ds : Int32) (fs : Int32) (xl : Addr) (li : Int32) (te : Int32) (xh : Addr) (hi : Int32) (h0 : Heap) (n0 : Nat) (Z0 : n0 ≤ h0.size) (F_descending_aa : Fld Z h0 aa "com/example/rootkeep/rootkeep/KeyRange" "descending" "Z" (.int (0 : Int32))) (F_fromStart_aa : Fld Z h0 aa "com/example/rootkeep/rootkeep/KeyRange" "fromStart" "Z" (.int (0 : Int32))) (F_lo_aa : Fld Z h0 aa "com/example/rootkeep/rootkeep/KeyRange" "lo" "Ljava/lang/Object;" .null) (F_loInclusive_aa : Fld Z h0 aa "com/example/rootkeep/rootkeep/KeyRange" "loInclusive" "Z" (.int (0 : Int32))) (F_toEnd_aa : Fld Z h0 aa "com/example/rootkeep/rootkeep/KeyRange" "toEnd" "Z" (.int (0 : Int32))) (F_hi_aa : Fld Z h0 aa "com/example/rootkeep/rootkeep/KeyRange" "hi" "Ljava/lang/Object;" .null) (F_hiInclusive_aa : Fld Z h0 aa "com/example/rootkeep/rootkeep/KeyRange" "hiInclusive" "Z" (.int (0 : Int32))) (E_aa : Exa Z h0 aa "com/example/rootkeep/rootkeep/KeyRange") (g_aa : n0 ≤ aa) (h_ds : (ds = 0 ∨ ds = 1)) (h_fs : (fs = 0 ∨ fs = 1)) (h_li : (li = 0 ∨ li = 1)) (h_te : (te = 0 ∨ te = 1)) (h_hi : (hi = 0 ∨ hi = 1)) :
    MetFree l (⟨"com/example/rootkeep/rootkeep/KeyRange", "<init>", "(ZZLjava/lang/Object;ZZLjava/lang/Object;Z)V"⟩ : MethodName) (head1 (Jvm.Cond.code (⟨"com/example/rootkeep/rootkeep/KeyRange", "<init>", "(ZZLjava/lang/Object;ZZLjava/lang/Object;Z)V"⟩ : MethodName) prog_1_method_1_code 8 none :: ws) ({ frames := 2, cells := 0, slots := 0, locals := 24 } : Room)) (fun a U => a = #[(.ref aa), (.int ds), (.int fs), (.ref xl), (.int li), (.int te), (.ref xh), (.int hi)] ∧ Z.Warmed39 U.vm ∧ U.heap = h0) (fun _ _ _ _ _ => True) (fun _ U o U' => ∃ v L, o = .returned v ∧ Q7_00 Z aa ds fs xl li te xh hi h0 n0 v U'.heap L ∧ FrameEnd U o U' L ({ frames := 2, cells := 0, slots := 0, locals := 24 } : Room).cells ({ frames := 2, cells := 0, slots := 0, locals := 24 } : Room).slots) := by
  refine MetFree.of_bodySF (plainFor_of_name pn_7_00) hisR ?_
  intro p e s m args below meth c s₁ Bd hml0 hP hK
  obtain ⟨rfl, hZ, hh⟩ := hP
  have hx := Bd.exec
  have hby := Bd.bytes
  have hml : c.maxLocals = 8 := hml0
  have hown : s.vm.findClass "com/example/rootkeep/rootkeep/KeyRange" = some m.cls := findClass_of_methodNamed Bd.named
  have hnm := (name_of_methodNamed Bd.named Bd.method).1
  have X0 : Stand p l e ({ frames := 2, cells := 0, slots := 0, locals := 24 } : Room) s m #[(.ref aa), (.int ds), (.int fs), (.ref xl), (.int li), (.int te), (.ref xh), (.int hi)] below meth c s₁ [] 0 0 := Stand.of_body Bd
  have e0 : s₁.heap = h0 := by rw [← hh, Bd.state]; rfl
  have N0 := Fr.nil n0
  have K0 := Keep.refl h0 ([aa] : List Addr)
  show Go p e below s (Q7_00 Z aa ds fs xl li te xh hi h0 n0) ({ frames := 2, cells := 0, slots := 0, locals := 24 } : Room).cells ({ frames := 2, cells := 0, slots := 0, locals := 24 } : Room).slots (s₁.setTop (entryFrame m #[(.ref aa), (.int ds), (.int fs), (.ref xl), (.int li), (.int te), (.ref xh), (.int hi)] 8))
  rw [ef_7_00]
  show Go _ _ _ _ _ _ _ (s₁.setTop (mkF m 0 #[.val (.ref aa), .val (.int ds), .val (.int fs), .val (.ref xl), .val (.int li), .val (.int te), .val (.ref xh), .val (.int hi)] []))
  refine Go.step (fun t k => XS.aloadN X0.here hx rfl (hb hby d7_0) rfl rfl k) ?_
  show Go _ _ _ _ _ _ _ (s₁.setTop (mkF m 1 #[.val (.ref aa), .val (.int ds), .val (.int fs), .val (.ref xl), .val (.int li), .val (.int te), .val (.ref xh), .val (.int hi)] [(.ref aa)]))
  obtain ⟨_, _, ⟨T1, L1, k1, n1⟩, -, X1, ⟨Lc1, hQ1, l1, y1, z1⟩, st1⟩ := X0.specialBack hx (y := (⟨"java/lang/Record", "<init>", "()V"⟩ : MethodName)) rfl hown (mvT hZ (hw _ (List.mem_of_getElem? (i := 42) rfl))) (mvT hZ (hw _ (List.mem_of_getElem? (i := 43) rfl))) (mvT hZ (hw _ (List.mem_of_getElem? (i := 46) rfl))) (by decide) (backOf (W := 0) (rm8 l Z a0 hw [] aa h0 n0 Z0) hZ (hw _ (List.mem_of_getElem? (i := 46) rfl)) (hw _ (List.mem_of_getElem? (i := 45) rfl)) (by decide) (by decide)) (g := (mkF m 1 #[.val (.ref aa), .val (.int ds), .val (.int fs), .val (.ref xl), .val (.int li), .val (.int te), .val (.ref xh), .val (.int hi)] [(.ref aa)])) rfl (by rw [hml]; rfl) (Steps.refl _) (a := aa) (argsL := []) (rest := []) (lenOf pd_7_0_00 rfl) rfl (by show 2 * 0 + _ ≤ _; exact Nat.le_of_eq rfl) (hb hby d7_1) (fun _ _ => ⟨rfl, e0, (by decide : 0 + 0 ≤ _), (by decide : 0 + 0 ≤ _)⟩)
  dsimp only [Pt.U, Pt.locs, Pt.cells, Pt.slots] at X1 l1 y1 z1 st1 hQ1
  subst l1 y1 z1
  obtain ⟨rfl, N1q, K1q⟩ := hQ1
  have N1 := Fr.app N0 N1q
  refine Go.step (fun t k => st1.trans k) ?_
  show Go _ _ _ _ _ _ _ (T1.setTop (mkF m 4 #[.val (.ref aa), .val (.int ds), .val (.int fs), .val (.ref xl), .val (.int li), .val (.int te), .val (.ref xh), .val (.int hi)] []))
  refine Go.step (fun t k => XS.aloadN X1.here hx rfl (hb hby d7_4) rfl rfl k) ?_
  show Go _ _ _ _ _ _ _ (T1.setTop (mkF m 5 #[.val (.ref aa), .val (.int ds), .val (.int fs), .val (.ref xl), .val (.int li), .val (.int te), .val (.ref xh), .val (.int hi)] [(.ref aa)]))
  refine Go.step (fun t k => XS.iloadN X1.here hx rfl (hb hby d7_5) rfl k) ?_
  show Go _ _ _ _ _ _ _ (T1.setTop (mkF m 6 #[.val (.ref aa), .val (.int ds), .val (.int fs), .val (.ref xl), .val (.int li), .val (.int te), .val (.ref xh), .val (.int hi)] [(.int ds), (.ref aa)]))
  obtain ⟨T2, h2, X2, e2, W2, st2⟩ := putFN X1 hx hZ hown (hw _ (List.mem_of_getElem? (i := 48) rfl)) Via.refl K1q F_descending_aa E_aa (Or.inr ⟨(hw _ (List.mem_of_getElem? (i := 49) rfl)), rfl, hnm⟩) (hw _ (List.mem_of_getElem? (i := 37) rfl)) (ty := .boolean) (v' := (.int ds)) (by decide) (own_nz h_ds) (own_fz h_ds) (g := (mkF m 6 #[.val (.ref aa), .val (.int ds), .val (.int fs), .val (.ref xl), .val (.int li), .val (.int te), .val (.ref xh), .val (.int hi)] [(.int ds), (.ref aa)])) rfl rfl (hb hby d7_6)
  replace F_fromStart_aa := F_fromStart_aa.other W2 (Or.inr (slot_ne (Or.inr (hw _ (List.mem_of_getElem? (i := 51) rfl))) (Or.inr (hw _ (List.mem_of_getElem? (i := 49) rfl))) (by decide) (t := .boolean) (t' := .boolean) (by decide) (by decide)))
  replace F_lo_aa := F_lo_aa.other W2 (Or.inr (slot_ne (Or.inr (hw _ (List.mem_of_getElem? (i := 53) rfl))) (Or.inr (hw _ (List.mem_of_getElem? (i := 49) rfl))) (by decide) (t := (.object "java/lang/Object")) (t' := .boolean) (by decide) (by decide)))
  replace F_loInclusive_aa := F_loInclusive_aa.other W2 (Or.inr (slot_ne (Or.inr (hw _ (List.mem_of_getElem? (i := 55) rfl))) (Or.inr (hw _ (List.mem_of_getElem? (i := 49) rfl))) (by decide) (t := .boolean) (t' := .boolean) (by decide) (by decide)))
  replace F_toEnd_aa := F_toEnd_aa.other W2 (Or.inr (slot_ne (Or.inr (hw _ (List.mem_of_getElem? (i := 57) rfl))) (Or.inr (hw _ (List.mem_of_getElem? (i := 49) rfl))) (by decide) (t := .boolean) (t' := .boolean) (by decide) (by decide)))
  replace F_hi_aa := F_hi_aa.other W2 (Or.inr (slot_ne (Or.inr (hw _ (List.mem_of_getElem? (i := 59) rfl))) (Or.inr (hw _ (List.mem_of_getElem? (i := 49) rfl))) (by decide) (t := (.object "java/lang/Object")) (t' := .boolean) (by decide) (by decide)))
  replace F_hiInclusive_aa := F_hiInclusive_aa.other W2 (Or.inr (slot_ne (Or.inr (hw _ (List.mem_of_getElem? (i := 61) rfl))) (Or.inr (hw _ (List.mem_of_getElem? (i := 49) rfl))) (by decide) (t := .boolean) (t' := .boolean) (by decide) (by decide)))
  replace E_aa := E_aa.wr W2
  have Z2 := Nat.le_trans Z0 (Keep.of_wr W2).1
  have N2 := Fr.snoc X2 N1 g_aa
  have K2 := K0.wr W2 (Or.inl (List.mem_of_getElem? (i := 0) rfl))
  replace F_descending_aa := F_descending_aa.same W2
  refine Go.step st2 ?_
  show Go _ _ _ _ _ _ _ (T2.setTop (mkF m 9 #[.val (.ref aa), .val (.int ds), .val (.int fs), .val (.ref xl), .val (.int li), .val (.int te), .val (.ref xh), .val (.int hi)] []))
  refine Go.step (fun t k => XS.aloadN X2.here hx rfl (hb hby d7_9) rfl rfl k) ?_
  show Go _ _ _ _ _ _ _ (T2.setTop (mkF m 10 #[.val (.ref aa), .val (.int ds), .val (.int fs), .val (.ref xl), .val (.int li), .val (.int te), .val (.ref xh), .val (.int hi)] [(.ref aa)]))
  refine Go.step (fun t k => XS.iloadN X2.here hx rfl (hb hby d7_10) rfl k) ?_
  show Go _ _ _ _ _ _ _ (T2.setTop (mkF m 11 #[.val (.ref aa), .val (.int ds), .val (.int fs), .val (.ref xl), .val (.int li), .val (.int te), .val (.ref xh), .val (.int hi)] [(.int fs), (.ref aa)]))
  obtain ⟨T3, h3, X3, e3, W3, st3⟩ := putFN X2 hx hZ hown (hw _ (List.mem_of_getElem? (i := 50) rfl)) Via.refl e2 F_fromStart_aa E_aa (Or.inr ⟨(hw _ (List.mem_of_getElem? (i := 51) rfl)), rfl, hnm⟩) (hw _ (List.mem_of_getElem? (i := 37) rfl)) (ty := .boolean) (v' := (.int fs)) (by decide) (own_nz h_fs) (own_fz h_fs) (g := (mkF m 11 #[.val (.ref aa), .val (.int ds), .val (.int fs), .val (.ref xl), .val (.int li), .val (.int te), .val (.ref xh), .val (.int hi)] [(.int fs), (.ref aa)])) rfl rfl (hb hby d7_11)
  replace F_descending_aa := F_descending_aa.other W3 (Or.inr (slot_ne (Or.inr (hw _ (List.mem_of_getElem? (i := 49) rfl))) (Or.inr (hw _ (List.mem_of_getElem? (i := 51) rfl))) (by decide) (t := .boolean) (t' := .boolean) (by decide) (by decide)))
  replace F_lo_aa := F_lo_aa.other W3 (Or.inr (slot_ne (Or.inr (hw _ (List.mem_of_getElem? (i := 53) rfl))) (Or.inr (hw _ (List.mem_of_getElem? (i := 51) rfl))) (by decide) (t := (.object "java/lang/Object")) (t' := .boolean) (by decide) (by decide)))
  replace F_loInclusive_aa := F_loInclusive_aa.other W3 (Or.inr (slot_ne (Or.inr (hw _ (List.mem_of_getElem? (i := 55) rfl))) (Or.inr (hw _ (List.mem_of_getElem? (i := 51) rfl))) (by decide) (t := .boolean) (t' := .boolean) (by decide) (by decide)))
  replace F_toEnd_aa := F_toEnd_aa.other W3 (Or.inr (slot_ne (Or.inr (hw _ (List.mem_of_getElem? (i := 57) rfl))) (Or.inr (hw _ (List.mem_of_getElem? (i := 51) rfl))) (by decide) (t := .boolean) (t' := .boolean) (by decide) (by decide)))
  replace F_hi_aa := F_hi_aa.other W3 (Or.inr (slot_ne (Or.inr (hw _ (List.mem_of_getElem? (i := 59) rfl))) (Or.inr (hw _ (List.mem_of_getElem? (i := 51) rfl))) (by decide) (t := (.object "java/lang/Object")) (t' := .boolean) (by decide) (by decide)))
  replace F_hiInclusive_aa := F_hiInclusive_aa.other W3 (Or.inr (slot_ne (Or.inr (hw _ (List.mem_of_getElem? (i := 61) rfl))) (Or.inr (hw _ (List.mem_of_getElem? (i := 51) rfl))) (by decide) (t := .boolean) (t' := .boolean) (by decide) (by decide)))
  replace E_aa := E_aa.wr W3
  have Z3 := Nat.le_trans Z2 (Keep.of_wr W3).1
  have N3 := Fr.snoc X3 N2 g_aa
  have K3 := K2.wr W3 (Or.inl (List.mem_of_getElem? (i := 0) rfl))
  replace F_fromStart_aa := F_fromStart_aa.same W3
  refine Go.step st3 ?_
  show Go _ _ _ _ _ _ _ (T3.setTop (mkF m 14 #[.val (.ref aa), .val (.int ds), .val (.int fs), .val (.ref xl), .val (.int li), .val (.int te), .val (.ref xh), .val (.int hi)] []))
  refine Go.step (fun t k => XS.aloadN X3.here hx rfl (hb hby d7_14) rfl rfl k) ?_
  show Go _ _ _ _ _ _ _ (T3.setTop (mkF m 15 #[.val (.ref aa), .val (.int ds), .val (.int fs), .val (.ref xl), .val (.int li), .val (.int te), .val (.ref xh), .val (.int hi)] [(.ref aa)]))
  refine Go.step (fun t k => XS.aloadN X3.here hx rfl (hb hby d7_15) rfl rfl k) ?_
  show Go _ _ _ _ _ _ _ (T3.setTop (mkF m 16 #[.val (.ref aa), .val (.int ds), .val (.int fs), .val (.ref xl), .val (.int li), .val (.int te), .val (.ref xh), .val (.int hi)] [(.ref xl), (.ref aa)]))
  obtain ⟨T4, h4, X4, e4, W4, st4⟩ := putF X3 hx hZ hown (host := "") (Or.inl (hw _ (List.mem_of_getElem? (i := 52) rfl))) Via.refl e3 F_lo_aa E_aa (Or.inr ⟨(hw _ (List.mem_of_getElem? (i := 53) rfl)), rfl, hnm⟩) (hw _ (List.mem_of_getElem? (i := 37) rfl)) (ty := (.object "java/lang/Object")) (by decide) rfl rfl (g := (mkF m 16 #[.val (.ref aa), .val (.int ds), .val (.int fs), .val (.ref xl), .val (.int li), .val (.int te), .val (.ref xh), .val (.int hi)] [(.ref xl), (.ref aa)])) rfl rfl (hb hby d7_16)
  replace F_descending_aa := F_descending_aa.other W4 (Or.inr (slot_ne (Or.inr (hw _ (List.mem_of_getElem? (i := 49) rfl))) (Or.inr (hw _ (List.mem_of_getElem? (i := 53) rfl))) (by decide) (t := .boolean) (t' := (.object "java/lang/Object")) (by decide) (by decide)))
  replace F_fromStart_aa := F_fromStart_aa.other W4 (Or.inr (slot_ne (Or.inr (hw _ (List.mem_of_getElem? (i := 51) rfl))) (Or.inr (hw _ (List.mem_of_getElem? (i := 53) rfl))) (by decide) (t := .boolean) (t' := (.object "java/lang/Object")) (by decide) (by decide)))
  replace F_loInclusive_aa := F_loInclusive_aa.other W4 (Or.inr (slot_ne (Or.inr (hw _ (List.mem_of_getElem? (i := 55) rfl))) (Or.inr (hw _ (List.mem_of_getElem? (i := 53) rfl))) (by decide) (t := .boolean) (t' := (.object "java/lang/Object")) (by decide) (by decide)))
  replace F_toEnd_aa := F_toEnd_aa.other W4 (Or.inr (slot_ne (Or.inr (hw _ (List.mem_of_getElem? (i := 57) rfl))) (Or.inr (hw _ (List.mem_of_getElem? (i := 53) rfl))) (by decide) (t := .boolean) (t' := (.object "java/lang/Object")) (by decide) (by decide)))
  replace F_hi_aa := F_hi_aa.other W4 (Or.inr (slot_ne (Or.inr (hw _ (List.mem_of_getElem? (i := 59) rfl))) (Or.inr (hw _ (List.mem_of_getElem? (i := 53) rfl))) (by decide) (t := (.object "java/lang/Object")) (t' := (.object "java/lang/Object")) (by decide) (by decide)))
  replace F_hiInclusive_aa := F_hiInclusive_aa.other W4 (Or.inr (slot_ne (Or.inr (hw _ (List.mem_of_getElem? (i := 61) rfl))) (Or.inr (hw _ (List.mem_of_getElem? (i := 53) rfl))) (by decide) (t := .boolean) (t' := (.object "java/lang/Object")) (by decide) (by decide)))
  replace E_aa := E_aa.wr W4
  have Z4 := Nat.le_trans Z3 (Keep.of_wr W4).1
  have N4 := Fr.snoc X4 N3 g_aa
  have K4 := K3.wr W4 (Or.inl (List.mem_of_getElem? (i := 0) rfl))
  replace F_lo_aa := F_lo_aa.same W4
  refine Go.step st4 ?_
  show Go _ _ _ _ _ _ _ (T4.setTop (mkF m 19 #[.val (.ref aa), .val (.int ds), .val (.int fs), .val (.ref xl), .val (.int li), .val (.int te), .val (.ref xh), .val (.int hi)] []))
  refine Go.step (fun t k => XS.aloadN X4.here hx rfl (hb hby d7_19) rfl rfl k) ?_
  show Go _ _ _ _ _ _ _ (T4.setTop (mkF m 20 #[.val (.ref aa), .val (.int ds), .val (.int fs), .val (.ref xl), .val (.int li), .val (.int te), .val (.ref xh), .val (.int hi)] [(.ref aa)]))
  refine Go.step (fun t k => XS.iload X4.here hx rfl (hb hby d7_20) rfl k) ?_
  show Go _ _ _ _ _ _ _ (T4.setTop (mkF m 22 #[.val (.ref aa), .val (.int ds), .val (.int fs), .val (.ref xl), .val (.int li), .val (.int te), .val (.ref xh), .val (.int hi)] [(.int li), (.ref aa)]))
  obtain ⟨T5, h5, X5, e5, W5, st5⟩ := putFN X4 hx hZ hown (hw _ (List.mem_of_getElem? (i := 54) rfl)) Via.refl e4 F_loInclusive_aa E_aa (Or.inr ⟨(hw _ (List.mem_of_getElem? (i := 55) rfl)), rfl, hnm⟩) (hw _ (List.mem_of_getElem? (i := 37) rfl)) (ty := .boolean) (v' := (.int li)) (by decide) (own_nz h_li) (own_fz h_li) (g := (mkF m 22 #[.val (.ref aa), .val (.int ds), .val (.int fs), .val (.ref xl), .val (.int li), .val (.int te), .val (.ref xh), .val (.int hi)] [(.int li), (.ref aa)])) rfl rfl (hb hby d7_22)
  replace F_descending_aa := F_descending_aa.other W5 (Or.inr (slot_ne (Or.inr (hw _ (List.mem_of_getElem? (i := 49) rfl))) (Or.inr (hw _ (List.mem_of_getElem? (i := 55) rfl))) (by decide) (t := .boolean) (t' := .boolean) (by decide) (by decide)))
  replace F_fromStart_aa := F_fromStart_aa.other W5 (Or.inr (slot_ne (Or.inr (hw _ (List.mem_of_getElem? (i := 51) rfl))) (Or.inr (hw _ (List.mem_of_getElem? (i := 55) rfl))) (by decide) (t := .boolean) (t' := .boolean) (by decide) (by decide)))
  replace F_lo_aa := F_lo_aa.other W5 (Or.inr (slot_ne (Or.inr (hw _ (List.mem_of_getElem? (i := 53) rfl))) (Or.inr (hw _ (List.mem_of_getElem? (i := 55) rfl))) (by decide) (t := (.object "java/lang/Object")) (t' := .boolean) (by decide) (by decide)))
  replace F_toEnd_aa := F_toEnd_aa.other W5 (Or.inr (slot_ne (Or.inr (hw _ (List.mem_of_getElem? (i := 57) rfl))) (Or.inr (hw _ (List.mem_of_getElem? (i := 55) rfl))) (by decide) (t := .boolean) (t' := .boolean) (by decide) (by decide)))
  replace F_hi_aa := F_hi_aa.other W5 (Or.inr (slot_ne (Or.inr (hw _ (List.mem_of_getElem? (i := 59) rfl))) (Or.inr (hw _ (List.mem_of_getElem? (i := 55) rfl))) (by decide) (t := (.object "java/lang/Object")) (t' := .boolean) (by decide) (by decide)))
  replace F_hiInclusive_aa := F_hiInclusive_aa.other W5 (Or.inr (slot_ne (Or.inr (hw _ (List.mem_of_getElem? (i := 61) rfl))) (Or.inr (hw _ (List.mem_of_getElem? (i := 55) rfl))) (by decide) (t := .boolean) (t' := .boolean) (by decide) (by decide)))
  replace E_aa := E_aa.wr W5
  have Z5 := Nat.le_trans Z4 (Keep.of_wr W5).1
  have N5 := Fr.snoc X5 N4 g_aa
  have K5 := K4.wr W5 (Or.inl (List.mem_of_getElem? (i := 0) rfl))
  replace F_loInclusive_aa := F_loInclusive_aa.same W5
  refine Go.step st5 ?_
  show Go _ _ _ _ _ _ _ (T5.setTop (mkF m 25 #[.val (.ref aa), .val (.int ds), .val (.int fs), .val (.ref xl), .val (.int li), .val (.int te), .val (.ref xh), .val (.int hi)] []))
  refine Go.step (fun t k => XS.aloadN X5.here hx rfl (hb hby d7_25) rfl rfl k) ?_
  show Go _ _ _ _ _ _ _ (T5.setTop (mkF m 26 #[.val (.ref aa), .val (.int ds), .val (.int fs), .val (.ref xl), .val (.int li), .val (.int te), .val (.ref xh), .val (.int hi)] [(.ref aa)]))
  refine Go.step (fun t k => XS.iload X5.here hx rfl (hb hby d7_26) rfl k) ?_
  show Go _ _ _ _ _ _ _ (T5.setTop (mkF m 28 #[.val (.ref aa), .val (.int ds), .val (.int fs), .val (.ref xl), .val (.int li), .val (.int te), .val (.ref xh), .val (.int hi)] [(.int te), (.ref aa)]))
  obtain ⟨T6, h6, X6, e6, W6, st6⟩ := putFN X5 hx hZ hown (hw _ (List.mem_of_getElem? (i := 56) rfl)) Via.refl e5 F_toEnd_aa E_aa (Or.inr ⟨(hw _ (List.mem_of_getElem? (i := 57) rfl)), rfl, hnm⟩) (hw _ (List.mem_of_getElem? (i := 37) rfl)) (ty := .boolean) (v' := (.int te)) (by decide) (own_nz h_te) (own_fz h_te) (g := (mkF m 28 #[.val (.ref aa), .val (.int ds), .val (.int fs), .val (.ref xl), .val (.int li), .val (.int te), .val (.ref xh), .val (.int hi)] [(.int te), (.ref aa)])) rfl rfl (hb hby d7_28)
  replace F_descending_aa := F_descending_aa.other W6 (Or.inr (slot_ne (Or.inr (hw _ (List.mem_of_getElem? (i := 49) rfl))) (Or.inr (hw _ (List.mem_of_getElem? (i := 57) rfl))) (by decide) (t := .boolean) (t' := .boolean) (by decide) (by decide)))
  replace F_fromStart_aa := F_fromStart_aa.other W6 (Or.inr (slot_ne (Or.inr (hw _ (List.mem_of_getElem? (i := 51) rfl))) (Or.inr (hw _ (List.mem_of_getElem? (i := 57) rfl))) (by decide) (t := .boolean) (t' := .boolean) (by decide) (by decide)))
  replace F_lo_aa := F_lo_aa.other W6 (Or.inr (slot_ne (Or.inr (hw _ (List.mem_of_getElem? (i := 53) rfl))) (Or.inr (hw _ (List.mem_of_getElem? (i := 57) rfl))) (by decide) (t := (.object "java/lang/Object")) (t' := .boolean) (by decide) (by decide)))
  replace F_loInclusive_aa := F_loInclusive_aa.other W6 (Or.inr (slot_ne (Or.inr (hw _ (List.mem_of_getElem? (i := 55) rfl))) (Or.inr (hw _ (List.mem_of_getElem? (i := 57) rfl))) (by decide) (t := .boolean) (t' := .boolean) (by decide) (by decide)))
  replace F_hi_aa := F_hi_aa.other W6 (Or.inr (slot_ne (Or.inr (hw _ (List.mem_of_getElem? (i := 59) rfl))) (Or.inr (hw _ (List.mem_of_getElem? (i := 57) rfl))) (by decide) (t := (.object "java/lang/Object")) (t' := .boolean) (by decide) (by decide)))
  replace F_hiInclusive_aa := F_hiInclusive_aa.other W6 (Or.inr (slot_ne (Or.inr (hw _ (List.mem_of_getElem? (i := 61) rfl))) (Or.inr (hw _ (List.mem_of_getElem? (i := 57) rfl))) (by decide) (t := .boolean) (t' := .boolean) (by decide) (by decide)))
  replace E_aa := E_aa.wr W6
  have Z6 := Nat.le_trans Z5 (Keep.of_wr W6).1
  have N6 := Fr.snoc X6 N5 g_aa
  have K6 := K5.wr W6 (Or.inl (List.mem_of_getElem? (i := 0) rfl))
  replace F_toEnd_aa := F_toEnd_aa.same W6
  refine Go.step st6 ?_
  show Go _ _ _ _ _ _ _ (T6.setTop (mkF m 31 #[.val (.ref aa), .val (.int ds), .val (.int fs), .val (.ref xl), .val (.int li), .val (.int te), .val (.ref xh), .val (.int hi)] []))
  refine Go.step (fun t k => XS.aloadN X6.here hx rfl (hb hby d7_31) rfl rfl k) ?_
  show Go _ _ _ _ _ _ _ (T6.setTop (mkF m 32 #[.val (.ref aa), .val (.int ds), .val (.int fs), .val (.ref xl), .val (.int li), .val (.int te), .val (.ref xh), .val (.int hi)] [(.ref aa)]))
  refine Go.step (fun t k => XS.aload X6.here hx rfl (hb hby d7_32) rfl rfl k) ?_
  show Go _ _ _ _ _ _ _ (T6.setTop (mkF m 34 #[.val (.ref aa), .val (.int ds), .val (.int fs), .val (.ref xl), .val (.int li), .val (.int te), .val (.ref xh), .val (.int hi)] [(.ref xh), (.ref aa)]))
  obtain ⟨T7, h7, X7, e7, W7, st7⟩ := putF X6 hx hZ hown (host := "") (Or.inl (hw _ (List.mem_of_getElem? (i := 58) rfl))) Via.refl e6 F_hi_aa E_aa (Or.inr ⟨(hw _ (List.mem_of_getElem? (i := 59) rfl)), rfl, hnm⟩) (hw _ (List.mem_of_getElem? (i := 37) rfl)) (ty := (.object "java/lang/Object")) (by decide) rfl rfl (g := (mkF m 34 #[.val (.ref aa), .val (.int ds), .val (.int fs), .val (.ref xl), .val (.int li), .val (.int te), .val (.ref xh), .val (.int hi)] [(.ref xh), (.ref aa)])) rfl rfl (hb hby d7_34)
  replace F_descending_aa := F_descending_aa.other W7 (Or.inr (slot_ne (Or.inr (hw _ (List.mem_of_getElem? (i := 49) rfl))) (Or.inr (hw _ (List.mem_of_getElem? (i := 59) rfl))) (by decide) (t := .boolean) (t' := (.object "java/lang/Object")) (by decide) (by decide)))
  replace F_fromStart_aa := F_fromStart_aa.other W7 (Or.inr (slot_ne (Or.inr (hw _ (List.mem_of_getElem? (i := 51) rfl))) (Or.inr (hw _ (List.mem_of_getElem? (i := 59) rfl))) (by decide) (t := .boolean) (t' := (.object "java/lang/Object")) (by decide) (by decide)))
  replace F_lo_aa := F_lo_aa.other W7 (Or.inr (slot_ne (Or.inr (hw _ (List.mem_of_getElem? (i := 53) rfl))) (Or.inr (hw _ (List.mem_of_getElem? (i := 59) rfl))) (by decide) (t := (.object "java/lang/Object")) (t' := (.object "java/lang/Object")) (by decide) (by decide)))
  replace F_loInclusive_aa := F_loInclusive_aa.other W7 (Or.inr (slot_ne (Or.inr (hw _ (List.mem_of_getElem? (i := 55) rfl))) (Or.inr (hw _ (List.mem_of_getElem? (i := 59) rfl))) (by decide) (t := .boolean) (t' := (.object "java/lang/Object")) (by decide) (by decide)))
  replace F_toEnd_aa := F_toEnd_aa.other W7 (Or.inr (slot_ne (Or.inr (hw _ (List.mem_of_getElem? (i := 57) rfl))) (Or.inr (hw _ (List.mem_of_getElem? (i := 59) rfl))) (by decide) (t := .boolean) (t' := (.object "java/lang/Object")) (by decide) (by decide)))
  replace F_hiInclusive_aa := F_hiInclusive_aa.other W7 (Or.inr (slot_ne (Or.inr (hw _ (List.mem_of_getElem? (i := 61) rfl))) (Or.inr (hw _ (List.mem_of_getElem? (i := 59) rfl))) (by decide) (t := .boolean) (t' := (.object "java/lang/Object")) (by decide) (by decide)))
  replace E_aa := E_aa.wr W7
  have Z7 := Nat.le_trans Z6 (Keep.of_wr W7).1
  have N7 := Fr.snoc X7 N6 g_aa
  have K7 := K6.wr W7 (Or.inl (List.mem_of_getElem? (i := 0) rfl))
  replace F_hi_aa := F_hi_aa.same W7
  refine Go.step st7 ?_
  show Go _ _ _ _ _ _ _ (T7.setTop (mkF m 37 #[.val (.ref aa), .val (.int ds), .val (.int fs), .val (.ref xl), .val (.int li), .val (.int te), .val (.ref xh), .val (.int hi)] []))
  refine Go.step (fun t k => XS.aloadN X7.here hx rfl (hb hby d7_37) rfl rfl k) ?_
  show Go _ _ _ _ _ _ _ (T7.setTop (mkF m 38 #[.val (.ref aa), .val (.int ds), .val (.int fs), .val (.ref xl), .val (.int li), .val (.int te), .val (.ref xh), .val (.int hi)] [(.ref aa)]))
  refine Go.step (fun t k => XS.iload X7.here hx rfl (hb hby d7_38) rfl k) ?_
  show Go _ _ _ _ _ _ _ (T7.setTop (mkF m 40 #[.val (.ref aa), .val (.int ds), .val (.int fs), .val (.ref xl), .val (.int li), .val (.int te), .val (.ref xh), .val (.int hi)] [(.int hi), (.ref aa)]))
  obtain ⟨T8, h8, X8, e8, W8, st8⟩ := putFN X7 hx hZ hown (hw _ (List.mem_of_getElem? (i := 60) rfl)) Via.refl e7 F_hiInclusive_aa E_aa (Or.inr ⟨(hw _ (List.mem_of_getElem? (i := 61) rfl)), rfl, hnm⟩) (hw _ (List.mem_of_getElem? (i := 37) rfl)) (ty := .boolean) (v' := (.int hi)) (by decide) (own_nz h_hi) (own_fz h_hi) (g := (mkF m 40 #[.val (.ref aa), .val (.int ds), .val (.int fs), .val (.ref xl), .val (.int li), .val (.int te), .val (.ref xh), .val (.int hi)] [(.int hi), (.ref aa)])) rfl rfl (hb hby d7_40)
  replace F_descending_aa := F_descending_aa.other W8 (Or.inr (slot_ne (Or.inr (hw _ (List.mem_of_getElem? (i := 49) rfl))) (Or.inr (hw _ (List.mem_of_getElem? (i := 61) rfl))) (by decide) (t := .boolean) (t' := .boolean) (by decide) (by decide)))
  replace F_fromStart_aa := F_fromStart_aa.other W8 (Or.inr (slot_ne (Or.inr (hw _ (List.mem_of_getElem? (i := 51) rfl))) (Or.inr (hw _ (List.mem_of_getElem? (i := 61) rfl))) (by decide) (t := .boolean) (t' := .boolean) (by decide) (by decide)))
  replace F_lo_aa := F_lo_aa.other W8 (Or.inr (slot_ne (Or.inr (hw _ (List.mem_of_getElem? (i := 53) rfl))) (Or.inr (hw _ (List.mem_of_getElem? (i := 61) rfl))) (by decide) (t := (.object "java/lang/Object")) (t' := .boolean) (by decide) (by decide)))
  replace F_loInclusive_aa := F_loInclusive_aa.other W8 (Or.inr (slot_ne (Or.inr (hw _ (List.mem_of_getElem? (i := 55) rfl))) (Or.inr (hw _ (List.mem_of_getElem? (i := 61) rfl))) (by decide) (t := .boolean) (t' := .boolean) (by decide) (by decide)))
  replace F_toEnd_aa := F_toEnd_aa.other W8 (Or.inr (slot_ne (Or.inr (hw _ (List.mem_of_getElem? (i := 57) rfl))) (Or.inr (hw _ (List.mem_of_getElem? (i := 61) rfl))) (by decide) (t := .boolean) (t' := .boolean) (by decide) (by decide)))
  replace F_hi_aa := F_hi_aa.other W8 (Or.inr (slot_ne (Or.inr (hw _ (List.mem_of_getElem? (i := 59) rfl))) (Or.inr (hw _ (List.mem_of_getElem? (i := 61) rfl))) (by decide) (t := (.object "java/lang/Object")) (t' := .boolean) (by decide) (by decide)))
  replace E_aa := E_aa.wr W8
  have Z8 := Nat.le_trans Z7 (Keep.of_wr W8).1
  have N8 := Fr.snoc X8 N7 g_aa
  have K8 := K7.wr W8 (Or.inl (List.mem_of_getElem? (i := 0) rfl))
  replace F_hiInclusive_aa := F_hiInclusive_aa.same W8
  refine Go.step st8 ?_
  show Go _ _ _ _ _ _ _ (T8.setTop (mkF m 43 #[.val (.ref aa), .val (.int ds), .val (.int fs), .val (.ref xl), .val (.int li), .val (.int te), .val (.ref xh), .val (.int hi)] []))
  refine Go.retV X8 Bd.notSynchronized hx Bd.returns (hb hby d7_43) (by decide) (by decide) ?_
  rw [e8]
  exact ⟨rfl, N8, K8, F_descending_aa, F_fromStart_aa, F_lo_aa, F_loInclusive_aa, F_toEnd_aa, F_hi_aa, F_hiInclusive_aa⟩
theorem pn_7_01 : plainName "com/example/rootkeep/rootkeep/KeyRange" = true := by first | (simp [plainName, overriddenIn]; done) | decide +kernel
theorem pd_7_0_01 : parseMethodDescriptor "()V" = some ⟨[], none⟩ := by decide +kernel
theorem ef_7_01 (m : MethodId) (x0 : Addr) (x1 : Int32) (x2 : Int32) (x3 : Addr) (x4 : Int32) (x5 : Int32) (x6 : Int32) : entryFrame m #[(.ref x0), (.int x1), (.int x2), (.ref x3), (.int x4), (.int x5), .null, (.int x6)] 8 = mkF m 0 #[.val (.ref x0), .val (.int x1), .val (.int x2), .val (.ref x3), .val (.int x4), .val (.int x5), .val .null, .val (.int x6)] [] := by first | (simp [entryFrame, mkF, argsToLocals, Value.category]; done) | rfl
def Q7_01 (Z : State) (aa : Addr) (ds : Int32) (fs : Int32) (xl : Addr) (li : Int32) (te : Int32) (hi : Int32) (h0 : Heap) (n0 : Nat) (v : Option Value) (h : Heap) (L : List Loc) : Prop := v = none ∧ Fr n0 L ∧ Keep h0 h [aa] ∧ Fld Z h aa "com/example/rootkeep/rootkeep/KeyRange" "descending" "Z" (.int ds) ∧ Fld Z h aa "com/example/rootkeep/rootkeep/KeyRange" "fromStart" "Z" (.int fs) ∧ Fld Z h aa "com/example/rootkeep/rootkeep/KeyRange" "lo" "Ljava/lang/Object;" (.ref xl) ∧ Fld Z h aa "com/example/rootkeep/rootkeep/KeyRange" "loInclusive" "Z" (.int li) ∧ Fld Z h aa "com/example/rootkeep/rootkeep/KeyRange" "toEnd" "Z" (.int te) ∧ Fld Z h aa "com/example/rootkeep/rootkeep/KeyRange" "hi" "Ljava/lang/Object;" .null ∧ Fld Z h aa "com/example/rootkeep/rootkeep/KeyRange" "hiInclusive" "Z" (.int hi)
set_option maxRecDepth 65536 in
set_option maxHeartbeats 40000000 in
theorem rm7_01 (l : Launch) (Z : State) (a0 : Array Value) (hw : ∀ d ∈ tables_1, d.before a0 Z = true) (ws : List Jvm.Cond) (aa : Addr) (ds : Int32) (fs : Int32) (xl : Addr) (li : Int32) (te : Int32) (hi : Int32) (h0 : Heap) (n0 : Nat) (Z0 : n0 ≤ h0.size) (F_descending_aa : Fld Z h0 aa "com/example/rootkeep/rootkeep/KeyRange" "descending" "Z" (.int (0 : Int32))) (F_fromStart_aa : Fld Z h0 aa "com/example/rootkeep/rootkeep/KeyRange" "fromStart" "Z" (.int (0 : Int32))) (F_lo_aa : Fld Z h0 aa "com/example/rootkeep/rootkeep/KeyRange" "lo" "Ljava/lang/Object;" .null) (F_loInclusive_aa : Fld Z h0 aa "com/example/rootkeep/rootkeep/KeyRange" "loInclusive" "Z" (.int (0 : Int32))) (F_toEnd_aa : Fld Z h0 aa "com/example/rootkeep/rootkeep/KeyRange" "toEnd" "Z" (.int (0 : Int32))) (F_hi_aa : Fld Z h0 aa "com/example/rootkeep/rootkeep/KeyRange" "hi" "Ljava/lang/Object;" .null) (F_hiInclusive_aa : Fld Z h0 aa "com/example/rootkeep/rootkeep/KeyRange" "hiInclusive" "Z" (.int (0 : Int32))) (E_aa : Exa Z h0 aa "com/example/rootkeep/rootkeep/KeyRange") (g_aa : n0 ≤ aa) (h_ds : (ds = 0 ∨ ds = 1)) (h_fs : (fs = 0 ∨ fs = 1)) (h_li : (li = 0 ∨ li = 1)) (h_te : (te = 0 ∨ te = 1)) (h_hi : (hi = 0 ∨ hi = 1)) :
    MetFree l (⟨"com/example/rootkeep/rootkeep/KeyRange", "<init>", "(ZZLjava/lang/Object;ZZLjava/lang/Object;Z)V"⟩ : MethodName) (head1 (Jvm.Cond.code (⟨"com/example/rootkeep/rootkeep/KeyRange", "<init>", "(ZZLjava/lang/Object;ZZLjava/lang/Object;Z)V"⟩ : MethodName) prog_1_method_1_code 8 none :: ws) ({ frames := 2, cells := 0, slots := 0, locals := 24 } : Room)) (fun a U => a = #[(.ref aa), (.int ds), (.int fs), (.ref xl), (.int li), (.int te), .null, (.int hi)] ∧ Z.Warmed39 U.vm ∧ U.heap = h0) (fun _ _ _ _ _ => True) (fun _ U o U' => ∃ v L, o = .returned v ∧ Q7_01 Z aa ds fs xl li te hi h0 n0 v U'.heap L ∧ FrameEnd U o U' L ({ frames := 2, cells := 0, slots := 0, locals := 24 } : Room).cells ({ frames := 2, cells := 0, slots := 0, locals := 24 } : Room).slots) := by
  refine MetFree.of_bodySF (plainFor_of_name pn_7_01) hisR ?_
  intro p e s m args below meth c s₁ Bd hml0 hP hK
  obtain ⟨rfl, hZ, hh⟩ := hP
  have hx := Bd.exec
  have hby := Bd.bytes
  have hml : c.maxLocals = 8 := hml0
  have hown : s.vm.findClass "com/example/rootkeep/rootkeep/KeyRange" = some m.cls := findClass_of_methodNamed Bd.named
  have hnm := (name_of_methodNamed Bd.named Bd.method).1
  have X0 : Stand p l e ({ frames := 2, cells := 0, slots := 0, locals := 24 } : Room) s m #[(.ref aa), (.int ds), (.int fs), (.ref xl), (.int li), (.int te), .null, (.int hi)] below meth c s₁ [] 0 0 := Stand.of_body Bd
  have e0 : s₁.heap = h0 := by rw [← hh, Bd.state]; rfl
  have N0 := Fr.nil n0
  have K0 := Keep.refl h0 ([aa] : List Addr)
  show Go p e below s (Q7_01 Z aa ds fs xl li te hi h0 n0) ({ frames := 2, cells := 0, slots := 0, locals := 24 } : Room).cells ({ frames := 2, cells := 0, slots := 0, locals := 24 } : Room).slots (s₁.setTop (entryFrame m #[(.ref aa), (.int ds), (.int fs), (.ref xl), (.int li), (.int te), .null, (.int hi)] 8))
  rw [ef_7_01]
  show Go _ _ _ _ _ _ _ (s₁.setTop (mkF m 0 #[.val (.ref aa), .val (.int ds), .val (.int fs), .val (.ref xl), .val (.int li), .val (.int te), .val .null, .val (.int hi)] []))
  refine Go.step (fun t k => XS.aloadN X0.here hx rfl (hb hby d7_0) rfl rfl k) ?_
  show Go _ _ _ _ _ _ _ (s₁.setTop (mkF m 1 #[.val (.ref aa), .val (.int ds), .val (.int fs), .val (.ref xl), .val (.int li), .val (.int te), .val .null, .val (.int hi)] [(.ref aa)]))
  obtain ⟨_, _, ⟨T1, L1, k1, n1⟩, -, X1, ⟨Lc1, hQ1, l1, y1, z1⟩, st1⟩ := X0.specialBack hx (y := (⟨"java/lang/Record", "<init>", "()V"⟩ : MethodName)) rfl hown (mvT hZ (hw _ (List.mem_of_getElem? (i := 42) rfl))) (mvT hZ (hw _ (List.mem_of_getElem? (i := 43) rfl))) (mvT hZ (hw _ (List.mem_of_getElem? (i := 46) rfl))) (by decide) (backOf (W := 0) (rm8 l Z a0 hw [] aa h0 n0 Z0) hZ (hw _ (List.mem_of_getElem? (i := 46) rfl)) (hw _ (List.mem_of_getElem? (i := 45) rfl)) (by decide) (by decide)) (g := (mkF m 1 #[.val (.ref aa), .val (.int ds), .val (.int fs), .val (.ref xl), .val (.int li), .val (.int te), .val .null, .val (.int hi)] [(.ref aa)])) rfl (by rw [hml]; rfl) (Steps.refl _) (a := aa) (argsL := []) (rest := []) (lenOf pd_7_0_01 rfl) rfl (by show 2 * 0 + _ ≤ _; exact Nat.le_of_eq rfl) (hb hby d7_1) (fun _ _ => ⟨rfl, e0, (by decide : 0 + 0 ≤ _), (by decide : 0 + 0 ≤ _)⟩)
  dsimp only [Pt.U, Pt.locs, Pt.cells, Pt.slots] at X1 l1 y1 z1 st1 hQ1
  subst l1 y1 z1
  obtain ⟨rfl, N1q, K1q⟩ := hQ1
  have N1 := Fr.app N0 N1q
  refine Go.step (fun t k => st1.trans k) ?_
  show Go _ _ _ _ _ _ _ (T1.setTop (mkF m 4 #[.val (.ref aa), .val (.int ds), .val (.int fs), .val (.ref xl), .val (.int li), .val (.int te), .val .null, .val (.int hi)] []))
  refine Go.step (fun t k => XS.aloadN X1.here hx rfl (hb hby d7_4) rfl rfl k) ?_
  show Go _ _ _ _ _ _ _ (T1.setTop (mkF m 5 #[.val (.ref aa), .val (.int ds), .val (.int fs), .val (.ref xl), .val (.int li), .val (.int te), .val .null, .val (.int hi)] [(.ref aa)]))
  refine Go.step (fun t k => XS.iloadN X1.here hx rfl (hb hby d7_5) rfl k) ?_
  show Go _ _ _ _ _ _ _ (T1.setTop (mkF m 6 #[.val (.ref aa), .val (.int ds), .val (.int fs), .val (.ref xl), .val (.int li), .val (.int te), .val .null, .val (.int hi)] [(.int ds), (.ref aa)]))
  obtain ⟨T2, h2, X2, e2, W2, st2⟩ := putFN X1 hx hZ hown (hw _ (List.mem_of_getElem? (i := 48) rfl)) Via.refl K1q F_descending_aa E_aa (Or.inr ⟨(hw _ (List.mem_of_getElem? (i := 49) rfl)), rfl, hnm⟩) (hw _ (List.mem_of_getElem? (i := 37) rfl)) (ty := .boolean) (v' := (.int ds)) (by decide) (own_nz h_ds) (own_fz h_ds) (g := (mkF m 6 #[.val (.ref aa), .val (.int ds), .val (.int fs), .val (.ref xl), .val (.int li), .val (.int te), .val .null, .val (.int hi)] [(.int ds), (.ref aa)])) rfl rfl (hb hby d7_6)
  replace F_fromStart_aa := F_fromStart_aa.other W2 (Or.inr (slot_ne (Or.inr (hw _ (List.mem_of_getElem? (i := 51) rfl))) (Or.inr (hw _ (List.mem_of_getElem? (i := 49) rfl))) (by decide) (t := .boolean) (t' := .boolean) (by decide) (by decide)))
  replace F_lo_aa := F_lo_aa.other W2 (Or.inr (slot_ne (Or.inr (hw _ (List.mem_of_getElem? (i := 53) rfl))) (Or.inr (hw _ (List.mem_of_getElem? (i := 49) rfl))) (by decide) (t := (.object "java/lang/Object")) (t' := .boolean) (by decide) (by decide)))
  replace F_loInclusive_aa := F_loInclusive_aa.other W2 (Or.inr (slot_ne (Or.inr (hw _ (List.mem_of_getElem? (i := 55) rfl))) (Or.inr (hw _ (List.mem_of_getElem? (i := 49) rfl))) (by decide) (t := .boolean) (t' := .boolean) (by decide) (by decide)))
  replace F_toEnd_aa := F_toEnd_aa.other W2 (Or.inr (slot_ne (Or.inr (hw _ (List.mem_of_getElem? (i := 57) rfl))) (Or.inr (hw _ (List.mem_of_getElem? (i := 49) rfl))) (by decide) (t := .boolean) (t' := .boolean) (by decide) (by decide)))
  replace F_hi_aa := F_hi_aa.other W2 (Or.inr (slot_ne (Or.inr (hw _ (List.mem_of_getElem? (i := 59) rfl))) (Or.inr (hw _ (List.mem_of_getElem? (i := 49) rfl))) (by decide) (t := (.object "java/lang/Object")) (t' := .boolean) (by decide) (by decide)))
  replace F_hiInclusive_aa := F_hiInclusive_aa.other W2 (Or.inr (slot_ne (Or.inr (hw _ (List.mem_of_getElem? (i := 61) rfl))) (Or.inr (hw _ (List.mem_of_getElem? (i := 49) rfl))) (by decide) (t := .boolean) (t' := .boolean) (by decide) (by decide)))
  replace E_aa := E_aa.wr W2
  have Z2 := Nat.le_trans Z0 (Keep.of_wr W2).1
  have N2 := Fr.snoc X2 N1 g_aa
  have K2 := K0.wr W2 (Or.inl (List.mem_of_getElem? (i := 0) rfl))
  replace F_descending_aa := F_descending_aa.same W2
  refine Go.step st2 ?_
  show Go _ _ _ _ _ _ _ (T2.setTop (mkF m 9 #[.val (.ref aa), .val (.int ds), .val (.int fs), .val (.ref xl), .val (.int li), .val (.int te), .val .null, .val (.int hi)] []))
  refine Go.step (fun t k => XS.aloadN X2.here hx rfl (hb hby d7_9) rfl rfl k) ?_
  show Go _ _ _ _ _ _ _ (T2.setTop (mkF m 10 #[.val (.ref aa), .val (.int ds), .val (.int fs), .val (.ref xl), .val (.int li), .val (.int te), .val .null, .val (.int hi)] [(.ref aa)]))
  refine Go.step (fun t k => XS.iloadN X2.here hx rfl (hb hby d7_10) rfl k) ?_
  show Go _ _ _ _ _ _ _ (T2.setTop (mkF m 11 #[.val (.ref aa), .val (.int ds), .val (.int fs), .val (.ref xl), .val (.int li), .val (.int te), .val .null, .val (.int hi)] [(.int fs), (.ref aa)]))
  obtain ⟨T3, h3, X3, e3, W3, st3⟩ := putFN X2 hx hZ hown (hw _ (List.mem_of_getElem? (i := 50) rfl)) Via.refl e2 F_fromStart_aa E_aa (Or.inr ⟨(hw _ (List.mem_of_getElem? (i := 51) rfl)), rfl, hnm⟩) (hw _ (List.mem_of_getElem? (i := 37) rfl)) (ty := .boolean) (v' := (.int fs)) (by decide) (own_nz h_fs) (own_fz h_fs) (g := (mkF m 11 #[.val (.ref aa), .val (.int ds), .val (.int fs), .val (.ref xl), .val (.int li), .val (.int te), .val .null, .val (.int hi)] [(.int fs), (.ref aa)])) rfl rfl (hb hby d7_11)
  replace F_descending_aa := F_descending_aa.other W3 (Or.inr (slot_ne (Or.inr (hw _ (List.mem_of_getElem? (i := 49) rfl))) (Or.inr (hw _ (List.mem_of_getElem? (i := 51) rfl))) (by decide) (t := .boolean) (t' := .boolean) (by decide) (by decide)))
  replace F_lo_aa := F_lo_aa.other W3 (Or.inr (slot_ne (Or.inr (hw _ (List.mem_of_getElem? (i := 53) rfl))) (Or.inr (hw _ (List.mem_of_getElem? (i := 51) rfl))) (by decide) (t := (.object "java/lang/Object")) (t' := .boolean) (by decide) (by decide)))
  replace F_loInclusive_aa := F_loInclusive_aa.other W3 (Or.inr (slot_ne (Or.inr (hw _ (List.mem_of_getElem? (i := 55) rfl))) (Or.inr (hw _ (List.mem_of_getElem? (i := 51) rfl))) (by decide) (t := .boolean) (t' := .boolean) (by decide) (by decide)))
  replace F_toEnd_aa := F_toEnd_aa.other W3 (Or.inr (slot_ne (Or.inr (hw _ (List.mem_of_getElem? (i := 57) rfl))) (Or.inr (hw _ (List.mem_of_getElem? (i := 51) rfl))) (by decide) (t := .boolean) (t' := .boolean) (by decide) (by decide)))
  replace F_hi_aa := F_hi_aa.other W3 (Or.inr (slot_ne (Or.inr (hw _ (List.mem_of_getElem? (i := 59) rfl))) (Or.inr (hw _ (List.mem_of_getElem? (i := 51) rfl))) (by decide) (t := (.object "java/lang/Object")) (t' := .boolean) (by decide) (by decide)))
  replace F_hiInclusive_aa := F_hiInclusive_aa.other W3 (Or.inr (slot_ne (Or.inr (hw _ (List.mem_of_getElem? (i := 61) rfl))) (Or.inr (hw _ (List.mem_of_getElem? (i := 51) rfl))) (by decide) (t := .boolean) (t' := .boolean) (by decide) (by decide)))
  replace E_aa := E_aa.wr W3
  have Z3 := Nat.le_trans Z2 (Keep.of_wr W3).1
  have N3 := Fr.snoc X3 N2 g_aa
  have K3 := K2.wr W3 (Or.inl (List.mem_of_getElem? (i := 0) rfl))
  replace F_fromStart_aa := F_fromStart_aa.same W3
  refine Go.step st3 ?_
  show Go _ _ _ _ _ _ _ (T3.setTop (mkF m 14 #[.val (.ref aa), .val (.int ds), .val (.int fs), .val (.ref xl), .val (.int li), .val (.int te), .val .null, .val (.int hi)] []))
  refine Go.step (fun t k => XS.aloadN X3.here hx rfl (hb hby d7_14) rfl rfl k) ?_
  show Go _ _ _ _ _ _ _ (T3.setTop (mkF m 15 #[.val (.ref aa), .val (.int ds), .val (.int fs), .val (.ref xl), .val (.int li), .val (.int te), .val .null, .val (.int hi)] [(.ref aa)]))
  refine Go.step (fun t k => XS.aloadN X3.here hx rfl (hb hby d7_15) rfl rfl k) ?_
  show Go _ _ _ _ _ _ _ (T3.setTop (mkF m 16 #[.val (.ref aa), .val (.int ds), .val (.int fs), .val (.ref xl), .val (.int li), .val (.int te), .val .null, .val (.int hi)] [(.ref xl), (.ref aa)]))
  obtain ⟨T4, h4, X4, e4, W4, st4⟩ := putF X3 hx hZ hown (host := "") (Or.inl (hw _ (List.mem_of_getElem? (i := 52) rfl))) Via.refl e3 F_lo_aa E_aa (Or.inr ⟨(hw _ (List.mem_of_getElem? (i := 53) rfl)), rfl, hnm⟩) (hw _ (List.mem_of_getElem? (i := 37) rfl)) (ty := (.object "java/lang/Object")) (by decide) rfl rfl (g := (mkF m 16 #[.val (.ref aa), .val (.int ds), .val (.int fs), .val (.ref xl), .val (.int li), .val (.int te), .val .null, .val (.int hi)] [(.ref xl), (.ref aa)])) rfl rfl (hb hby d7_16)
  replace F_descending_aa := F_descending_aa.other W4 (Or.inr (slot_ne (Or.inr (hw _ (List.mem_of_getElem? (i := 49) rfl))) (Or.inr (hw _ (List.mem_of_getElem? (i := 53) rfl))) (by decide) (t := .boolean) (t' := (.object "java/lang/Object")) (by decide) (by decide)))
  replace F_fromStart_aa := F_fromStart_aa.other W4 (Or.inr (slot_ne (Or.inr (hw _ (List.mem_of_getElem? (i := 51) rfl))) (Or.inr (hw _ (List.mem_of_getElem? (i := 53) rfl))) (by decide) (t := .boolean) (t' := (.object "java/lang/Object")) (by decide) (by decide)))
  replace F_loInclusive_aa := F_loInclusive_aa.other W4 (Or.inr (slot_ne (Or.inr (hw _ (List.mem_of_getElem? (i := 55) rfl))) (Or.inr (hw _ (List.mem_of_getElem? (i := 53) rfl))) (by decide) (t := .boolean) (t' := (.object "java/lang/Object")) (by decide) (by decide)))
  replace F_toEnd_aa := F_toEnd_aa.other W4 (Or.inr (slot_ne (Or.inr (hw _ (List.mem_of_getElem? (i := 57) rfl))) (Or.inr (hw _ (List.mem_of_getElem? (i := 53) rfl))) (by decide) (t := .boolean) (t' := (.object "java/lang/Object")) (by decide) (by decide)))
  replace F_hi_aa := F_hi_aa.other W4 (Or.inr (slot_ne (Or.inr (hw _ (List.mem_of_getElem? (i := 59) rfl))) (Or.inr (hw _ (List.mem_of_getElem? (i := 53) rfl))) (by decide) (t := (.object "java/lang/Object")) (t' := (.object "java/lang/Object")) (by decide) (by decide)))
  replace F_hiInclusive_aa := F_hiInclusive_aa.other W4 (Or.inr (slot_ne (Or.inr (hw _ (List.mem_of_getElem? (i := 61) rfl))) (Or.inr (hw _ (List.mem_of_getElem? (i := 53) rfl))) (by decide) (t := .boolean) (t' := (.object "java/lang/Object")) (by decide) (by decide)))
  replace E_aa := E_aa.wr W4
  have Z4 := Nat.le_trans Z3 (Keep.of_wr W4).1
  have N4 := Fr.snoc X4 N3 g_aa
  have K4 := K3.wr W4 (Or.inl (List.mem_of_getElem? (i := 0) rfl))
  replace F_lo_aa := F_lo_aa.same W4
  refine Go.step st4 ?_
  show Go _ _ _ _ _ _ _ (T4.setTop (mkF m 19 #[.val (.ref aa), .val (.int ds), .val (.int fs), .val (.ref xl), .val (.int li), .val (.int te), .val .null, .val (.int hi)] []))
  refine Go.step (fun t k => XS.aloadN X4.here hx rfl (hb hby d7_19) rfl rfl k) ?_
  show Go _ _ _ _ _ _ _ (T4.setTop (mkF m 20 #[.val (.ref aa), .val (.int ds), .val (.int fs), .val (.ref xl), .val (.int li), .val (.int te), .val .null, .val (.int hi)] [(.ref aa)]))
  refine Go.step (fun t k => XS.iload X4.here hx rfl (hb hby d7_20) rfl k) ?_
  show Go _ _ _ _ _ _ _ (T4.setTop (mkF m 22 #[.val (.ref aa), .val (.int ds), .val (.int fs), .val (.ref xl), .val (.int li), .val (.int te), .val .null, .val (.int hi)] [(.int li), (.ref aa)]))
  obtain ⟨T5, h5, X5, e5, W5, st5⟩ := putFN X4 hx hZ hown (hw _ (List.mem_of_getElem? (i := 54) rfl)) Via.refl e4 F_loInclusive_aa E_aa (Or.inr ⟨(hw _ (List.mem_of_getElem? (i := 55) rfl)), rfl, hnm⟩) (hw _ (List.mem_of_getElem? (i := 37) rfl)) (ty := .boolean) (v' := (.int li)) (by decide) (own_nz h_li) (own_fz h_li) (g := (mkF m 22 #[.val (.ref aa), .val (.int ds), .val (.int fs), .val (.ref xl), .val (.int li), .val (.int te), .val .null, .val (.int hi)] [(.int li), (.ref aa)])) rfl rfl (hb hby d7_22)
  replace F_descending_aa := F_descending_aa.other W5 (Or.inr (slot_ne (Or.inr (hw _ (List.mem_of_getElem? (i := 49) rfl))) (Or.inr (hw _ (List.mem_of_getElem? (i := 55) rfl))) (by decide) (t := .boolean) (t' := .boolean) (by decide) (by decide)))
  replace F_fromStart_aa := F_fromStart_aa.other W5 (Or.inr (slot_ne (Or.inr (hw _ (List.mem_of_getElem? (i := 51) rfl))) (Or.inr (hw _ (List.mem_of_getElem? (i := 55) rfl))) (by decide) (t := .boolean) (t' := .boolean) (by decide) (by decide)))
  replace F_lo_aa := F_lo_aa.other W5 (Or.inr (slot_ne (Or.inr (hw _ (List.mem_of_getElem? (i := 53) rfl))) (Or.inr (hw _ (List.mem_of_getElem? (i := 55) rfl))) (by decide) (t := (.object "java/lang/Object")) (t' := .boolean) (by decide) (by decide)))
  replace F_toEnd_aa := F_toEnd_aa.other W5 (Or.inr (slot_ne (Or.inr (hw _ (List.mem_of_getElem? (i := 57) rfl))) (Or.inr (hw _ (List.mem_of_getElem? (i := 55) rfl))) (by decide) (t := .boolean) (t' := .boolean) (by decide) (by decide)))
  replace F_hi_aa := F_hi_aa.other W5 (Or.inr (slot_ne (Or.inr (hw _ (List.mem_of_getElem? (i := 59) rfl))) (Or.inr (hw _ (List.mem_of_getElem? (i := 55) rfl))) (by decide) (t := (.object "java/lang/Object")) (t' := .boolean) (by decide) (by decide)))
  replace F_hiInclusive_aa := F_hiInclusive_aa.other W5 (Or.inr (slot_ne (Or.inr (hw _ (List.mem_of_getElem? (i := 61) rfl))) (Or.inr (hw _ (List.mem_of_getElem? (i := 55) rfl))) (by decide) (t := .boolean) (t' := .boolean) (by decide) (by decide)))
  replace E_aa := E_aa.wr W5
  have Z5 := Nat.le_trans Z4 (Keep.of_wr W5).1
  have N5 := Fr.snoc X5 N4 g_aa
  have K5 := K4.wr W5 (Or.inl (List.mem_of_getElem? (i := 0) rfl))
  replace F_loInclusive_aa := F_loInclusive_aa.same W5
  refine Go.step st5 ?_
  show Go _ _ _ _ _ _ _ (T5.setTop (mkF m 25 #[.val (.ref aa), .val (.int ds), .val (.int fs), .val (.ref xl), .val (.int li), .val (.int te), .val .null, .val (.int hi)] []))
  refine Go.step (fun t k => XS.aloadN X5.here hx rfl (hb hby d7_25) rfl rfl k) ?_
  show Go _ _ _ _ _ _ _ (T5.setTop (mkF m 26 #[.val (.ref aa), .val (.int ds), .val (.int fs), .val (.ref xl), .val (.int li), .val (.int te), .val .null, .val (.int hi)] [(.ref aa)]))
  refine Go.step (fun t k => XS.iload X5.here hx rfl (hb hby d7_26) rfl k) ?_
  show Go _ _ _ _ _ _ _ (T5.setTop (mkF m 28 #[.val (.ref aa), .val (.int ds), .val (.int fs), .val (.ref xl), .val (.int li), .val (.int te), .val .null, .val (.int hi)] [(.int te), (.ref aa)]))
  obtain ⟨T6, h6, X6, e6, W6, st6⟩ := putFN X5 hx hZ hown (hw _ (List.mem_of_getElem? (i := 56) rfl)) Via.refl e5 F_toEnd_aa E_aa (Or.inr ⟨(hw _ (List.mem_of_getElem? (i := 57) rfl)), rfl, hnm⟩) (hw _ (List.mem_of_getElem? (i := 37) rfl)) (ty := .boolean) (v' := (.int te)) (by decide) (own_nz h_te) (own_fz h_te) (g := (mkF m 28 #[.val (.ref aa), .val (.int ds), .val (.int fs), .val (.ref xl), .val (.int li), .val (.int te), .val .null, .val (.int hi)] [(.int te), (.ref aa)])) rfl rfl (hb hby d7_28)
  replace F_descending_aa := F_descending_aa.other W6 (Or.inr (slot_ne (Or.inr (hw _ (List.mem_of_getElem? (i := 49) rfl))) (Or.inr (hw _ (List.mem_of_getElem? (i := 57) rfl))) (by decide) (t := .boolean) (t' := .boolean) (by decide) (by decide)))
  replace F_fromStart_aa := F_fromStart_aa.other W6 (Or.inr (slot_ne (Or.inr (hw _ (List.mem_of_getElem? (i := 51) rfl))) (Or.inr (hw _ (List.mem_of_getElem? (i := 57) rfl))) (by decide) (t := .boolean) (t' := .boolean) (by decide) (by decide)))
  replace F_lo_aa := F_lo_aa.other W6 (Or.inr (slot_ne (Or.inr (hw _ (List.mem_of_getElem? (i := 53) rfl))) (Or.inr (hw _ (List.mem_of_getElem? (i := 57) rfl))) (by decide) (t := (.object "java/lang/Object")) (t' := .boolean) (by decide) (by decide)))
  replace F_loInclusive_aa := F_loInclusive_aa.other W6 (Or.inr (slot_ne (Or.inr (hw _ (List.mem_of_getElem? (i := 55) rfl))) (Or.inr (hw _ (List.mem_of_getElem? (i := 57) rfl))) (by decide) (t := .boolean) (t' := .boolean) (by decide) (by decide)))
  replace F_hi_aa := F_hi_aa.other W6 (Or.inr (slot_ne (Or.inr (hw _ (List.mem_of_getElem? (i := 59) rfl))) (Or.inr (hw _ (List.mem_of_getElem? (i := 57) rfl))) (by decide) (t := (.object "java/lang/Object")) (t' := .boolean) (by decide) (by decide)))
  replace F_hiInclusive_aa := F_hiInclusive_aa.other W6 (Or.inr (slot_ne (Or.inr (hw _ (List.mem_of_getElem? (i := 61) rfl))) (Or.inr (hw _ (List.mem_of_getElem? (i := 57) rfl))) (by decide) (t := .boolean) (t' := .boolean) (by decide) (by decide)))
  replace E_aa := E_aa.wr W6
  have Z6 := Nat.le_trans Z5 (Keep.of_wr W6).1
  have N6 := Fr.snoc X6 N5 g_aa
  have K6 := K5.wr W6 (Or.inl (List.mem_of_getElem? (i := 0) rfl))
  replace F_toEnd_aa := F_toEnd_aa.same W6
  refine Go.step st6 ?_
  show Go _ _ _ _ _ _ _ (T6.setTop (mkF m 31 #[.val (.ref aa), .val (.int ds), .val (.int fs), .val (.ref xl), .val (.int li), .val (.int te), .val .null, .val (.int hi)] []))
  refine Go.step (fun t k => XS.aloadN X6.here hx rfl (hb hby d7_31) rfl rfl k) ?_
  show Go _ _ _ _ _ _ _ (T6.setTop (mkF m 32 #[.val (.ref aa), .val (.int ds), .val (.int fs), .val (.ref xl), .val (.int li), .val (.int te), .val .null, .val (.int hi)] [(.ref aa)]))
  refine Go.step (fun t k => XS.aload X6.here hx rfl (hb hby d7_32) rfl rfl k) ?_
  show Go _ _ _ _ _ _ _ (T6.setTop (mkF m 34 #[.val (.ref aa), .val (.int ds), .val (.int fs), .val (.ref xl), .val (.int li), .val (.int te), .val .null, .val (.int hi)] [.null, (.ref aa)]))
  obtain ⟨T7, h7, X7, e7, W7, st7⟩ := putF X6 hx hZ hown (host := "") (Or.inl (hw _ (List.mem_of_getElem? (i := 58) rfl))) Via.refl e6 F_hi_aa E_aa (Or.inr ⟨(hw _ (List.mem_of_getElem? (i := 59) rfl)), rfl, hnm⟩) (hw _ (List.mem_of_getElem? (i := 37) rfl)) (ty := (.object "java/lang/Object")) (by decide) rfl rfl (g := (mkF m 34 #[.val (.ref aa), .val (.int ds), .val (.int fs), .val (.ref xl), .val (.int li), .val (.int te), .val .null, .val (.int hi)] [.null, (.ref aa)])) rfl rfl (hb hby d7_34)
  replace F_descending_aa := F_descending_aa.other W7 (Or.inr (slot_ne (Or.inr (hw _ (List.mem_of_getElem? (i := 49) rfl))) (Or.inr (hw _ (List.mem_of_getElem? (i := 59) rfl))) (by decide) (t := .boolean) (t' := (.object "java/lang/Object")) (by decide) (by decide)))
  replace F_fromStart_aa := F_fromStart_aa.other W7 (Or.inr (slot_ne (Or.inr (hw _ (List.mem_of_getElem? (i := 51) rfl))) (Or.inr (hw _ (List.mem_of_getElem? (i := 59) rfl))) (by decide) (t := .boolean) (t' := (.object "java/lang/Object")) (by decide) (by decide)))
  replace F_lo_aa := F_lo_aa.other W7 (Or.inr (slot_ne (Or.inr (hw _ (List.mem_of_getElem? (i := 53) rfl))) (Or.inr (hw _ (List.mem_of_getElem? (i := 59) rfl))) (by decide) (t := (.object "java/lang/Object")) (t' := (.object "java/lang/Object")) (by decide) (by decide)))
  replace F_loInclusive_aa := F_loInclusive_aa.other W7 (Or.inr (slot_ne (Or.inr (hw _ (List.mem_of_getElem? (i := 55) rfl))) (Or.inr (hw _ (List.mem_of_getElem? (i := 59) rfl))) (by decide) (t := .boolean) (t' := (.object "java/lang/Object")) (by decide) (by decide)))
  replace F_toEnd_aa := F_toEnd_aa.other W7 (Or.inr (slot_ne (Or.inr (hw _ (List.mem_of_getElem? (i := 57) rfl))) (Or.inr (hw _ (List.mem_of_getElem? (i := 59) rfl))) (by decide) (t := .boolean) (t' := (.object "java/lang/Object")) (by decide) (by decide)))
  replace F_hiInclusive_aa := F_hiInclusive_aa.other W7 (Or.inr (slot_ne (Or.inr (hw _ (List.mem_of_getElem? (i := 61) rfl))) (Or.inr (hw _ (List.mem_of_getElem? (i := 59) rfl))) (by decide) (t := .boolean) (t' := (.object "java/lang/Object")) (by decide) (by decide)))
  replace E_aa := E_aa.wr W7
  have Z7 := Nat.le_trans Z6 (Keep.of_wr W7).1
  have N7 := Fr.snoc X7 N6 g_aa
  have K7 := K6.wr W7 (Or.inl (List.mem_of_getElem? (i := 0) rfl))
  replace F_hi_aa := F_hi_aa.same W7
  refine Go.step st7 ?_
  show Go _ _ _ _ _ _ _ (T7.setTop (mkF m 37 #[.val (.ref aa), .val (.int ds), .val (.int fs), .val (.ref xl), .val (.int li), .val (.int te), .val .null, .val (.int hi)] []))
  refine Go.step (fun t k => XS.aloadN X7.here hx rfl (hb hby d7_37) rfl rfl k) ?_
  show Go _ _ _ _ _ _ _ (T7.setTop (mkF m 38 #[.val (.ref aa), .val (.int ds), .val (.int fs), .val (.ref xl), .val (.int li), .val (.int te), .val .null, .val (.int hi)] [(.ref aa)]))
  refine Go.step (fun t k => XS.iload X7.here hx rfl (hb hby d7_38) rfl k) ?_
  show Go _ _ _ _ _ _ _ (T7.setTop (mkF m 40 #[.val (.ref aa), .val (.int ds), .val (.int fs), .val (.ref xl), .val (.int li), .val (.int te), .val .null, .val (.int hi)] [(.int hi), (.ref aa)]))
  obtain ⟨T8, h8, X8, e8, W8, st8⟩ := putFN X7 hx hZ hown (hw _ (List.mem_of_getElem? (i := 60) rfl)) Via.refl e7 F_hiInclusive_aa E_aa (Or.inr ⟨(hw _ (List.mem_of_getElem? (i := 61) rfl)), rfl, hnm⟩) (hw _ (List.mem_of_getElem? (i := 37) rfl)) (ty := .boolean) (v' := (.int hi)) (by decide) (own_nz h_hi) (own_fz h_hi) (g := (mkF m 40 #[.val (.ref aa), .val (.int ds), .val (.int fs), .val (.ref xl), .val (.int li), .val (.int te), .val .null, .val (.int hi)] [(.int hi), (.ref aa)])) rfl rfl (hb hby d7_40)
  replace F_descending_aa := F_descending_aa.other W8 (Or.inr (slot_ne (Or.inr (hw _ (List.mem_of_getElem? (i := 49) rfl))) (Or.inr (hw _ (List.mem_of_getElem? (i := 61) rfl))) (by decide) (t := .boolean) (t' := .boolean) (by decide) (by decide)))
  replace F_fromStart_aa := F_fromStart_aa.other W8 (Or.inr (slot_ne (Or.inr (hw _ (List.mem_of_getElem? (i := 51) rfl))) (Or.inr (hw _ (List.mem_of_getElem? (i := 61) rfl))) (by decide) (t := .boolean) (t' := .boolean) (by decide) (by decide)))
  replace F_lo_aa := F_lo_aa.other W8 (Or.inr (slot_ne (Or.inr (hw _ (List.mem_of_getElem? (i := 53) rfl))) (Or.inr (hw _ (List.mem_of_getElem? (i := 61) rfl))) (by decide) (t := (.object "java/lang/Object")) (t' := .boolean) (by decide) (by decide)))
  replace F_loInclusive_aa := F_loInclusive_aa.other W8 (Or.inr (slot_ne (Or.inr (hw _ (List.mem_of_getElem? (i := 55) rfl))) (Or.inr (hw _ (List.mem_of_getElem? (i := 61) rfl))) (by decide) (t := .boolean) (t' := .boolean) (by decide) (by decide)))
  replace F_toEnd_aa := F_toEnd_aa.other W8 (Or.inr (slot_ne (Or.inr (hw _ (List.mem_of_getElem? (i := 57) rfl))) (Or.inr (hw _ (List.mem_of_getElem? (i := 61) rfl))) (by decide) (t := .boolean) (t' := .boolean) (by decide) (by decide)))
  replace F_hi_aa := F_hi_aa.other W8 (Or.inr (slot_ne (Or.inr (hw _ (List.mem_of_getElem? (i := 59) rfl))) (Or.inr (hw _ (List.mem_of_getElem? (i := 61) rfl))) (by decide) (t := (.object "java/lang/Object")) (t' := .boolean) (by decide) (by decide)))
  replace E_aa := E_aa.wr W8
  have Z8 := Nat.le_trans Z7 (Keep.of_wr W8).1
  have N8 := Fr.snoc X8 N7 g_aa
  have K8 := K7.wr W8 (Or.inl (List.mem_of_getElem? (i := 0) rfl))
  replace F_hiInclusive_aa := F_hiInclusive_aa.same W8
  refine Go.step st8 ?_
  show Go _ _ _ _ _ _ _ (T8.setTop (mkF m 43 #[.val (.ref aa), .val (.int ds), .val (.int fs), .val (.ref xl), .val (.int li), .val (.int te), .val .null, .val (.int hi)] []))
  refine Go.retV X8 Bd.notSynchronized hx Bd.returns (hb hby d7_43) (by decide) (by decide) ?_
  rw [e8]
  exact ⟨rfl, N8, K8, F_descending_aa, F_fromStart_aa, F_lo_aa, F_loInclusive_aa, F_toEnd_aa, F_hi_aa, F_hiInclusive_aa⟩
theorem pn_7_10 : plainName "com/example/rootkeep/rootkeep/KeyRange" = true := by first | (simp [plainName, overriddenIn]; done) | decide +kernel
theorem pd_7_0_10 : parseMethodDescriptor "()V" = some ⟨[], none⟩ := by decide +kernel
theorem ef_7_10 (m : MethodId) (x0 : Addr) (x1 : Int32) (x2 : Int32) (x3 : Int32) (x4 : Int32) (x5 : Addr) (x6 : Int32) : entryFrame m #[(.ref x0), (.int x1), (.int x2), .null, (.int x3), (.int x4), (.ref x5), (.int x6)] 8 = mkF m 0 #[.val (.ref x0), .val (.int x1), .val (.int x2), .val .null, .val (.int x3), .val (.int x4), .val (.ref x5), .val (.int x6)] [] := by first | (simp [entryFrame, mkF, argsToLocals, Value.category]; done) | rfl
def Q7_10 (Z : State) (aa : Addr) (ds : Int32) (fs : Int32) (li : Int32) (te : Int32) (xh : Addr) (hi : Int32) (h0 : Heap) (n0 : Nat) (v : Option Value) (h : Heap) (L : List Loc) : Prop := v = none ∧ Fr n0 L ∧ Keep h0 h [aa] ∧ Fld Z h aa "com/example/rootkeep/rootkeep/KeyRange" "descending" "Z" (.int ds) ∧ Fld Z h aa "com/example/rootkeep/rootkeep/KeyRange" "fromStart" "Z" (.int fs) ∧ Fld Z h aa "com/example/rootkeep/rootkeep/KeyRange" "lo" "Ljava/lang/Object;" .null ∧ Fld Z h aa "com/example/rootkeep/rootkeep/KeyRange" "loInclusive" "Z" (.int li) ∧ Fld Z h aa "com/example/rootkeep/rootkeep/KeyRange" "toEnd" "Z" (.int te) ∧ Fld Z h aa "com/example/rootkeep/rootkeep/KeyRange" "hi" "Ljava/lang/Object;" (.ref xh) ∧ Fld Z h aa "com/example/rootkeep/rootkeep/KeyRange" "hiInclusive" "Z" (.int hi)
set_option maxRecDepth 65536 in
set_option maxHeartbeats 40000000 in
theorem rm7_10 (l : Launch) (Z : State) (a0 : Array Value) (hw : ∀ d ∈ tables_1, d.before a0 Z = true) (ws : List Jvm.Cond) (aa : Addr) (ds : Int32) (fs : Int32) (li : Int32) (te : Int32) (xh : Addr) (hi : Int32) (h0 : Heap) (n0 : Nat) (Z0 : n0 ≤ h0.size) (F_descending_aa : Fld Z h0 aa "com/example/rootkeep/rootkeep/KeyRange" "descending" "Z" (.int (0 : Int32))) (F_fromStart_aa : Fld Z h0 aa "com/example/rootkeep/rootkeep/KeyRange" "fromStart" "Z" (.int (0 : Int32))) (F_lo_aa : Fld Z h0 aa "com/example/rootkeep/rootkeep/KeyRange" "lo" "Ljava/lang/Object;" .null) (F_loInclusive_aa : Fld Z h0 aa "com/example/rootkeep/rootkeep/KeyRange" "loInclusive" "Z" (.int (0 : Int32))) (F_toEnd_aa : Fld Z h0 aa "com/example/rootkeep/rootkeep/KeyRange" "toEnd" "Z" (.int (0 : Int32))) (F_hi_aa : Fld Z h0 aa "com/example/rootkeep/rootkeep/KeyRange" "hi" "Ljava/lang/Object;" .null) (F_hiInclusive_aa : Fld Z h0 aa "com/example/rootkeep/rootkeep/KeyRange" "hiInclusive" "Z" (.int (0 : Int32))) (E_aa : Exa Z h0 aa "com/example/rootkeep/rootkeep/KeyRange") (g_aa : n0 ≤ aa) (h_ds : (ds = 0 ∨ ds = 1)) (h_fs : (fs = 0 ∨ fs = 1)) (h_li : (li = 0 ∨ li = 1)) (h_te : (te = 0 ∨ te = 1)) (h_hi : (hi = 0 ∨ hi = 1)) :
    MetFree l (⟨"com/example/rootkeep/rootkeep/KeyRange", "<init>", "(ZZLjava/lang/Object;ZZLjava/lang/Object;Z)V"⟩ : MethodName) (head1 (Jvm.Cond.code (⟨"com/example/rootkeep/rootkeep/KeyRange", "<init>", "(ZZLjava/lang/Object;ZZLjava/lang/Object;Z)V"⟩ : MethodName) prog_1_method_1_code 8 none :: ws) ({ frames := 2, cells := 0, slots := 0, locals := 24 } : Room)) (fun a U => a = #[(.ref aa), (.int ds), (.int fs), .null, (.int li), (.int te), (.ref xh), (.int hi)] ∧ Z.Warmed39 U.vm ∧ U.heap = h0) (fun _ _ _ _ _ => True) (fun _ U o U' => ∃ v L, o = .returned v ∧ Q7_10 Z aa ds fs li te xh hi h0 n0 v U'.heap L ∧ FrameEnd U o U' L ({ frames := 2, cells := 0, slots := 0, locals := 24 } : Room).cells ({ frames := 2, cells := 0, slots := 0, locals := 24 } : Room).slots) := by
  refine MetFree.of_bodySF (plainFor_of_name pn_7_10) hisR ?_
  intro p e s m args below meth c s₁ Bd hml0 hP hK
  obtain ⟨rfl, hZ, hh⟩ := hP
  have hx := Bd.exec
  have hby := Bd.bytes
  have hml : c.maxLocals = 8 := hml0
  have hown : s.vm.findClass "com/example/rootkeep/rootkeep/KeyRange" = some m.cls := findClass_of_methodNamed Bd.named
  have hnm := (name_of_methodNamed Bd.named Bd.method).1
  have X0 : Stand p l e ({ frames := 2, cells := 0, slots := 0, locals := 24 } : Room) s m #[(.ref aa), (.int ds), (.int fs), .null, (.int li), (.int te), (.ref xh), (.int hi)] below meth c s₁ [] 0 0 := Stand.of_body Bd
  have e0 : s₁.heap = h0 := by rw [← hh, Bd.state]; rfl
  have N0 := Fr.nil n0
  have K0 := Keep.refl h0 ([aa] : List Addr)
  show Go p e below s (Q7_10 Z aa ds fs li te xh hi h0 n0) ({ frames := 2, cells := 0, slots := 0, locals := 24 } : Room).cells ({ frames := 2, cells := 0, slots := 0, locals := 24 } : Room).slots (s₁.setTop (entryFrame m #[(.ref aa), (.int ds), (.int fs), .null, (.int li), (.int te), (.ref xh), (.int hi)] 8))
  rw [ef_7_10]
  show Go _ _ _ _ _ _ _ (s₁.setTop (mkF m 0 #[.val (.ref aa), .val (.int ds), .val (.int fs), .val .null, .val (.int li), .val (.int te), .val (.ref xh), .val (.int hi)] []))
  refine Go.step (fun t k => XS.aloadN X0.here hx rfl (hb hby d7_0) rfl rfl k) ?_
  show Go _ _ _ _ _ _ _ (s₁.setTop (mkF m 1 #[.val (.ref aa), .val (.int ds), .val (.int fs), .val .null, .val (.int li), .val (.int te), .val (.ref xh), .val (.int hi)] [(.ref aa)]))
  obtain ⟨_, _, ⟨T1, L1, k1, n1⟩, -, X1, ⟨Lc1, hQ1, l1, y1, z1⟩, st1⟩ := X0.specialBack hx (y := (⟨"java/lang/Record", "<init>", "()V"⟩ : MethodName)) rfl hown (mvT hZ (hw _ (List.mem_of_getElem? (i := 42) rfl))) (mvT hZ (hw _ (List.mem_of_getElem? (i := 43) rfl))) (mvT hZ (hw _ (List.mem_of_getElem? (i := 46) rfl))) (by decide) (backOf (W := 0) (rm8 l Z a0 hw [] aa h0 n0 Z0) hZ (hw _ (List.mem_of_getElem? (i := 46) rfl)) (hw _ (List.mem_of_getElem? (i := 45) rfl)) (by decide) (by decide)) (g := (mkF m 1 #[.val (.ref aa), .val (.int ds), .val (.int fs), .val .null, .val (.int li), .val (.int te), .val (.ref xh), .val (.int hi)] [(.ref aa)])) rfl (by rw [hml]; rfl) (Steps.refl _) (a := aa) (argsL := []) (rest := []) (lenOf pd_7_0_10 rfl) rfl (by show 2 * 0 + _ ≤ _; exact Nat.le_of_eq rfl) (hb hby d7_1) (fun _ _ => ⟨rfl, e0, (by decide : 0 + 0 ≤ _), (by decide : 0 + 0 ≤ _)⟩)
  dsimp only [Pt.U, Pt.locs, Pt.cells, Pt.slots] at X1 l1 y1 z1 st1 hQ1
  subst l1 y1 z1
  obtain ⟨rfl, N1q, K1q⟩ := hQ1
  have N1 := Fr.app N0 N1q
  refine Go.step (fun t k => st1.trans k) ?_
  show Go _ _ _ _ _ _ _ (T1.setTop (mkF m 4 #[.val (.ref aa), .val (.int ds), .val (.int fs), .val .null, .val (.int li), .val (.int te), .val (.ref xh), .val (.int hi)] []))
  refine Go.step (fun t k => XS.aloadN X1.here hx rfl (hb hby d7_4) rfl rfl k) ?_
  show Go _ _ _ _ _ _ _ (T1.setTop (mkF m 5 #[.val (.ref aa), .val (.int ds), .val (.int fs), .val .null, .val (.int li), .val (.int te), .val (.ref xh), .val (.int hi)] [(.ref aa)]))
  refine Go.step (fun t k => XS.iloadN X1.here hx rfl (hb hby d7_5) rfl k) ?_
  show Go _ _ _ _ _ _ _ (T1.setTop (mkF m 6 #[.val (.ref aa), .val (.int ds), .val (.int fs), .val .null, .val (.int li), .val (.int te), .val (.ref xh), .val (.int hi)] [(.int ds), (.ref aa)]))
  obtain ⟨T2, h2, X2, e2, W2, st2⟩ := putFN X1 hx hZ hown (hw _ (List.mem_of_getElem? (i := 48) rfl)) Via.refl K1q F_descending_aa E_aa (Or.inr ⟨(hw _ (List.mem_of_getElem? (i := 49) rfl)), rfl, hnm⟩) (hw _ (List.mem_of_getElem? (i := 37) rfl)) (ty := .boolean) (v' := (.int ds)) (by decide) (own_nz h_ds) (own_fz h_ds) (g := (mkF m 6 #[.val (.ref aa), .val (.int ds), .val (.int fs), .val .null, .val (.int li), .val (.int te), .val (.ref xh), .val (.int hi)] [(.int ds), (.ref aa)])) rfl rfl (hb hby d7_6)
  replace F_fromStart_aa := F_fromStart_aa.other W2 (Or.inr (slot_ne (Or.inr (hw _ (List.mem_of_getElem? (i := 51) rfl))) (Or.inr (hw _ (List.mem_of_getElem? (i := 49) rfl))) (by decide) (t := .boolean) (t' := .boolean) (by decide) (by decide)))
  replace F_lo_aa := F_lo_aa.other W2 (Or.inr (slot_ne (Or.inr (hw _ (List.mem_of_getElem? (i := 53) rfl))) (Or.inr (hw _ (List.mem_of_getElem? (i := 49) rfl))) (by decide) (t := (.object "java/lang/Object")) (t' := .boolean) (by decide) (by decide)))
  replace F_loInclusive_aa := F_loInclusive_aa.other W2 (Or.inr (slot_ne (Or.inr (hw _ (List.mem_of_getElem? (i := 55) rfl))) (Or.inr (hw _ (List.mem_of_getElem? (i := 49) rfl))) (by decide) (t := .boolean) (t' := .boolean) (by decide) (by decide)))
  replace F_toEnd_aa := F_toEnd_aa.other W2 (Or.inr (slot_ne (Or.inr (hw _ (List.mem_of_getElem? (i := 57) rfl))) (Or.inr (hw _ (List.mem_of_getElem? (i := 49) rfl))) (by decide) (t := .boolean) (t' := .boolean) (by decide) (by decide)))
  replace F_hi_aa := F_hi_aa.other W2 (Or.inr (slot_ne (Or.inr (hw _ (List.mem_of_getElem? (i := 59) rfl))) (Or.inr (hw _ (List.mem_of_getElem? (i := 49) rfl))) (by decide) (t := (.object "java/lang/Object")) (t' := .boolean) (by decide) (by decide)))
  replace F_hiInclusive_aa := F_hiInclusive_aa.other W2 (Or.inr (slot_ne (Or.inr (hw _ (List.mem_of_getElem? (i := 61) rfl))) (Or.inr (hw _ (List.mem_of_getElem? (i := 49) rfl))) (by decide) (t := .boolean) (t' := .boolean) (by decide) (by decide)))
  replace E_aa := E_aa.wr W2
  have Z2 := Nat.le_trans Z0 (Keep.of_wr W2).1
  have N2 := Fr.snoc X2 N1 g_aa
  have K2 := K0.wr W2 (Or.inl (List.mem_of_getElem? (i := 0) rfl))
  replace F_descending_aa := F_descending_aa.same W2
  refine Go.step st2 ?_
  show Go _ _ _ _ _ _ _ (T2.setTop (mkF m 9 #[.val (.ref aa), .val (.int ds), .val (.int fs), .val .null, .val (.int li), .val (.int te), .val (.ref xh), .val (.int hi)] []))
  refine Go.step (fun t k => XS.aloadN X2.here hx rfl (hb hby d7_9) rfl rfl k) ?_
  show Go _ _ _ _ _ _ _ (T2.setTop (mkF m 10 #[.val (.ref aa), .val (.int ds), .val (.int fs), .val .null, .val (.int li), .val (.int te), .val (.ref xh), .val (.int hi)] [(.ref aa)]))
  refine Go.step (fun t k => XS.iloadN X2.here hx rfl (hb hby d7_10) rfl k) ?_
  show Go _ _ _ _ _ _ _ (T2.setTop (mkF m 11 #[.val (.ref aa), .val (.int ds), .val (.int fs), .val .null, .val (.int li), .val (.int te), .val (.ref xh), .val (.int hi)] [(.int fs), (.ref aa)]))
  obtain ⟨T3, h3, X3, e3, W3, st3⟩ := putFN X2 hx hZ hown (hw _ (List.mem_of_getElem? (i := 50) rfl)) Via.refl e2 F_fromStart_aa E_aa (Or.inr ⟨(hw _ (List.mem_of_getElem? (i := 51) rfl)), rfl, hnm⟩) (hw _ (List.mem_of_getElem? (i := 37) rfl)) (ty := .boolean) (v' := (.int fs)) (by decide) (own_nz h_fs) (own_fz h_fs) (g := (mkF m 11 #[.val (.ref aa), .val (.int ds), .val (.int fs), .val .null, .val (.int li), .val (.int te), .val (.ref xh), .val (.int hi)] [(.int fs), (.ref aa)])) rfl rfl (hb hby d7_11)
  replace F_descending_aa := F_descending_aa.other W3 (Or.inr (slot_ne (Or.inr (hw _ (List.mem_of_getElem? (i := 49) rfl))) (Or.inr (hw _ (List.mem_of_getElem? (i := 51) rfl))) (by decide) (t := .boolean) (t' := .boolean) (by decide) (by decide)))
  replace F_lo_aa := F_lo_aa.other W3 (Or.inr (slot_ne (Or.inr (hw _ (List.mem_of_getElem? (i := 53) rfl))) (Or.inr (hw _ (List.mem_of_getElem? (i := 51) rfl))) (by decide) (t := (.object "java/lang/Object")) (t' := .boolean) (by decide) (by decide)))
  replace F_loInclusive_aa := F_loInclusive_aa.other W3 (Or.inr (slot_ne (Or.inr (hw _ (List.mem_of_getElem? (i := 55) rfl))) (Or.inr (hw _ (List.mem_of_getElem? (i := 51) rfl))) (by decide) (t := .boolean) (t' := .boolean) (by decide) (by decide)))
  replace F_toEnd_aa := F_toEnd_aa.other W3 (Or.inr (slot_ne (Or.inr (hw _ (List.mem_of_getElem? (i := 57) rfl))) (Or.inr (hw _ (List.mem_of_getElem? (i := 51) rfl))) (by decide) (t := .boolean) (t' := .boolean) (by decide) (by decide)))
  replace F_hi_aa := F_hi_aa.other W3 (Or.inr (slot_ne (Or.inr (hw _ (List.mem_of_getElem? (i := 59) rfl))) (Or.inr (hw _ (List.mem_of_getElem? (i := 51) rfl))) (by decide) (t := (.object "java/lang/Object")) (t' := .boolean) (by decide) (by decide)))
  replace F_hiInclusive_aa := F_hiInclusive_aa.other W3 (Or.inr (slot_ne (Or.inr (hw _ (List.mem_of_getElem? (i := 61) rfl))) (Or.inr (hw _ (List.mem_of_getElem? (i := 51) rfl))) (by decide) (t := .boolean) (t' := .boolean) (by decide) (by decide)))
  replace E_aa := E_aa.wr W3
  have Z3 := Nat.le_trans Z2 (Keep.of_wr W3).1
  have N3 := Fr.snoc X3 N2 g_aa
  have K3 := K2.wr W3 (Or.inl (List.mem_of_getElem? (i := 0) rfl))
  replace F_fromStart_aa := F_fromStart_aa.same W3
  refine Go.step st3 ?_
  show Go _ _ _ _ _ _ _ (T3.setTop (mkF m 14 #[.val (.ref aa), .val (.int ds), .val (.int fs), .val .null, .val (.int li), .val (.int te), .val (.ref xh), .val (.int hi)] []))
  refine Go.step (fun t k => XS.aloadN X3.here hx rfl (hb hby d7_14) rfl rfl k) ?_
  show Go _ _ _ _ _ _ _ (T3.setTop (mkF m 15 #[.val (.ref aa), .val (.int ds), .val (.int fs), .val .null, .val (.int li), .val (.int te), .val (.ref xh), .val (.int hi)] [(.ref aa)]))
  refine Go.step (fun t k => XS.aloadN X3.here hx rfl (hb hby d7_15) rfl rfl k) ?_
  show Go _ _ _ _ _ _ _ (T3.setTop (mkF m 16 #[.val (.ref aa), .val (.int ds), .val (.int fs), .val .null, .val (.int li), .val (.int te), .val (.ref xh), .val (.int hi)] [.null, (.ref aa)]))
  obtain ⟨T4, h4, X4, e4, W4, st4⟩ := putF X3 hx hZ hown (host := "") (Or.inl (hw _ (List.mem_of_getElem? (i := 52) rfl))) Via.refl e3 F_lo_aa E_aa (Or.inr ⟨(hw _ (List.mem_of_getElem? (i := 53) rfl)), rfl, hnm⟩) (hw _ (List.mem_of_getElem? (i := 37) rfl)) (ty := (.object "java/lang/Object")) (by decide) rfl rfl (g := (mkF m 16 #[.val (.ref aa), .val (.int ds), .val (.int fs), .val .null, .val (.int li), .val (.int te), .val (.ref xh), .val (.int hi)] [.null, (.ref aa)])) rfl rfl (hb hby d7_16)
  replace F_descending_aa := F_descending_aa.other W4 (Or.inr (slot_ne (Or.inr (hw _ (List.mem_of_getElem? (i := 49) rfl))) (Or.inr (hw _ (List.mem_of_getElem? (i := 53) rfl))) (by decide) (t := .boolean) (t' := (.object "java/lang/Object")) (by decide) (by decide)))
  replace F_fromStart_aa := F_fromStart_aa.other W4 (Or.inr (slot_ne (Or.inr (hw _ (List.mem_of_getElem? (i := 51) rfl))) (Or.inr (hw _ (List.mem_of_getElem? (i := 53) rfl))) (by decide) (t := .boolean) (t' := (.object "java/lang/Object")) (by decide) (by decide)))
  replace F_loInclusive_aa := F_loInclusive_aa.other W4 (Or.inr (slot_ne (Or.inr (hw _ (List.mem_of_getElem? (i := 55) rfl))) (Or.inr (hw _ (List.mem_of_getElem? (i := 53) rfl))) (by decide) (t := .boolean) (t' := (.object "java/lang/Object")) (by decide) (by decide)))
  replace F_toEnd_aa := F_toEnd_aa.other W4 (Or.inr (slot_ne (Or.inr (hw _ (List.mem_of_getElem? (i := 57) rfl))) (Or.inr (hw _ (List.mem_of_getElem? (i := 53) rfl))) (by decide) (t := .boolean) (t' := (.object "java/lang/Object")) (by decide) (by decide)))
  replace F_hi_aa := F_hi_aa.other W4 (Or.inr (slot_ne (Or.inr (hw _ (List.mem_of_getElem? (i := 59) rfl))) (Or.inr (hw _ (List.mem_of_getElem? (i := 53) rfl))) (by decide) (t := (.object "java/lang/Object")) (t' := (.object "java/lang/Object")) (by decide) (by decide)))
  replace F_hiInclusive_aa := F_hiInclusive_aa.other W4 (Or.inr (slot_ne (Or.inr (hw _ (List.mem_of_getElem? (i := 61) rfl))) (Or.inr (hw _ (List.mem_of_getElem? (i := 53) rfl))) (by decide) (t := .boolean) (t' := (.object "java/lang/Object")) (by decide) (by decide)))
  replace E_aa := E_aa.wr W4
  have Z4 := Nat.le_trans Z3 (Keep.of_wr W4).1
  have N4 := Fr.snoc X4 N3 g_aa
  have K4 := K3.wr W4 (Or.inl (List.mem_of_getElem? (i := 0) rfl))
  replace F_lo_aa := F_lo_aa.same W4
  refine Go.step st4 ?_
  show Go _ _ _ _ _ _ _ (T4.setTop (mkF m 19 #[.val (.ref aa), .val (.int ds), .val (.int fs), .val .null, .val (.int li), .val (.int te), .val (.ref xh), .val (.int hi)] []))
  refine Go.step (fun t k => XS.aloadN X4.here hx rfl (hb hby d7_19) rfl rfl k) ?_
  show Go _ _ _ _ _ _ _ (T4.setTop (mkF m 20 #[.val (.ref aa), .val (.int ds), .val (.int fs), .val .null, .val (.int li), .val (.int te), .val (.ref xh), .val (.int hi)] [(.ref aa)]))
  refine Go.step (fun t k => XS.iload X4.here hx rfl (hb hby d7_20) rfl k) ?_
  show Go _ _ _ _ _ _ _ (T4.setTop (mkF m 22 #[.val (.ref aa), .val (.int ds), .val (.int fs), .val .null, .val (.int li), .val (.int te), .val (.ref xh), .val (.int hi)] [(.int li), (.ref aa)]))
  obtain ⟨T5, h5, X5, e5, W5, st5⟩ := putFN X4 hx hZ hown (hw _ (List.mem_of_getElem? (i := 54) rfl)) Via.refl e4 F_loInclusive_aa E_aa (Or.inr ⟨(hw _ (List.mem_of_getElem? (i := 55) rfl)), rfl, hnm⟩) (hw _ (List.mem_of_getElem? (i := 37) rfl)) (ty := .boolean) (v' := (.int li)) (by decide) (own_nz h_li) (own_fz h_li) (g := (mkF m 22 #[.val (.ref aa), .val (.int ds), .val (.int fs), .val .null, .val (.int li), .val (.int te), .val (.ref xh), .val (.int hi)] [(.int li), (.ref aa)])) rfl rfl (hb hby d7_22)
  replace F_descending_aa := F_descending_aa.other W5 (Or.inr (slot_ne (Or.inr (hw _ (List.mem_of_getElem? (i := 49) rfl))) (Or.inr (hw _ (List.mem_of_getElem? (i := 55) rfl))) (by decide) (t := .boolean) (t' := .boolean) (by decide) (by decide)))
  replace F_fromStart_aa := F_fromStart_aa.other W5 (Or.inr (slot_ne (Or.inr (hw _ (List.mem_of_getElem? (i := 51) rfl))) (Or.inr (hw _ (List.mem_of_getElem? (i := 55) rfl))) (by decide) (t := .boolean) (t' := .boolean) (by decide) (by decide)))
  replace F_lo_aa := F_lo_aa.other W5 (Or.inr (slot_ne (Or.inr (hw _ (List.mem_of_getElem? (i := 53) rfl))) (Or.inr (hw _ (List.mem_of_getElem? (i := 55) rfl))) (by decide) (t := (.object "java/lang/Object")) (t' := .boolean) (by decide) (by decide)))
  replace F_toEnd_aa := F_toEnd_aa.other W5 (Or.inr (slot_ne (Or.inr (hw _ (List.mem_of_getElem? (i := 57) rfl))) (Or.inr (hw _ (List.mem_of_getElem? (i := 55) rfl))) (by decide) (t := .boolean) (t' := .boolean) (by decide) (by decide)))
  replace F_hi_aa := F_hi_aa.other W5 (Or.inr (slot_ne (Or.inr (hw _ (List.mem_of_getElem? (i := 59) rfl))) (Or.inr (hw _ (List.mem_of_getElem? (i := 55) rfl))) (by decide) (t := (.object "java/lang/Object")) (t' := .boolean) (by decide) (by decide)))
  replace F_hiInclusive_aa := F_hiInclusive_aa.other W5 (Or.inr (slot_ne (Or.inr (hw _ (List.mem_of_getElem? (i := 61) rfl))) (Or.inr (hw _ (List.mem_of_getElem? (i := 55) rfl))) (by decide) (t := .boolean) (t' := .boolean) (by decide) (by decide)))
  replace E_aa := E_aa.wr W5
  have Z5 := Nat.le_trans Z4 (Keep.of_wr W5).1
  have N5 := Fr.snoc X5 N4 g_aa
  have K5 := K4.wr W5 (Or.inl (List.mem_of_getElem? (i := 0) rfl))
  replace F_loInclusive_aa := F_loInclusive_aa.same W5
  refine Go.step st5 ?_
  show Go _ _ _ _ _ _ _ (T5.setTop (mkF m 25 #[.val (.ref aa), .val (.int ds), .val (.int fs), .val .null, .val (.int li), .val (.int te), .val (.ref xh), .val (.int hi)] []))
  refine Go.step (fun t k => XS.aloadN X5.here hx rfl (hb hby d7_25) rfl rfl k) ?_
  show Go _ _ _ _ _ _ _ (T5.setTop (mkF m 26 #[.val (.ref aa), .val (.int ds), .val (.int fs), .val .null, .val (.int li), .val (.int te), .val (.ref xh), .val (.int hi)] [(.ref aa)]))
  refine Go.step (fun t k => XS.iload X5.here hx rfl (hb hby d7_26) rfl k) ?_
  show Go _ _ _ _ _ _ _ (T5.setTop (mkF m 28 #[.val (.ref aa), .val (.int ds), .val (.int fs), .val .null, .val (.int li), .val (.int te), .val (.ref xh), .val (.int hi)] [(.int te), (.ref aa)]))
  obtain ⟨T6, h6, X6, e6, W6, st6⟩ := putFN X5 hx hZ hown (hw _ (List.mem_of_getElem? (i := 56) rfl)) Via.refl e5 F_toEnd_aa E_aa (Or.inr ⟨(hw _ (List.mem_of_getElem? (i := 57) rfl)), rfl, hnm⟩) (hw _ (List.mem_of_getElem? (i := 37) rfl)) (ty := .boolean) (v' := (.int te)) (by decide) (own_nz h_te) (own_fz h_te) (g := (mkF m 28 #[.val (.ref aa), .val (.int ds), .val (.int fs), .val .null, .val (.int li), .val (.int te), .val (.ref xh), .val (.int hi)] [(.int te), (.ref aa)])) rfl rfl (hb hby d7_28)
  replace F_descending_aa := F_descending_aa.other W6 (Or.inr (slot_ne (Or.inr (hw _ (List.mem_of_getElem? (i := 49) rfl))) (Or.inr (hw _ (List.mem_of_getElem? (i := 57) rfl))) (by decide) (t := .boolean) (t' := .boolean) (by decide) (by decide)))
  replace F_fromStart_aa := F_fromStart_aa.other W6 (Or.inr (slot_ne (Or.inr (hw _ (List.mem_of_getElem? (i := 51) rfl))) (Or.inr (hw _ (List.mem_of_getElem? (i := 57) rfl))) (by decide) (t := .boolean) (t' := .boolean) (by decide) (by decide)))
  replace F_lo_aa := F_lo_aa.other W6 (Or.inr (slot_ne (Or.inr (hw _ (List.mem_of_getElem? (i := 53) rfl))) (Or.inr (hw _ (List.mem_of_getElem? (i := 57) rfl))) (by decide) (t := (.object "java/lang/Object")) (t' := .boolean) (by decide) (by decide)))
  replace F_loInclusive_aa := F_loInclusive_aa.other W6 (Or.inr (slot_ne (Or.inr (hw _ (List.mem_of_getElem? (i := 55) rfl))) (Or.inr (hw _ (List.mem_of_getElem? (i := 57) rfl))) (by decide) (t := .boolean) (t' := .boolean) (by decide) (by decide)))
  replace F_hi_aa := F_hi_aa.other W6 (Or.inr (slot_ne (Or.inr (hw _ (List.mem_of_getElem? (i := 59) rfl))) (Or.inr (hw _ (List.mem_of_getElem? (i := 57) rfl))) (by decide) (t := (.object "java/lang/Object")) (t' := .boolean) (by decide) (by decide)))
  replace F_hiInclusive_aa := F_hiInclusive_aa.other W6 (Or.inr (slot_ne (Or.inr (hw _ (List.mem_of_getElem? (i := 61) rfl))) (Or.inr (hw _ (List.mem_of_getElem? (i := 57) rfl))) (by decide) (t := .boolean) (t' := .boolean) (by decide) (by decide)))
  replace E_aa := E_aa.wr W6
  have Z6 := Nat.le_trans Z5 (Keep.of_wr W6).1
  have N6 := Fr.snoc X6 N5 g_aa
  have K6 := K5.wr W6 (Or.inl (List.mem_of_getElem? (i := 0) rfl))
  replace F_toEnd_aa := F_toEnd_aa.same W6
  refine Go.step st6 ?_
  show Go _ _ _ _ _ _ _ (T6.setTop (mkF m 31 #[.val (.ref aa), .val (.int ds), .val (.int fs), .val .null, .val (.int li), .val (.int te), .val (.ref xh), .val (.int hi)] []))
  refine Go.step (fun t k => XS.aloadN X6.here hx rfl (hb hby d7_31) rfl rfl k) ?_
  show Go _ _ _ _ _ _ _ (T6.setTop (mkF m 32 #[.val (.ref aa), .val (.int ds), .val (.int fs), .val .null, .val (.int li), .val (.int te), .val (.ref xh), .val (.int hi)] [(.ref aa)]))
  refine Go.step (fun t k => XS.aload X6.here hx rfl (hb hby d7_32) rfl rfl k) ?_
  show Go _ _ _ _ _ _ _ (T6.setTop (mkF m 34 #[.val (.ref aa), .val (.int ds), .val (.int fs), .val .null, .val (.int li), .val (.int te), .val (.ref xh), .val (.int hi)] [(.ref xh), (.ref aa)]))
  obtain ⟨T7, h7, X7, e7, W7, st7⟩ := putF X6 hx hZ hown (host := "") (Or.inl (hw _ (List.mem_of_getElem? (i := 58) rfl))) Via.refl e6 F_hi_aa E_aa (Or.inr ⟨(hw _ (List.mem_of_getElem? (i := 59) rfl)), rfl, hnm⟩) (hw _ (List.mem_of_getElem? (i := 37) rfl)) (ty := (.object "java/lang/Object")) (by decide) rfl rfl (g := (mkF m 34 #[.val (.ref aa), .val (.int ds), .val (.int fs), .val .null, .val (.int li), .val (.int te), .val (.ref xh), .val (.int hi)] [(.ref xh), (.ref aa)])) rfl rfl (hb hby d7_34)
  replace F_descending_aa := F_descending_aa.other W7 (Or.inr (slot_ne (Or.inr (hw _ (List.mem_of_getElem? (i := 49) rfl))) (Or.inr (hw _ (List.mem_of_getElem? (i := 59) rfl))) (by decide) (t := .boolean) (t' := (.object "java/lang/Object")) (by decide) (by decide)))
  replace F_fromStart_aa := F_fromStart_aa.other W7 (Or.inr (slot_ne (Or.inr (hw _ (List.mem_of_getElem? (i := 51) rfl))) (Or.inr (hw _ (List.mem_of_getElem? (i := 59) rfl))) (by decide) (t := .boolean) (t' := (.object "java/lang/Object")) (by decide) (by decide)))
  replace F_lo_aa := F_lo_aa.other W7 (Or.inr (slot_ne (Or.inr (hw _ (List.mem_of_getElem? (i := 53) rfl))) (Or.inr (hw _ (List.mem_of_getElem? (i := 59) rfl))) (by decide) (t := (.object "java/lang/Object")) (t' := (.object "java/lang/Object")) (by decide) (by decide)))
  replace F_loInclusive_aa := F_loInclusive_aa.other W7 (Or.inr (slot_ne (Or.inr (hw _ (List.mem_of_getElem? (i := 55) rfl))) (Or.inr (hw _ (List.mem_of_getElem? (i := 59) rfl))) (by decide) (t := .boolean) (t' := (.object "java/lang/Object")) (by decide) (by decide)))
  replace F_toEnd_aa := F_toEnd_aa.other W7 (Or.inr (slot_ne (Or.inr (hw _ (List.mem_of_getElem? (i := 57) rfl))) (Or.inr (hw _ (List.mem_of_getElem? (i := 59) rfl))) (by decide) (t := .boolean) (t' := (.object "java/lang/Object")) (by decide) (by decide)))
  replace F_hiInclusive_aa := F_hiInclusive_aa.other W7 (Or.inr (slot_ne (Or.inr (hw _ (List.mem_of_getElem? (i := 61) rfl))) (Or.inr (hw _ (List.mem_of_getElem? (i := 59) rfl))) (by decide) (t := .boolean) (t' := (.object "java/lang/Object")) (by decide) (by decide)))
  replace E_aa := E_aa.wr W7
  have Z7 := Nat.le_trans Z6 (Keep.of_wr W7).1
  have N7 := Fr.snoc X7 N6 g_aa
  have K7 := K6.wr W7 (Or.inl (List.mem_of_getElem? (i := 0) rfl))
  replace F_hi_aa := F_hi_aa.same W7
  refine Go.step st7 ?_
  show Go _ _ _ _ _ _ _ (T7.setTop (mkF m 37 #[.val (.ref aa), .val (.int ds), .val (.int fs), .val .null, .val (.int li), .val (.int te), .val (.ref xh), .val (.int hi)] []))
  refine Go.step (fun t k => XS.aloadN X7.here hx rfl (hb hby d7_37) rfl rfl k) ?_
  show Go _ _ _ _ _ _ _ (T7.setTop (mkF m 38 #[.val (.ref aa), .val (.int ds), .val (.int fs), .val .null, .val (.int li), .val (.int te), .val (.ref xh), .val (.int hi)] [(.ref aa)]))
  refine Go.step (fun t k => XS.iload X7.here hx rfl (hb hby d7_38) rfl k) ?_
  show Go _ _ _ _ _ _ _ (T7.setTop (mkF m 40 #[.val (.ref aa), .val (.int ds), .val (.int fs), .val .null, .val (.int li), .val (.int te), .val (.ref xh), .val (.int hi)] [(.int hi), (.ref aa)]))
  obtain ⟨T8, h8, X8, e8, W8, st8⟩ := putFN X7 hx hZ hown (hw _ (List.mem_of_getElem? (i := 60) rfl)) Via.refl e7 F_hiInclusive_aa E_aa (Or.inr ⟨(hw _ (List.mem_of_getElem? (i := 61) rfl)), rfl, hnm⟩) (hw _ (List.mem_of_getElem? (i := 37) rfl)) (ty := .boolean) (v' := (.int hi)) (by decide) (own_nz h_hi) (own_fz h_hi) (g := (mkF m 40 #[.val (.ref aa), .val (.int ds), .val (.int fs), .val .null, .val (.int li), .val (.int te), .val (.ref xh), .val (.int hi)] [(.int hi), (.ref aa)])) rfl rfl (hb hby d7_40)
  replace F_descending_aa := F_descending_aa.other W8 (Or.inr (slot_ne (Or.inr (hw _ (List.mem_of_getElem? (i := 49) rfl))) (Or.inr (hw _ (List.mem_of_getElem? (i := 61) rfl))) (by decide) (t := .boolean) (t' := .boolean) (by decide) (by decide)))
  replace F_fromStart_aa := F_fromStart_aa.other W8 (Or.inr (slot_ne (Or.inr (hw _ (List.mem_of_getElem? (i := 51) rfl))) (Or.inr (hw _ (List.mem_of_getElem? (i := 61) rfl))) (by decide) (t := .boolean) (t' := .boolean) (by decide) (by decide)))
  replace F_lo_aa := F_lo_aa.other W8 (Or.inr (slot_ne (Or.inr (hw _ (List.mem_of_getElem? (i := 53) rfl))) (Or.inr (hw _ (List.mem_of_getElem? (i := 61) rfl))) (by decide) (t := (.object "java/lang/Object")) (t' := .boolean) (by decide) (by decide)))
  replace F_loInclusive_aa := F_loInclusive_aa.other W8 (Or.inr (slot_ne (Or.inr (hw _ (List.mem_of_getElem? (i := 55) rfl))) (Or.inr (hw _ (List.mem_of_getElem? (i := 61) rfl))) (by decide) (t := .boolean) (t' := .boolean) (by decide) (by decide)))
  replace F_toEnd_aa := F_toEnd_aa.other W8 (Or.inr (slot_ne (Or.inr (hw _ (List.mem_of_getElem? (i := 57) rfl))) (Or.inr (hw _ (List.mem_of_getElem? (i := 61) rfl))) (by decide) (t := .boolean) (t' := .boolean) (by decide) (by decide)))
  replace F_hi_aa := F_hi_aa.other W8 (Or.inr (slot_ne (Or.inr (hw _ (List.mem_of_getElem? (i := 59) rfl))) (Or.inr (hw _ (List.mem_of_getElem? (i := 61) rfl))) (by decide) (t := (.object "java/lang/Object")) (t' := .boolean) (by decide) (by decide)))
  replace E_aa := E_aa.wr W8
  have Z8 := Nat.le_trans Z7 (Keep.of_wr W8).1
  have N8 := Fr.snoc X8 N7 g_aa
  have K8 := K7.wr W8 (Or.inl (List.mem_of_getElem? (i := 0) rfl))
  replace F_hiInclusive_aa := F_hiInclusive_aa.same W8
  refine Go.step st8 ?_
  show Go _ _ _ _ _ _ _ (T8.setTop (mkF m 43 #[.val (.ref aa), .val (.int ds), .val (.int fs), .val .null, .val (.int li), .val (.int te), .val (.ref xh), .val (.int hi)] []))
  refine Go.retV X8 Bd.notSynchronized hx Bd.returns (hb hby d7_43) (by decide) (by decide) ?_
  rw [e8]
  exact ⟨rfl, N8, K8, F_descending_aa, F_fromStart_aa, F_lo_aa, F_loInclusive_aa, F_toEnd_aa, F_hi_aa, F_hiInclusive_aa⟩
theorem pn_7_11 : plainName "com/example/rootkeep/rootkeep/KeyRange" = true := by first | (simp [plainName, overriddenIn]; done) | decide +kernel
theorem pd_7_0_11 : parseMethodDescriptor "()V" = some ⟨[], none⟩ := by decide +kernel
theorem ef_7_11 (m : MethodId) (x0 : Addr) (x1 : Int32) (x2 : Int32) (x3 : Int32) (x4 : Int32) (x5 : Int32) : entryFrame m #[(.ref x0), (.int x1), (.int x2), .null, (.int x3), (.int x4), .null, (.int x5)] 8 = mkF m 0 #[.val (.ref x0), .val (.int x1), .val (.int x2), .val .null, .val (.int x3), .val (.int x4), .val .null, .val (.int x5)] [] := by first | (simp [entryFrame, mkF, argsToLocals, Value.category]; done) | rfl
def Q7_11 (Z : State) (aa : Addr) (ds : Int32) (fs : Int32) (li : Int32) (te : Int32) (hi : Int32) (h0 : Heap) (n0 : Nat) (v : Option Value) (h : Heap) (L : List Loc) : Prop := v = none ∧ Fr n0 L ∧ Keep h0 h [aa] ∧ Fld Z h aa "com/example/rootkeep/rootkeep/KeyRange" "descending" "Z" (.int ds) ∧ Fld Z h aa "com/example/rootkeep/rootkeep/KeyRange" "fromStart" "Z" (.int fs) ∧ Fld Z h aa "com/example/rootkeep/rootkeep/KeyRange" "lo" "Ljava/lang/Object;" .null ∧ Fld Z h aa "com/example/rootkeep/rootkeep/KeyRange" "loInclusive" "Z" (.int li) ∧ Fld Z h aa "com/example/rootkeep/rootkeep/KeyRange" "toEnd" "Z" (.int te) ∧ Fld Z h aa "com/example/rootkeep/rootkeep/KeyRange" "hi" "Ljava/lang/Object;" .null ∧ Fld Z h aa "com/example/rootkeep/rootkeep/KeyRange" "hiInclusive" "Z" (.int hi)
set_option maxRecDepth 65536 in
set_option maxHeartbeats 40000000 in
theorem rm7_11 (l : Launch) (Z : State) (a0 : Array Value) (hw : ∀ d ∈ tables_1, d.before a0 Z = true) (ws : List Jvm.Cond) (aa : Addr) (ds : Int32) (fs : Int32) (li : Int32) (te : Int32) (hi : Int32) (h0 : Heap) (n0 : Nat) (Z0 : n0 ≤ h0.size) (F_descending_aa : Fld Z h0 aa "com/example/rootkeep/rootkeep/KeyRange" "descending" "Z" (.int (0 : Int32))) (F_fromStart_aa : Fld Z h0 aa "com/example/rootkeep/rootkeep/KeyRange" "fromStart" "Z" (.int (0 : Int32))) (F_lo_aa : Fld Z h0 aa "com/example/rootkeep/rootkeep/KeyRange" "lo" "Ljava/lang/Object;" .null) (F_loInclusive_aa : Fld Z h0 aa "com/example/rootkeep/rootkeep/KeyRange" "loInclusive" "Z" (.int (0 : Int32))) (F_toEnd_aa : Fld Z h0 aa "com/example/rootkeep/rootkeep/KeyRange" "toEnd" "Z" (.int (0 : Int32))) (F_hi_aa : Fld Z h0 aa "com/example/rootkeep/rootkeep/KeyRange" "hi" "Ljava/lang/Object;" .null) (F_hiInclusive_aa : Fld Z h0 aa "com/example/rootkeep/rootkeep/KeyRange" "hiInclusive" "Z" (.int (0 : Int32))) (E_aa : Exa Z h0 aa "com/example/rootkeep/rootkeep/KeyRange") (g_aa : n0 ≤ aa) (h_ds : (ds = 0 ∨ ds = 1)) (h_fs : (fs = 0 ∨ fs = 1)) (h_li : (li = 0 ∨ li = 1)) (h_te : (te = 0 ∨ te = 1)) (h_hi : (hi = 0 ∨ hi = 1)) :
    MetFree l (⟨"com/example/rootkeep/rootkeep/KeyRange", "<init>", "(ZZLjava/lang/Object;ZZLjava/lang/Object;Z)V"⟩ : MethodName) (head1 (Jvm.Cond.code (⟨"com/example/rootkeep/rootkeep/KeyRange", "<init>", "(ZZLjava/lang/Object;ZZLjava/lang/Object;Z)V"⟩ : MethodName) prog_1_method_1_code 8 none :: ws) ({ frames := 2, cells := 0, slots := 0, locals := 24 } : Room)) (fun a U => a = #[(.ref aa), (.int ds), (.int fs), .null, (.int li), (.int te), .null, (.int hi)] ∧ Z.Warmed39 U.vm ∧ U.heap = h0) (fun _ _ _ _ _ => True) (fun _ U o U' => ∃ v L, o = .returned v ∧ Q7_11 Z aa ds fs li te hi h0 n0 v U'.heap L ∧ FrameEnd U o U' L ({ frames := 2, cells := 0, slots := 0, locals := 24 } : Room).cells ({ frames := 2, cells := 0, slots := 0, locals := 24 } : Room).slots) := by
  refine MetFree.of_bodySF (plainFor_of_name pn_7_11) hisR ?_
  intro p e s m args below meth c s₁ Bd hml0 hP hK
  obtain ⟨rfl, hZ, hh⟩ := hP
  have hx := Bd.exec
  have hby := Bd.bytes
  have hml : c.maxLocals = 8 := hml0
  have hown : s.vm.findClass "com/example/rootkeep/rootkeep/KeyRange" = some m.cls := findClass_of_methodNamed Bd.named
  have hnm := (name_of_methodNamed Bd.named Bd.method).1
  have X0 : Stand p l e ({ frames := 2, cells := 0, slots := 0, locals := 24 } : Room) s m #[(.ref aa), (.int ds), (.int fs), .null, (.int li), (.int te), .null, (.int hi)] below meth c s₁ [] 0 0 := Stand.of_body Bd
  have e0 : s₁.heap = h0 := by rw [← hh, Bd.state]; rfl
  have N0 := Fr.nil n0
  have K0 := Keep.refl h0 ([aa] : List Addr)
  show Go p e below s (Q7_11 Z aa ds fs li te hi h0 n0) ({ frames := 2, cells := 0, slots := 0, locals := 24 } : Room).cells ({ frames := 2, cells := 0, slots := 0, locals := 24 } : Room).slots (s₁.setTop (entryFrame m #[(.ref aa), (.int ds), (.int fs), .null, (.int li), (.int te), .null, (.int hi)] 8))
  rw [ef_7_11]
  show Go _ _ _ _ _ _ _ (s₁.setTop (mkF m 0 #[.val (.ref aa), .val (.int ds), .val (.int fs), .val .null, .val (.int li), .val (.int te), .val .null, .val (.int hi)] []))
  refine Go.step (fun t k => XS.aloadN X0.here hx rfl (hb hby d7_0) rfl rfl k) ?_
  show Go _ _ _ _ _ _ _ (s₁.setTop (mkF m 1 #[.val (.ref aa), .val (.int ds), .val (.int fs), .val .null, .val (.int li), .val (.int te), .val .null, .val (.int hi)] [(.ref aa)]))
  obtain ⟨_, _, ⟨T1, L1, k1, n1⟩, -, X1, ⟨Lc1, hQ1, l1, y1, z1⟩, st1⟩ := X0.specialBack hx (y := (⟨"java/lang/Record", "<init>", "()V"⟩ : MethodName)) rfl hown (mvT hZ (hw _ (List.mem_of_getElem? (i := 42) rfl))) (mvT hZ (hw _ (List.mem_of_getElem? (i := 43) rfl))) (mvT hZ (hw _ (List.mem_of_getElem? (i := 46) rfl))) (by decide) (backOf (W := 0) (rm8 l Z a0 hw [] aa h0 n0 Z0) hZ (hw _ (List.mem_of_getElem? (i := 46) rfl)) (hw _ (List.mem_of_getElem? (i := 45) rfl)) (by decide) (by decide)) (g := (mkF m 1 #[.val (.ref aa), .val (.int ds), .val (.int fs), .val .null, .val (.int li), .val (.int te), .val .null, .val (.int hi)] [(.ref aa)])) rfl (by rw [hml]; rfl) (Steps.refl _) (a := aa) (argsL := []) (rest := []) (lenOf pd_7_0_11 rfl) rfl (by show 2 * 0 + _ ≤ _; exact Nat.le_of_eq rfl) (hb hby d7_1) (fun _ _ => ⟨rfl, e0, (by decide : 0 + 0 ≤ _), (by decide : 0 + 0 ≤ _)⟩)
  dsimp only [Pt.U, Pt.locs, Pt.cells, Pt.slots] at X1 l1 y1 z1 st1 hQ1
  subst l1 y1 z1
  obtain ⟨rfl, N1q, K1q⟩ := hQ1
  have N1 := Fr.app N0 N1q
  refine Go.step (fun t k => st1.trans k) ?_
  show Go _ _ _ _ _ _ _ (T1.setTop (mkF m 4 #[.val (.ref aa), .val (.int ds), .val (.int fs), .val .null, .val (.int li), .val (.int te), .val .null, .val (.int hi)] []))
  refine Go.step (fun t k => XS.aloadN X1.here hx rfl (hb hby d7_4) rfl rfl k) ?_
  show Go _ _ _ _ _ _ _ (T1.setTop (mkF m 5 #[.val (.ref aa), .val (.int ds), .val (.int fs), .val .null, .val (.int li), .val (.int te), .val .null, .val (.int hi)] [(.ref aa)]))
  refine Go.step (fun t k => XS.iloadN X1.here hx rfl (hb hby d7_5) rfl k) ?_
  show Go _ _ _ _ _ _ _ (T1.setTop (mkF m 6 #[.val (.ref aa), .val (.int ds), .val (.int fs), .val .null, .val (.int li), .val (.int te), .val .null, .val (.int hi)] [(.int ds), (.ref aa)]))
  obtain ⟨T2, h2, X2, e2, W2, st2⟩ := putFN X1 hx hZ hown (hw _ (List.mem_of_getElem? (i := 48) rfl)) Via.refl K1q F_descending_aa E_aa (Or.inr ⟨(hw _ (List.mem_of_getElem? (i := 49) rfl)), rfl, hnm⟩) (hw _ (List.mem_of_getElem? (i := 37) rfl)) (ty := .boolean) (v' := (.int ds)) (by decide) (own_nz h_ds) (own_fz h_ds) (g := (mkF m 6 #[.val (.ref aa), .val (.int ds), .val (.int fs), .val .null, .val (.int li), .val (.int te), .val .null, .val (.int hi)] [(.int ds), (.ref aa)])) rfl rfl (hb hby d7_6)
  replace F_fromStart_aa := F_fromStart_aa.other W2 (Or.inr (slot_ne (Or.inr (hw _ (List.mem_of_getElem? (i := 51) rfl))) (Or.inr (hw _ (List.mem_of_getElem? (i := 49) rfl))) (by decide) (t := .boolean) (t' := .boolean) (by decide) (by decide)))
  replace F_lo_aa := F_lo_aa.other W2 (Or.inr (slot_ne (Or.inr (hw _ (List.mem_of_getElem? (i := 53) rfl))) (Or.inr (hw _ (List.mem_of_getElem? (i := 49) rfl))) (by decide) (t := (.object "java/lang/Object")) (t' := .boolean) (by decide) (by decide)))
  replace F_loInclusive_aa := F_loInclusive_aa.other W2 (Or.inr (slot_ne (Or.inr (hw _ (List.mem_of_getElem? (i := 55) rfl))) (Or.inr (hw _ (List.mem_of_getElem? (i := 49) rfl))) (by decide) (t := .boolean) (t' := .boolean) (by decide) (by decide)))
  replace F_toEnd_aa := F_toEnd_aa.other W2 (Or.inr (slot_ne (Or.inr (hw _ (List.mem_of_getElem? (i := 57) rfl))) (Or.inr (hw _ (List.mem_of_getElem? (i := 49) rfl))) (by decide) (t := .boolean) (t' := .boolean) (by decide) (by decide)))
  replace F_hi_aa := F_hi_aa.other W2 (Or.inr (slot_ne (Or.inr (hw _ (List.mem_of_getElem? (i := 59) rfl))) (Or.inr (hw _ (List.mem_of_getElem? (i := 49) rfl))) (by decide) (t := (.object "java/lang/Object")) (t' := .boolean) (by decide) (by decide)))
  replace F_hiInclusive_aa := F_hiInclusive_aa.other W2 (Or.inr (slot_ne (Or.inr (hw _ (List.mem_of_getElem? (i := 61) rfl))) (Or.inr (hw _ (List.mem_of_getElem? (i := 49) rfl))) (by decide) (t := .boolean) (t' := .boolean) (by decide) (by decide)))
  replace E_aa := E_aa.wr W2
  have Z2 := Nat.le_trans Z0 (Keep.of_wr W2).1
  have N2 := Fr.snoc X2 N1 g_aa
  have K2 := K0.wr W2 (Or.inl (List.mem_of_getElem? (i := 0) rfl))
  replace F_descending_aa := F_descending_aa.same W2
  refine Go.step st2 ?_
  show Go _ _ _ _ _ _ _ (T2.setTop (mkF m 9 #[.val (.ref aa), .val (.int ds), .val (.int fs), .val .null, .val (.int li), .val (.int te), .val .null, .val (.int hi)] []))
  refine Go.step (fun t k => XS.aloadN X2.here hx rfl (hb hby d7_9) rfl rfl k) ?_
  show Go _ _ _ _ _ _ _ (T2.setTop (mkF m 10 #[.val (.ref aa), .val (.int ds), .val (.int fs), .val .null, .val (.int li), .val (.int te), .val .null, .val (.int hi)] [(.ref aa)]))
  refine Go.step (fun t k => XS.iloadN X2.here hx rfl (hb hby d7_10) rfl k) ?_
  show Go _ _ _ _ _ _ _ (T2.setTop (mkF m 11 #[.val (.ref aa), .val (.int ds), .val (.int fs), .val .null, .val (.int li), .val (.int te), .val .null, .val (.int hi)] [(.int fs), (.ref aa)]))
  obtain ⟨T3, h3, X3, e3, W3, st3⟩ := putFN X2 hx hZ hown (hw _ (List.mem_of_getElem? (i := 50) rfl)) Via.refl e2 F_fromStart_aa E_aa (Or.inr ⟨(hw _ (List.mem_of_getElem? (i := 51) rfl)), rfl, hnm⟩) (hw _ (List.mem_of_getElem? (i := 37) rfl)) (ty := .boolean) (v' := (.int fs)) (by decide) (own_nz h_fs) (own_fz h_fs) (g := (mkF m 11 #[.val (.ref aa), .val (.int ds), .val (.int fs), .val .null, .val (.int li), .val (.int te), .val .null, .val (.int hi)] [(.int fs), (.ref aa)])) rfl rfl (hb hby d7_11)
  replace F_descending_aa := F_descending_aa.other W3 (Or.inr (slot_ne (Or.inr (hw _ (List.mem_of_getElem? (i := 49) rfl))) (Or.inr (hw _ (List.mem_of_getElem? (i := 51) rfl))) (by decide) (t := .boolean) (t' := .boolean) (by decide) (by decide)))
  replace F_lo_aa := F_lo_aa.other W3 (Or.inr (slot_ne (Or.inr (hw _ (List.mem_of_getElem? (i := 53) rfl))) (Or.inr (hw _ (List.mem_of_getElem? (i := 51) rfl))) (by decide) (t := (.object "java/lang/Object")) (t' := .boolean) (by decide) (by decide)))
  replace F_loInclusive_aa := F_loInclusive_aa.other W3 (Or.inr (slot_ne (Or.inr (hw _ (List.mem_of_getElem? (i := 55) rfl))) (Or.inr (hw _ (List.mem_of_getElem? (i := 51) rfl))) (by decide) (t := .boolean) (t' := .boolean) (by decide) (by decide)))
  replace F_toEnd_aa := F_toEnd_aa.other W3 (Or.inr (slot_ne (Or.inr (hw _ (List.mem_of_getElem? (i := 57) rfl))) (Or.inr (hw _ (List.mem_of_getElem? (i := 51) rfl))) (by decide) (t := .boolean) (t' := .boolean) (by decide) (by decide)))
  replace F_hi_aa := F_hi_aa.other W3 (Or.inr (slot_ne (Or.inr (hw _ (List.mem_of_getElem? (i := 59) rfl))) (Or.inr (hw _ (List.mem_of_getElem? (i := 51) rfl))) (by decide) (t := (.object "java/lang/Object")) (t' := .boolean) (by decide) (by decide)))
  replace F_hiInclusive_aa := F_hiInclusive_aa.other W3 (Or.inr (slot_ne (Or.inr (hw _ (List.mem_of_getElem? (i := 61) rfl))) (Or.inr (hw _ (List.mem_of_getElem? (i := 51) rfl))) (by decide) (t := .boolean) (t' := .boolean) (by decide) (by decide)))
  replace E_aa := E_aa.wr W3
  have Z3 := Nat.le_trans Z2 (Keep.of_wr W3).1
  have N3 := Fr.snoc X3 N2 g_aa
  have K3 := K2.wr W3 (Or.inl (List.mem_of_getElem? (i := 0) rfl))
  replace F_fromStart_aa := F_fromStart_aa.same W3
  refine Go.step st3 ?_
  show Go _ _ _ _ _ _ _ (T3.setTop (mkF m 14 #[.val (.ref aa), .val (.int ds), .val (.int fs), .val .null, .val (.int li), .val (.int te), .val .null, .val (.int hi)] []))
  refine Go.step (fun t k => XS.aloadN X3.here hx rfl (hb hby d7_14) rfl rfl k) ?_
  show Go _ _ _ _ _ _ _ (T3.setTop (mkF m 15 #[.val (.ref aa), .val (.int ds), .val (.int fs), .val .null, .val (.int li), .val (.int te), .val .null, .val (.int hi)] [(.ref aa)]))
  refine Go.step (fun t k => XS.aloadN X3.here hx rfl (hb hby d7_15) rfl rfl k) ?_
  show Go _ _ _ _ _ _ _ (T3.setTop (mkF m 16 #[.val (.ref aa), .val (.int ds), .val (.int fs), .val .null, .val (.int li), .val (.int te), .val .null, .val (.int hi)] [.null, (.ref aa)]))
  obtain ⟨T4, h4, X4, e4, W4, st4⟩ := putF X3 hx hZ hown (host := "") (Or.inl (hw _ (List.mem_of_getElem? (i := 52) rfl))) Via.refl e3 F_lo_aa E_aa (Or.inr ⟨(hw _ (List.mem_of_getElem? (i := 53) rfl)), rfl, hnm⟩) (hw _ (List.mem_of_getElem? (i := 37) rfl)) (ty := (.object "java/lang/Object")) (by decide) rfl rfl (g := (mkF m 16 #[.val (.ref aa), .val (.int ds), .val (.int fs), .val .null, .val (.int li), .val (.int te), .val .null, .val (.int hi)] [.null, (.ref aa)])) rfl rfl (hb hby d7_16)
  replace F_descending_aa := F_descending_aa.other W4 (Or.inr (slot_ne (Or.inr (hw _ (List.mem_of_getElem? (i := 49) rfl))) (Or.inr (hw _ (List.mem_of_getElem? (i := 53) rfl))) (by decide) (t := .boolean) (t' := (.object "java/lang/Object")) (by decide) (by decide)))
  replace F_fromStart_aa := F_fromStart_aa.other W4 (Or.inr (slot_ne (Or.inr (hw _ (List.mem_of_getElem? (i := 51) rfl))) (Or.inr (hw _ (List.mem_of_getElem? (i := 53) rfl))) (by decide) (t := .boolean) (t' := (.object "java/lang/Object")) (by decide) (by decide)))
  replace F_loInclusive_aa := F_loInclusive_aa.other W4 (Or.inr (slot_ne (Or.inr (hw _ (List.mem_of_getElem? (i := 55) rfl))) (Or.inr (hw _ (List.mem_of_getElem? (i := 53) rfl))) (by decide) (t := .boolean) (t' := (.object "java/lang/Object")) (by decide) (by decide)))
  replace F_toEnd_aa := F_toEnd_aa.other W4 (Or.inr (slot_ne (Or.inr (hw _ (List.mem_of_getElem? (i := 57) rfl))) (Or.inr (hw _ (List.mem_of_getElem? (i := 53) rfl))) (by decide) (t := .boolean) (t' := (.object "java/lang/Object")) (by decide) (by decide)))
  replace F_hi_aa := F_hi_aa.other W4 (Or.inr (slot_ne (Or.inr (hw _ (List.mem_of_getElem? (i := 59) rfl))) (Or.inr (hw _ (List.mem_of_getElem? (i := 53) rfl))) (by decide) (t := (.object "java/lang/Object")) (t' := (.object "java/lang/Object")) (by decide) (by decide)))
  replace F_hiInclusive_aa := F_hiInclusive_aa.other W4 (Or.inr (slot_ne (Or.inr (hw _ (List.mem_of_getElem? (i := 61) rfl))) (Or.inr (hw _ (List.mem_of_getElem? (i := 53) rfl))) (by decide) (t := .boolean) (t' := (.object "java/lang/Object")) (by decide) (by decide)))
  replace E_aa := E_aa.wr W4
  have Z4 := Nat.le_trans Z3 (Keep.of_wr W4).1
  have N4 := Fr.snoc X4 N3 g_aa
  have K4 := K3.wr W4 (Or.inl (List.mem_of_getElem? (i := 0) rfl))
  replace F_lo_aa := F_lo_aa.same W4
  refine Go.step st4 ?_
  show Go _ _ _ _ _ _ _ (T4.setTop (mkF m 19 #[.val (.ref aa), .val (.int ds), .val (.int fs), .val .null, .val (.int li), .val (.int te), .val .null, .val (.int hi)] []))
  refine Go.step (fun t k => XS.aloadN X4.here hx rfl (hb hby d7_19) rfl rfl k) ?_
  show Go _ _ _ _ _ _ _ (T4.setTop (mkF m 20 #[.val (.ref aa), .val (.int ds), .val (.int fs), .val .null, .val (.int li), .val (.int te), .val .null, .val (.int hi)] [(.ref aa)]))
  refine Go.step (fun t k => XS.iload X4.here hx rfl (hb hby d7_20) rfl k) ?_
  show Go _ _ _ _ _ _ _ (T4.setTop (mkF m 22 #[.val (.ref aa), .val (.int ds), .val (.int fs), .val .null, .val (.int li), .val (.int te), .val .null, .val (.int hi)] [(.int li), (.ref aa)]))
  obtain ⟨T5, h5, X5, e5, W5, st5⟩ := putFN X4 hx hZ hown (hw _ (List.mem_of_getElem? (i := 54) rfl)) Via.refl e4 F_loInclusive_aa E_aa (Or.inr ⟨(hw _ (List.mem_of_getElem? (i := 55) rfl)), rfl, hnm⟩) (hw _ (List.mem_of_getElem? (i := 37) rfl)) (ty := .boolean) (v' := (.int li)) (by decide) (own_nz h_li) (own_fz h_li) (g := (mkF m 22 #[.val (.ref aa), .val (.int ds), .val (.int fs), .val .null, .val (.int li), .val (.int te), .val .null, .val (.int hi)] [(.int li), (.ref aa)])) rfl rfl (hb hby d7_22)
  replace F_descending_aa := F_descending_aa.other W5 (Or.inr (slot_ne (Or.inr (hw _ (List.mem_of_getElem? (i := 49) rfl))) (Or.inr (hw _ (List.mem_of_getElem? (i := 55) rfl))) (by decide) (t := .boolean) (t' := .boolean) (by decide) (by decide)))
  replace F_fromStart_aa := F_fromStart_aa.other W5 (Or.inr (slot_ne (Or.inr (hw _ (List.mem_of_getElem? (i := 51) rfl))) (Or.inr (hw _ (List.mem_of_getElem? (i := 55) rfl))) (by decide) (t := .boolean) (t' := .boolean) (by decide) (by decide)))
  replace F_lo_aa := F_lo_aa.other W5 (Or.inr (slot_ne (Or.inr (hw _ (List.mem_of_getElem? (i := 53) rfl))) (Or.inr (hw _ (List.mem_of_getElem? (i := 55) rfl))) (by decide) (t := (.object "java/lang/Object")) (t' := .boolean) (by decide) (by decide)))
  replace F_toEnd_aa := F_toEnd_aa.other W5 (Or.inr (slot_ne (Or.inr (hw _ (List.mem_of_getElem? (i := 57) rfl))) (Or.inr (hw _ (List.mem_of_getElem? (i := 55) rfl))) (by decide) (t := .boolean) (t' := .boolean) (by decide) (by decide)))
  replace F_hi_aa := F_hi_aa.other W5 (Or.inr (slot_ne (Or.inr (hw _ (List.mem_of_getElem? (i := 59) rfl))) (Or.inr (hw _ (List.mem_of_getElem? (i := 55) rfl))) (by decide) (t := (.object "java/lang/Object")) (t' := .boolean) (by decide) (by decide)))
  replace F_hiInclusive_aa := F_hiInclusive_aa.other W5 (Or.inr (slot_ne (Or.inr (hw _ (List.mem_of_getElem? (i := 61) rfl))) (Or.inr (hw _ (List.mem_of_getElem? (i := 55) rfl))) (by decide) (t := .boolean) (t' := .boolean) (by decide) (by decide)))
  replace E_aa := E_aa.wr W5
  have Z5 := Nat.le_trans Z4 (Keep.of_wr W5).1
  have N5 := Fr.snoc X5 N4 g_aa
  have K5 := K4.wr W5 (Or.inl (List.mem_of_getElem? (i := 0) rfl))
  replace F_loInclusive_aa := F_loInclusive_aa.same W5
  refine Go.step st5 ?_
  show Go _ _ _ _ _ _ _ (T5.setTop (mkF m 25 #[.val (.ref aa), .val (.int ds), .val (.int fs), .val .null, .val (.int li), .val (.int te), .val .null, .val (.int hi)] []))
  refine Go.step (fun t k => XS.aloadN X5.here hx rfl (hb hby d7_25) rfl rfl k) ?_
  show Go _ _ _ _ _ _ _ (T5.setTop (mkF m 26 #[.val (.ref aa), .val (.int ds), .val (.int fs), .val .null, .val (.int li), .val (.int te), .val .null, .val (.int hi)] [(.ref aa)]))
  refine Go.step (fun t k => XS.iload X5.here hx rfl (hb hby d7_26) rfl k) ?_
  show Go _ _ _ _ _ _ _ (T5.setTop (mkF m 28 #[.val (.ref aa), .val (.int ds), .val (.int fs), .val .null, .val (.int li), .val (.int te), .val .null, .val (.int hi)] [(.int te), (.ref aa)]))
  obtain ⟨T6, h6, X6, e6, W6, st6⟩ := putFN X5 hx hZ hown (hw _ (List.mem_of_getElem? (i := 56) rfl)) Via.refl e5 F_toEnd_aa E_aa (Or.inr ⟨(hw _ (List.mem_of_getElem? (i := 57) rfl)), rfl, hnm⟩) (hw _ (List.mem_of_getElem? (i := 37) rfl)) (ty := .boolean) (v' := (.int te)) (by decide) (own_nz h_te) (own_fz h_te) (g := (mkF m 28 #[.val (.ref aa), .val (.int ds), .val (.int fs), .val .null, .val (.int li), .val (.int te), .val .null, .val (.int hi)] [(.int te), (.ref aa)])) rfl rfl (hb hby d7_28)
  replace F_descending_aa := F_descending_aa.other W6 (Or.inr (slot_ne (Or.inr (hw _ (List.mem_of_getElem? (i := 49) rfl))) (Or.inr (hw _ (List.mem_of_getElem? (i := 57) rfl))) (by decide) (t := .boolean) (t' := .boolean) (by decide) (by decide)))
  replace F_fromStart_aa := F_fromStart_aa.other W6 (Or.inr (slot_ne (Or.inr (hw _ (List.mem_of_getElem? (i := 51) rfl))) (Or.inr (hw _ (List.mem_of_getElem? (i := 57) rfl))) (by decide) (t := .boolean) (t' := .boolean) (by decide) (by decide)))
  replace F_lo_aa := F_lo_aa.other W6 (Or.inr (slot_ne (Or.inr (hw _ (List.mem_of_getElem? (i := 53) rfl))) (Or.inr (hw _ (List.mem_of_getElem? (i := 57) rfl))) (by decide) (t := (.object "java/lang/Object")) (t' := .boolean) (by decide) (by decide)))
  replace F_loInclusive_aa := F_loInclusive_aa.other W6 (Or.inr (slot_ne (Or.inr (hw _ (List.mem_of_getElem? (i := 55) rfl))) (Or.inr (hw _ (List.mem_of_getElem? (i := 57) rfl))) (by decide) (t := .boolean) (t' := .boolean) (by decide) (by decide)))
  replace F_hi_aa := F_hi_aa.other W6 (Or.inr (slot_ne (Or.inr (hw _ (List.mem_of_getElem? (i := 59) rfl))) (Or.inr (hw _ (List.mem_of_getElem? (i := 57) rfl))) (by decide) (t := (.object "java/lang/Object")) (t' := .boolean) (by decide) (by decide)))
  replace F_hiInclusive_aa := F_hiInclusive_aa.other W6 (Or.inr (slot_ne (Or.inr (hw _ (List.mem_of_getElem? (i := 61) rfl))) (Or.inr (hw _ (List.mem_of_getElem? (i := 57) rfl))) (by decide) (t := .boolean) (t' := .boolean) (by decide) (by decide)))
  replace E_aa := E_aa.wr W6
  have Z6 := Nat.le_trans Z5 (Keep.of_wr W6).1
  have N6 := Fr.snoc X6 N5 g_aa
  have K6 := K5.wr W6 (Or.inl (List.mem_of_getElem? (i := 0) rfl))
  replace F_toEnd_aa := F_toEnd_aa.same W6
  refine Go.step st6 ?_
  show Go _ _ _ _ _ _ _ (T6.setTop (mkF m 31 #[.val (.ref aa), .val (.int ds), .val (.int fs), .val .null, .val (.int li), .val (.int te), .val .null, .val (.int hi)] []))
  refine Go.step (fun t k => XS.aloadN X6.here hx rfl (hb hby d7_31) rfl rfl k) ?_
  show Go _ _ _ _ _ _ _ (T6.setTop (mkF m 32 #[.val (.ref aa), .val (.int ds), .val (.int fs), .val .null, .val (.int li), .val (.int te), .val .null, .val (.int hi)] [(.ref aa)]))
  refine Go.step (fun t k => XS.aload X6.here hx rfl (hb hby d7_32) rfl rfl k) ?_
  show Go _ _ _ _ _ _ _ (T6.setTop (mkF m 34 #[.val (.ref aa), .val (.int ds), .val (.int fs), .val .null, .val (.int li), .val (.int te), .val .null, .val (.int hi)] [.null, (.ref aa)]))
  obtain ⟨T7, h7, X7, e7, W7, st7⟩ := putF X6 hx hZ hown (host := "") (Or.inl (hw _ (List.mem_of_getElem? (i := 58) rfl))) Via.refl e6 F_hi_aa E_aa (Or.inr ⟨(hw _ (List.mem_of_getElem? (i := 59) rfl)), rfl, hnm⟩) (hw _ (List.mem_of_getElem? (i := 37) rfl)) (ty := (.object "java/lang/Object")) (by decide) rfl rfl (g := (mkF m 34 #[.val (.ref aa), .val (.int ds), .val (.int fs), .val .null, .val (.int li), .val (.int te), .val .null, .val (.int hi)] [.null, (.ref aa)])) rfl rfl (hb hby d7_34)
  replace F_descending_aa := F_descending_aa.other W7 (Or.inr (slot_ne (Or.inr (hw _ (List.mem_of_getElem? (i := 49) rfl))) (Or.inr (hw _ (List.mem_of_getElem? (i := 59) rfl))) (by decide) (t := .boolean) (t' := (.object "java/lang/Object")) (by decide) (by decide)))
  replace F_fromStart_aa := F_fromStart_aa.other W7 (Or.inr (slot_ne (Or.inr (hw _ (List.mem_of_getElem? (i := 51) rfl))) (Or.inr (hw _ (List.mem_of_getElem? (i := 59) rfl))) (by decide) (t := .boolean) (t' := (.object "java/lang/Object")) (by decide) (by decide)))
  replace F_lo_aa := F_lo_aa.other W7 (Or.inr (slot_ne (Or.inr (hw _ (List.mem_of_getElem? (i := 53) rfl))) (Or.inr (hw _ (List.mem_of_getElem? (i := 59) rfl))) (by decide) (t := (.object "java/lang/Object")) (t' := (.object "java/lang/Object")) (by decide) (by decide)))
  replace F_loInclusive_aa := F_loInclusive_aa.other W7 (Or.inr (slot_ne (Or.inr (hw _ (List.mem_of_getElem? (i := 55) rfl))) (Or.inr (hw _ (List.mem_of_getElem? (i := 59) rfl))) (by decide) (t := .boolean) (t' := (.object "java/lang/Object")) (by decide) (by decide)))
  replace F_toEnd_aa := F_toEnd_aa.other W7 (Or.inr (slot_ne (Or.inr (hw _ (List.mem_of_getElem? (i := 57) rfl))) (Or.inr (hw _ (List.mem_of_getElem? (i := 59) rfl))) (by decide) (t := .boolean) (t' := (.object "java/lang/Object")) (by decide) (by decide)))
  replace F_hiInclusive_aa := F_hiInclusive_aa.other W7 (Or.inr (slot_ne (Or.inr (hw _ (List.mem_of_getElem? (i := 61) rfl))) (Or.inr (hw _ (List.mem_of_getElem? (i := 59) rfl))) (by decide) (t := .boolean) (t' := (.object "java/lang/Object")) (by decide) (by decide)))
  replace E_aa := E_aa.wr W7
  have Z7 := Nat.le_trans Z6 (Keep.of_wr W7).1
  have N7 := Fr.snoc X7 N6 g_aa
  have K7 := K6.wr W7 (Or.inl (List.mem_of_getElem? (i := 0) rfl))
  replace F_hi_aa := F_hi_aa.same W7
  refine Go.step st7 ?_
  show Go _ _ _ _ _ _ _ (T7.setTop (mkF m 37 #[.val (.ref aa), .val (.int ds), .val (.int fs), .val .null, .val (.int li), .val (.int te), .val .null, .val (.int hi)] []))
  refine Go.step (fun t k => XS.aloadN X7.here hx rfl (hb hby d7_37) rfl rfl k) ?_
  show Go _ _ _ _ _ _ _ (T7.setTop (mkF m 38 #[.val (.ref aa), .val (.int ds), .val (.int fs), .val .null, .val (.int li), .val (.int te), .val .null, .val (.int hi)] [(.ref aa)]))
  refine Go.step (fun t k => XS.iload X7.here hx rfl (hb hby d7_38) rfl k) ?_
  show Go _ _ _ _ _ _ _ (T7.setTop (mkF m 40 #[.val (.ref aa), .val (.int ds), .val (.int fs), .val .null, .val (.int li), .val (.int te), .val .null, .val (.int hi)] [(.int hi), (.ref aa)]))
  obtain ⟨T8, h8, X8, e8, W8, st8⟩ := putFN X7 hx hZ hown (hw _ (List.mem_of_getElem? (i := 60) rfl)) Via.refl e7 F_hiInclusive_aa E_aa (Or.inr ⟨(hw _ (List.mem_of_getElem? (i := 61) rfl)), rfl, hnm⟩) (hw _ (List.mem_of_getElem? (i := 37) rfl)) (ty := .boolean) (v' := (.int hi)) (by decide) (own_nz h_hi) (own_fz h_hi) (g := (mkF m 40 #[.val (.ref aa), .val (.int ds), .val (.int fs), .val .null, .val (.int li), .val (.int te), .val .null, .val (.int hi)] [(.int hi), (.ref aa)])) rfl rfl (hb hby d7_40)
  replace F_descending_aa := F_descending_aa.other W8 (Or.inr (slot_ne (Or.inr (hw _ (List.mem_of_getElem? (i := 49) rfl))) (Or.inr (hw _ (List.mem_of_getElem? (i := 61) rfl))) (by decide) (t := .boolean) (t' := .boolean) (by decide) (by decide)))
  replace F_fromStart_aa := F_fromStart_aa.other W8 (Or.inr (slot_ne (Or.inr (hw _ (List.mem_of_getElem? (i := 51) rfl))) (Or.inr (hw _ (List.mem_of_getElem? (i := 61) rfl))) (by decide) (t := .boolean) (t' := .boolean) (by decide) (by decide)))
  replace F_lo_aa := F_lo_aa.other W8 (Or.inr (slot_ne (Or.inr (hw _ (List.mem_of_getElem? (i := 53) rfl))) (Or.inr (hw _ (List.mem_of_getElem? (i := 61) rfl))) (by decide) (t := (.object "java/lang/Object")) (t' := .boolean) (by decide) (by decide)))
  replace F_loInclusive_aa := F_loInclusive_aa.other W8 (Or.inr (slot_ne (Or.inr (hw _ (List.mem_of_getElem? (i := 55) rfl))) (Or.inr (hw _ (List.mem_of_getElem? (i := 61) rfl))) (by decide) (t := .boolean) (t' := .boolean) (by decide) (by decide)))
  replace F_toEnd_aa := F_toEnd_aa.other W8 (Or.inr (slot_ne (Or.inr (hw _ (List.mem_of_getElem? (i := 57) rfl))) (Or.inr (hw _ (List.mem_of_getElem? (i := 61) rfl))) (by decide) (t := .boolean) (t' := .boolean) (by decide) (by decide)))
  replace F_hi_aa := F_hi_aa.other W8 (Or.inr (slot_ne (Or.inr (hw _ (List.mem_of_getElem? (i := 59) rfl))) (Or.inr (hw _ (List.mem_of_getElem? (i := 61) rfl))) (by decide) (t := (.object "java/lang/Object")) (t' := .boolean) (by decide) (by decide)))
  replace E_aa := E_aa.wr W8
  have Z8 := Nat.le_trans Z7 (Keep.of_wr W8).1
  have N8 := Fr.snoc X8 N7 g_aa
  have K8 := K7.wr W8 (Or.inl (List.mem_of_getElem? (i := 0) rfl))
  replace F_hiInclusive_aa := F_hiInclusive_aa.same W8
  refine Go.step st8 ?_
  show Go _ _ _ _ _ _ _ (T8.setTop (mkF m 43 #[.val (.ref aa), .val (.int ds), .val (.int fs), .val .null, .val (.int li), .val (.int te), .val .null, .val (.int hi)] []))
  refine Go.retV X8 Bd.notSynchronized hx Bd.returns (hb hby d7_43) (by decide) (by decide) ?_
  rw [e8]
  exact ⟨rfl, N8, K8, F_descending_aa, F_fromStart_aa, F_lo_aa, F_loInclusive_aa, F_toEnd_aa, F_hi_aa, F_hiInclusive_aa⟩
theorem d9_0 : decode prog_1_method_10_code 0 = .ok (.aload_n 0, 1) := by decide +kernel
theorem d9_1 : decode prog_1_method_10_code 1 = .ok (.getfield 13, 3) := by decide +kernel
theorem d9_4 : decode prog_1_method_10_code 4 = .ok (.ifCond .eq 14, 3) := by decide +kernel
theorem d9_7 : decode prog_1_method_10_code 7 = .ok (.aload_n 0, 1) := by decide +kernel
theorem d9_8 : decode prog_1_method_10_code 8 = .ok (.getfield 23, 3) := by decide +kernel
theorem d9_11 : decode prog_1_method_10_code 11 = .ok (.ifCond .eq 7, 3) := by decide +kernel
theorem d9_14 : decode prog_1_method_10_code 14 = .ok (.iconst 1, 1) := by decide +kernel
theorem d9_15 : decode prog_1_method_10_code 15 = .ok (.goto 4, 3) := by decide +kernel
theorem d9_18 : decode prog_1_method_10_code 18 = .ok (.iconst 0, 1) := by decide +kernel
theorem d9_19 : decode prog_1_method_10_code 19 = .ok (.ireturn, 1) := by decide +kernel
theorem pn_9 : plainName "com/example/rootkeep/rootkeep/KeyRange" = true := by first | (simp [plainName, overriddenIn]; done) | decide +kernel
theorem ef_9 (m : MethodId) (x0 : Addr) : entryFrame m #[(.ref x0)] 1 = mkF m 0 #[.val (.ref x0)] [] := by first | (simp [entryFrame, mkF, argsToLocals, Value.category]; done) | rfl
def Q9 (Z : State) (aa : Addr) (fs : Int32) (te : Int32) (h0 : Heap) (n0 : Nat) (v : Option Value) (h : Heap) (L : List Loc) : Prop := ∃ z : Int32, v = some (.int z) ∧ Fr n0 L ∧ h = h0 ∧ (z = (if fs = (0 : Int32) then (0 : Int32) else (if te = (0 : Int32) then (0 : Int32) else (1 : Int32))))
set_option maxRecDepth 65536 in
set_option maxHeartbeats 40000000 in
theorem rm9 (l : Launch) (Z : State) (a0 : Array Value) (hw : ∀ d ∈ tables_1, d.before a0 Z = true) (ws : List Jvm.Cond) (aa : Addr) (fs : Int32) (te : Int32) (h0 : Heap) (n0 : Nat) (Z0 : n0 ≤ h0.size) (F_fromStart_aa : Fld Z h0 aa "com/example/rootkeep/rootkeep/KeyRange" "fromStart" "Z" (.int fs)) (F_toEnd_aa : Fld Z h0 aa "com/example/rootkeep/rootkeep/KeyRange" "toEnd" "Z" (.int te)) :
    MetFree l (⟨"com/example/rootkeep/rootkeep/KeyRange", "isWhole", "()Z"⟩ : MethodName) (head1 (Jvm.Cond.code (⟨"com/example/rootkeep/rootkeep/KeyRange", "isWhole", "()Z"⟩ : MethodName) prog_1_method_10_code 1 (some .boolean) :: ws) ({ frames := 0, cells := 0, slots := 0, locals := 0 } : Room)) (fun a U => a = #[(.ref aa)] ∧ Z.Warmed39 U.vm ∧ U.heap = h0) (fun _ _ _ _ _ => True) (fun _ U o U' => ∃ v L, o = .returned v ∧ Q9 Z aa fs te h0 n0 v U'.heap L ∧ FrameEnd U o U' L ({ frames := 0, cells := 0, slots := 0, locals := 0 } : Room).cells ({ frames := 0, cells := 0, slots := 0, locals := 0 } : Room).slots) := by
  refine MetFree.of_bodySF (plainFor_of_name pn_9) hisR ?_
  intro p e s m args below meth c s₁ Bd hml0 hP hK
  obtain ⟨rfl, hZ, hh⟩ := hP
  have hx := Bd.exec
  have hby := Bd.bytes
  have hml : c.maxLocals = 1 := hml0
  have hown : s.vm.findClass "com/example/rootkeep/rootkeep/KeyRange" = some m.cls := findClass_of_methodNamed Bd.named
  have hnm := (name_of_methodNamed Bd.named Bd.method).1
  have X0 : Stand p l e ({ frames := 0, cells := 0, slots := 0, locals := 0 } : Room) s m #[(.ref aa)] below meth c s₁ [] 0 0 := Stand.of_body Bd
  have e0 : s₁.heap = h0 := by rw [← hh, Bd.state]; rfl
  have N0 := Fr.nil n0
  show Go p e below s (Q9 Z aa fs te h0 n0) ({ frames := 0, cells := 0, slots := 0, locals := 0 } : Room).cells ({ frames := 0, cells := 0, slots := 0, locals := 0 } : Room).slots (s₁.setTop (entryFrame m #[(.ref aa)] 1))
  rw [ef_9]
  show Go _ _ _ _ _ _ _ (s₁.setTop (mkF m 0 #[.val (.ref aa)] []))
  refine Go.step (fun t k => XS.aloadN X0.here hx rfl (hb hby d9_0) rfl rfl k) ?_
  show Go _ _ _ _ _ _ _ (s₁.setTop (mkF m 1 #[.val (.ref aa)] [(.ref aa)]))
  obtain ⟨T1, X1, e1, st1⟩ := getF X0 hx hZ hown (host := "") (Or.inl (hw _ (List.mem_of_getElem? (i := 50) rfl))) Via.refl e0 F_fromStart_aa (g := (mkF m 1 #[.val (.ref aa)] [(.ref aa)])) rfl rfl (hb hby d9_1)
  refine Go.step st1 ?_
  show Go _ _ _ _ _ _ _ (T1.setTop (mkF m 4 #[.val (.ref aa)] [(.int fs)]))
  by_cases hc4_2 : fs = (0 : Int32)
  · refine Go.step (fun t k => XS.ifYes X1.here hx rfl (pc0 := 4) (pc' := 18) rfl (hb hby d9_4) rfl ((if0 _ _).trans (teq hc4_2).1) (by decide) (by decide) k) ?_
    show Go _ _ _ _ _ _ _ (T1.setTop (mkF m 18 #[.val (.ref aa)] []))
    refine Go.step (fun t k => XS.iconst X1.here hx rfl (hb hby d9_18) k) ?_
    show Go _ _ _ _ _ _ _ (T1.setTop (mkF m 19 #[.val (.ref aa)] [(.int (0 : Int32))]))
    refine Go.retN X1 Bd.notSynchronized hx (t := .boolean) Bd.returns (by simp) (hb hby d9_19) (by decide) (by decide) (0 : Int32) rfl ?_
    rw [e1]
    exact ⟨(0 : Int32), rfl, N0, rfl, (by rw [if_pos hc4_2])⟩
  · refine Go.step (fun t k => XS.ifNo X1.here hx rfl (hb hby d9_4) rfl ((if0 _ _).trans (feq hc4_2).1) k) ?_
    show Go _ _ _ _ _ _ _ (T1.setTop (mkF m 7 #[.val (.ref aa)] []))
    refine Go.step (fun t k => XS.aloadN X1.here hx rfl (hb hby d9_7) rfl rfl k) ?_
    show Go _ _ _ _ _ _ _ (T1.setTop (mkF m 8 #[.val (.ref aa)] [(.ref aa)]))
    obtain ⟨T3, X3, e3, st3⟩ := getF X1 hx hZ hown (host := "") (Or.inl (hw _ (List.mem_of_getElem? (i := 56) rfl))) Via.refl e1 F_toEnd_aa (g := (mkF m 8 #[.val (.ref aa)] [(.ref aa)])) rfl rfl (hb hby d9_8)
    refine Go.step st3 ?_
    show Go _ _ _ _ _ _ _ (T3.setTop (mkF m 11 #[.val (.ref aa)] [(.int te)]))
    by_cases hc11_4 : te = (0 : Int32)
    · refine Go.step (fun t k => XS.ifYes X3.here hx rfl (pc0 := 11) (pc' := 18) rfl (hb hby d9_11) rfl ((if0 _ _).trans (teq hc11_4).1) (by decide) (by decide) k) ?_
      show Go _ _ _ _ _ _ _ (T3.setTop (mkF m 18 #[.val (.ref aa)] []))
      refine Go.step (fun t k => XS.iconst X3.here hx rfl (hb hby d9_18) k) ?_
      show Go _ _ _ _ _ _ _ (T3.setTop (mkF m 19 #[.val (.ref aa)] [(.int (0 : Int32))]))
      refine Go.retN X3 Bd.notSynchronized hx (t := .boolean) Bd.returns (by simp) (hb hby d9_19) (by decide) (by decide) (0 : Int32) rfl ?_
      rw [e3]
      exact ⟨(0 : Int32), rfl, N0, rfl, (by rw [if_neg hc4_2, if_pos hc11_4])⟩
    · refine Go.step (fun t k => XS.ifNo X3.here hx rfl (hb hby d9_11) rfl ((if0 _ _).trans (feq hc11_4).1) k) ?_
      show Go _ _ _ _ _ _ _ (T3.setTop (mkF m 14 #[.val (.ref aa)] []))
      refine Go.step (fun t k => XS.iconst X3.here hx rfl (hb hby d9_14) k) ?_
      show Go _ _ _ _ _ _ _ (T3.setTop (mkF m 15 #[.val (.ref aa)] [(.int (1 : Int32))]))
      refine Go.step (fun t k => XS.goto X3.here hx rfl (pc0 := 15) (pc' := 19) rfl (hb hby d9_15) (by decide) (by decide) k) ?_
      show Go _ _ _ _ _ _ _ (T3.setTop (mkF m 19 #[.val (.ref aa)] [(.int (1 : Int32))]))
      refine Go.retN X3 Bd.notSynchronized hx (t := .boolean) Bd.returns (by simp) (hb hby d9_19) (by decide) (by decide) (1 : Int32) rfl ?_
      rw [e3]
      exact ⟨(1 : Int32), rfl, N0, rfl, (by rw [if_neg hc4_2, if_neg hc11_4])⟩
theorem d10_0 : decode prog_1_method_11_code 0 = .ok (.iconst 0, 1) := by decide +kernel
theorem d10_1 : decode prog_1_method_11_code 1 = .ok (.istore_n 2, 1) := by decide +kernel
theorem d10_10 : decode prog_1_method_11_code 10 = .ok (.aload_n 0, 1) := by decide +kernel
theorem d10_11 : decode prog_1_method_11_code 11 = .ok (.getfield 16, 3) := by decide +kernel
theorem d10_14 : decode prog_1_method_11_code 14 = .ok (.invokestatic 32, 3) := by decide +kernel
theorem d10_17 : decode prog_1_method_11_code 17 = .ok (.istore_n 3, 1) := by decide +kernel
theorem d10_18 : decode prog_1_method_11_code 18 = .ok (.iload_n 3, 1) := by decide +kernel
theorem d10_19 : decode prog_1_method_11_code 19 = .ok (.ifCond .lt 14, 3) := by decide +kernel
theorem d10_2 : decode prog_1_method_11_code 2 = .ok (.aload_n 0, 1) := by decide +kernel
theorem d10_3 : decode prog_1_method_11_code 3 = .ok (.getfield 13, 3) := by decide +kernel
theorem d10_33 : decode prog_1_method_11_code 33 = .ok (.iconst 1, 1) := by decide +kernel
theorem d10_34 : decode prog_1_method_11_code 34 = .ok (.goto 4, 3) := by decide +kernel
theorem d10_38 : decode prog_1_method_11_code 38 = .ok (.istore_n 2, 1) := by decide +kernel
theorem d10_39 : decode prog_1_method_11_code 39 = .ok (.iload_n 2, 1) := by decide +kernel
theorem d10_40 : decode prog_1_method_11_code 40 = .ok (.ireturn, 1) := by decide +kernel
theorem d10_6 : decode prog_1_method_11_code 6 = .ok (.ifCond .ne 33, 3) := by decide +kernel
theorem d10_9 : decode prog_1_method_11_code 9 = .ok (.aload_n 1, 1) := by decide +kernel
theorem pn_10_s : plainName "com/example/rootkeep/rootkeep/KeyRange" = true := by first | (simp [plainName, overriddenIn]; done) | decide +kernel
theorem ef_10_s (m : MethodId) (x0 : Addr) (x1 : Addr) : entryFrame m #[(.ref x0), (.ref x1)] 4 = mkF m 0 #[.val (.ref x0), .val (.ref x1), .unset, .unset] [] := by first | (simp [entryFrame, mkF, argsToLocals, Value.category]; done) | rfl
def Q10_s (Z : State) (aa : Addr) (oo : Addr) (h0 : Heap) (n0 : Nat) (v : Option Value) (h : Heap) (L : List Loc) : Prop := v = some (.int (0 : Int32)) ∧ Fr n0 L ∧ h = h0
set_option maxRecDepth 65536 in
set_option maxHeartbeats 40000000 in
theorem rm10_s (l : Launch) (Z : State) (a0 : Array Value) (hw : ∀ d ∈ tables_1, d.before a0 Z = true) (ws : List Jvm.Cond) (aa : Addr) (oo : Addr) (h0 : Heap) (n0 : Nat) (Z0 : n0 ≤ h0.size) (F_fromStart_aa : Fld Z h0 aa "com/example/rootkeep/rootkeep/KeyRange" "fromStart" "Z" (.int (1 : Int32))) :
    MetFree l (⟨"com/example/rootkeep/rootkeep/KeyRange", "tooLow", "(Ljava/lang/Object;)Z"⟩ : MethodName) (head1 (Jvm.Cond.code (⟨"com/example/rootkeep/rootkeep/KeyRange", "tooLow", "(Ljava/lang/Object;)Z"⟩ : MethodName) prog_1_method_11_code 4 (some .boolean) :: ws) ({ frames := 0, cells := 0, slots := 0, locals := 0 } : Room)) (fun a U => a = #[(.ref aa), (.ref oo)] ∧ Z.Warmed39 U.vm ∧ U.heap = h0) (fun _ _ _ _ _ => True) (fun _ U o U' => ∃ v L, o = .returned v ∧ Q10_s Z aa oo h0 n0 v U'.heap L ∧ FrameEnd U o U' L ({ frames := 0, cells := 0, slots := 0, locals := 0 } : Room).cells ({ frames := 0, cells := 0, slots := 0, locals := 0 } : Room).slots) := by
  refine MetFree.of_bodySF (plainFor_of_name pn_10_s) hisR ?_
  intro p e s m args below meth c s₁ Bd hml0 hP hK
  obtain ⟨rfl, hZ, hh⟩ := hP
  have hx := Bd.exec
  have hby := Bd.bytes
  have hml : c.maxLocals = 4 := hml0
  have hown : s.vm.findClass "com/example/rootkeep/rootkeep/KeyRange" = some m.cls := findClass_of_methodNamed Bd.named
  have hnm := (name_of_methodNamed Bd.named Bd.method).1
  have X0 : Stand p l e ({ frames := 0, cells := 0, slots := 0, locals := 0 } : Room) s m #[(.ref aa), (.ref oo)] below meth c s₁ [] 0 0 := Stand.of_body Bd
  have e0 : s₁.heap = h0 := by rw [← hh, Bd.state]; rfl
  have N0 := Fr.nil n0
  show Go p e below s (Q10_s Z aa oo h0 n0) ({ frames := 0, cells := 0, slots := 0, locals := 0 } : Room).cells ({ frames := 0, cells := 0, slots := 0, locals := 0 } : Room).slots (s₁.setTop (entryFrame m #[(.ref aa), (.ref oo)] 4))
  rw [ef_10_s]
  show Go _ _ _ _ _ _ _ (s₁.setTop (mkF m 0 #[.val (.ref aa), .val (.ref oo), .unset, .unset] []))
  refine Go.step (fun t k => XS.iconst X0.here hx rfl (hb hby d10_0) k) ?_
  show Go _ _ _ _ _ _ _ (s₁.setTop (mkF m 1 #[.val (.ref aa), .val (.ref oo), .unset, .unset] [(.int (0 : Int32))]))
  refine Go.step (fun t k => XS.istoreN X0.here hx rfl (hb hby d10_1) rfl (l' := #[.val (.ref aa), .val (.ref oo), .val (.int (0 : Int32)), .unset]) rfl k) ?_
  show Go _ _ _ _ _ _ _ (s₁.setTop (mkF m 2 #[.val (.ref aa), .val (.ref oo), .val (.int (0 : Int32)), .unset] []))
  refine Go.step (fun t k => XS.aloadN X0.here hx rfl (hb hby d10_2) rfl rfl k) ?_
  show Go _ _ _ _ _ _ _ (s₁.setTop (mkF m 3 #[.val (.ref aa), .val (.ref oo), .val (.int (0 : Int32)), .unset] [(.ref aa)]))
  obtain ⟨T1, X1, e1, st1⟩ := getF X0 hx hZ hown (host := "") (Or.inl (hw _ (List.mem_of_getElem? (i := 50) rfl))) Via.refl e0 F_fromStart_aa (g := (mkF m 3 #[.val (.ref aa), .val (.ref oo), .val (.int (0 : Int32)), .unset] [(.ref aa)])) rfl rfl (hb hby d10_3)
  refine Go.step st1 ?_
  show Go _ _ _ _ _ _ _ (T1.setTop (mkF m 6 #[.val (.ref aa), .val (.ref oo), .val (.int (0 : Int32)), .unset] [(.int (1 : Int32))]))
  refine Go.step (fun t k => XS.ifYes X1.here hx rfl (pc0 := 6) (pc' := 39) rfl (hb hby d10_6) rfl ((if0 _ _).trans (feq (by decide : ¬ (1 : Int32) = (0 : Int32))).2) (by decide) (by decide) k) ?_
  show Go _ _ _ _ _ _ _ (T1.setTop (mkF m 39 #[.val (.ref aa), .val (.ref oo), .val (.int (0 : Int32)), .unset] []))
  refine Go.step (fun t k => XS.iloadN X1.here hx rfl (hb hby d10_39) rfl k) ?_
  show Go _ _ _ _ _ _ _ (T1.setTop (mkF m 40 #[.val (.ref aa), .val (.ref oo), .val (.int (0 : Int32)), .unset] [(.int (0 : Int32))]))
  refine Go.retN X1 Bd.notSynchronized hx (t := .boolean) Bd.returns (by simp) (hb hby d10_40) (by decide) (by decide) (0 : Int32) rfl ?_
  rw [e1]
  exact ⟨rfl, N0, rfl⟩
theorem pn_10_c : plainName "com/example/rootkeep/rootkeep/KeyRange" = true := by first | (simp [plainName, overriddenIn]; done) | decide +kernel
theorem pd_10_0_c : parseMethodDescriptor "(Ljava/lang/Object;Ljava/lang/Object;)I" = some ⟨[(.object "java/lang/Object"), (.object "java/lang/Object")], some .int⟩ := by decide +kernel
theorem ef_10_c (m : MethodId) (x0 : Addr) (x1 : Addr) : entryFrame m #[(.ref x0), (.ref x1)] 4 = mkF m 0 #[.val (.ref x0), .val (.ref x1), .unset, .unset] [] := by first | (simp [entryFrame, mkF, argsToLocals, Value.category]; done) | rfl
def Q10_c (Z : State) (aa : Addr) (oo : Addr) (xl : Addr) (vx : Int64) (vy : Int64) (h0 : Heap) (n0 : Nat) (v : Option Value) (h : Heap) (L : List Loc) : Prop := v = some (.int (1 : Int32)) ∧ Fr n0 L ∧ h = h0
set_option maxRecDepth 65536 in
set_option maxHeartbeats 40000000 in
theorem rm10_c (l : Launch) (Z : State) (a0 : Array Value) (hw : ∀ d ∈ tables_1, d.before a0 Z = true) (ws : List Jvm.Cond) (aa : Addr) (oo : Addr) (xl : Addr) (vx : Int64) (vy : Int64) (h0 : Heap) (n0 : Nat) (Z0 : n0 ≤ h0.size) (F_fromStart_aa : Fld Z h0 aa "com/example/rootkeep/rootkeep/KeyRange" "fromStart" "Z" (.int (0 : Int32))) (F_lo_aa : Fld Z h0 aa "com/example/rootkeep/rootkeep/KeyRange" "lo" "Ljava/lang/Object;" (.ref xl)) (F_value_oo : Fld Z h0 oo "java/lang/Long" "value" "J" (.long vx)) (F_value_xl : Fld Z h0 xl "java/lang/Long" "value" "J" (.long vy)) (E_oo : Exa Z h0 oo "java/lang/Long") (E_xl : Exa Z h0 xl "java/lang/Long") (hlt : (vx < vy)) :
    MetFree l (⟨"com/example/rootkeep/rootkeep/KeyRange", "tooLow", "(Ljava/lang/Object;)Z"⟩ : MethodName) (head1 (Jvm.Cond.code (⟨"com/example/rootkeep/rootkeep/KeyRange", "tooLow", "(Ljava/lang/Object;)Z"⟩ : MethodName) prog_1_method_11_code 4 (some .boolean) :: ws) ({ frames := 4, cells := 0, slots := 0, locals := 54 } : Room)) (fun a U => a = #[(.ref aa), (.ref oo)] ∧ Z.Warmed39 U.vm ∧ U.heap = h0) (fun _ _ _ _ _ => True) (fun _ U o U' => ∃ v L, o = .returned v ∧ Q10_c Z aa oo xl vx vy h0 n0 v U'.heap L ∧ FrameEnd U o U' L ({ frames := 4, cells := 0, slots := 0, locals := 54 } : Room).cells ({ frames := 4, cells := 0, slots := 0, locals := 54 } : Room).slots) := by
  refine MetFree.of_bodySF (plainFor_of_name pn_10_c) hisR ?_
  intro p e s m args below meth c s₁ Bd hml0 hP hK
  obtain ⟨rfl, hZ, hh⟩ := hP
  have hx := Bd.exec
  have hby := Bd.bytes
  have hml : c.maxLocals = 4 := hml0
  have hown : s.vm.findClass "com/example/rootkeep/rootkeep/KeyRange" = some m.cls := findClass_of_methodNamed Bd.named
  have hnm := (name_of_methodNamed Bd.named Bd.method).1
  have X0 : Stand p l e ({ frames := 4, cells := 0, slots := 0, locals := 54 } : Room) s m #[(.ref aa), (.ref oo)] below meth c s₁ [] 0 0 := Stand.of_body Bd
  have e0 : s₁.heap = h0 := by rw [← hh, Bd.state]; rfl
  have N0 := Fr.nil n0
  show Go p e below s (Q10_c Z aa oo xl vx vy h0 n0) ({ frames := 4, cells := 0, slots := 0, locals := 54 } : Room).cells ({ frames := 4, cells := 0, slots := 0, locals := 54 } : Room).slots (s₁.setTop (entryFrame m #[(.ref aa), (.ref oo)] 4))
  rw [ef_10_c]
  show Go _ _ _ _ _ _ _ (s₁.setTop (mkF m 0 #[.val (.ref aa), .val (.ref oo), .unset, .unset] []))
  refine Go.step (fun t k => XS.iconst X0.here hx rfl (hb hby d10_0) k) ?_
  show Go _ _ _ _ _ _ _ (s₁.setTop (mkF m 1 #[.val (.ref aa), .val (.ref oo), .unset, .unset] [(.int (0 : Int32))]))
  refine Go.step (fun t k => XS.istoreN X0.here hx rfl (hb hby d10_1) rfl (l' := #[.val (.ref aa), .val (.ref oo), .val (.int (0 : Int32)), .unset]) rfl k) ?_
  show Go _ _ _ _ _ _ _ (s₁.setTop (mkF m 2 #[.val (.ref aa), .val (.ref oo), .val (.int (0 : Int32)), .unset] []))
  refine Go.step (fun t k => XS.aloadN X0.here hx rfl (hb hby d10_2) rfl rfl k) ?_
  show Go _ _ _ _ _ _ _ (s₁.setTop (mkF m 3 #[.val (.ref aa), .val (.ref oo), .val (.int (0 : Int32)), .unset] [(.ref aa)]))
  obtain ⟨T1, X1, e1, st1⟩ := getF X0 hx hZ hown (host := "") (Or.inl (hw _ (List.mem_of_getElem? (i := 50) rfl))) Via.refl e0 F_fromStart_aa (g := (mkF m 3 #[.val (.ref aa), .val (.ref oo), .val (.int (0 : Int32)), .unset] [(.ref aa)])) rfl rfl (hb hby d10_3)
  refine Go.step st1 ?_
  show Go _ _ _ _ _ _ _ (T1.setTop (mkF m 6 #[.val (.ref aa), .val (.ref oo), .val (.int (0 : Int32)), .unset] [(.int (0 : Int32))]))
  refine Go.step (fun t k => XS.ifNo X1.here hx rfl (hb hby d10_6) rfl ((if0 _ _).trans (teq (by decide : (0 : Int32) = (0 : Int32))).2) k) ?_
  show Go _ _ _ _ _ _ _ (T1.setTop (mkF m 9 #[.val (.ref aa), .val (.ref oo), .val (.int (0 : Int32)), .unset] []))
  refine Go.step (fun t k => XS.aloadN X1.here hx rfl (hb hby d10_9) rfl rfl k) ?_
  show Go _ _ _ _ _ _ _ (T1.setTop (mkF m 10 #[.val (.ref aa), .val (.ref oo), .val (.int (0 : Int32)), .unset] [(.ref oo)]))
  refine Go.step (fun t k => XS.aloadN X1.here hx rfl (hb hby d10_10) rfl rfl k) ?_
  show Go _ _ _ _ _ _ _ (T1.setTop (mkF m 11 #[.val (.ref aa), .val (.ref oo), .val (.int (0 : Int32)), .unset] [(.ref aa), (.ref oo)]))
  obtain ⟨T2, X2, e2, st2⟩ := getF X1 hx hZ hown (host := "") (Or.inl (hw _ (List.mem_of_getElem? (i := 52) rfl))) Via.refl e1 F_lo_aa (g := (mkF m 11 #[.val (.ref aa), .val (.ref oo), .val (.int (0 : Int32)), .unset] [(.ref aa), (.ref oo)])) rfl rfl (hb hby d10_11)
  refine Go.step st2 ?_
  show Go _ _ _ _ _ _ _ (T2.setTop (mkF m 14 #[.val (.ref aa), .val (.ref oo), .val (.int (0 : Int32)), .unset] [(.ref xl), (.ref oo)]))
  obtain ⟨_, _, ⟨T3, L3, k3, n3⟩, -, X3, ⟨Lc3, hQ3, l3, y3, z3⟩, st3⟩ := Jvm.LawKit.callS X2 hx (y := (⟨"com/example/rootkeep/rootkeep/object/SortedTree", "compare", "(Ljava/lang/Object;Ljava/lang/Object;)I"⟩ : MethodName)) hown (mvT hZ (hw _ (List.mem_of_getElem? (i := 72) rfl))) (mvT hZ (hw _ (List.mem_of_getElem? (i := 73) rfl))) (mvT hZ (hw _ (List.mem_of_getElem? (i := 74) rfl))) (mvT hZ (hw _ (List.mem_of_getElem? (i := 75) rfl))) (by decide) (backOf (W := 0) (rm11 l Z a0 hw [] oo xl vx vy h0 n0 Z0 F_value_oo F_value_xl E_oo E_xl) hZ (hw _ (List.mem_of_getElem? (i := 75) rfl)) (hw _ (List.mem_of_getElem? (i := 74) rfl)) (by decide) (by decide)) (g := (mkF m 14 #[.val (.ref aa), .val (.ref oo), .val (.int (0 : Int32)), .unset] [(.ref xl), (.ref oo)])) rfl (by rw [hml]; rfl) (argsL := [(.ref oo), (.ref xl)]) (rest := []) (lenOf pd_10_0_c rfl) rfl (by show 2 * 0 + _ ≤ _; exact Nat.le_of_eq rfl) (hb hby d10_14) (fun _ _ => ⟨rfl, e2, (by decide : 0 + 0 ≤ _), (by decide : 0 + 0 ≤ _)⟩)
  dsimp only [Pt.U, Pt.locs, Pt.cells, Pt.slots] at X3 l3 y3 z3 st3 hQ3
  subst l3 y3 z3
  obtain ⟨rfl, N3q, K3q⟩ := hQ3
  have N3 := Fr.app N0 N3q
  refine Go.step st3 ?_
  show Go _ _ _ _ _ _ _ (T3.setTop (mkF m 17 #[.val (.ref aa), .val (.ref oo), .val (.int (0 : Int32)), .unset] [(.int (own_cmp vx vy))]))
  refine Go.step (fun t k => XS.istoreN X3.here hx rfl (hb hby d10_17) rfl (l' := #[.val (.ref aa), .val (.ref oo), .val (.int (0 : Int32)), .val (.int (own_cmp vx vy))]) rfl k) ?_
  show Go _ _ _ _ _ _ _ (T3.setTop (mkF m 18 #[.val (.ref aa), .val (.ref oo), .val (.int (0 : Int32)), .val (.int (own_cmp vx vy))] []))
  refine Go.step (fun t k => XS.iloadN X3.here hx rfl (hb hby d10_18) rfl k) ?_
  show Go _ _ _ _ _ _ _ (T3.setTop (mkF m 19 #[.val (.ref aa), .val (.ref oo), .val (.int (0 : Int32)), .val (.int (own_cmp vx vy))] [(.int (own_cmp vx vy))]))
  refine Go.step (fun t k => XS.ifYes X3.here hx rfl (pc0 := 19) (pc' := 33) rfl (hb hby d10_19) rfl ((if0 _ _).trans (tlt (own_cl hlt : (own_cmp vx vy) < (0 : Int32))).1) (by decide) (by decide) k) ?_
  show Go _ _ _ _ _ _ _ (T3.setTop (mkF m 33 #[.val (.ref aa), .val (.ref oo), .val (.int (0 : Int32)), .val (.int (own_cmp vx vy))] []))
  refine Go.step (fun t k => XS.iconst X3.here hx rfl (hb hby d10_33) k) ?_
  show Go _ _ _ _ _ _ _ (T3.setTop (mkF m 34 #[.val (.ref aa), .val (.ref oo), .val (.int (0 : Int32)), .val (.int (own_cmp vx vy))] [(.int (1 : Int32))]))
  refine Go.step (fun t k => XS.goto X3.here hx rfl (pc0 := 34) (pc' := 38) rfl (hb hby d10_34) (by decide) (by decide) k) ?_
  show Go _ _ _ _ _ _ _ (T3.setTop (mkF m 38 #[.val (.ref aa), .val (.ref oo), .val (.int (0 : Int32)), .val (.int (own_cmp vx vy))] [(.int (1 : Int32))]))
  refine Go.step (fun t k => XS.istoreN X3.here hx rfl (hb hby d10_38) rfl (l' := #[.val (.ref aa), .val (.ref oo), .val (.int (1 : Int32)), .val (.int (own_cmp vx vy))]) rfl k) ?_
  show Go _ _ _ _ _ _ _ (T3.setTop (mkF m 39 #[.val (.ref aa), .val (.ref oo), .val (.int (1 : Int32)), .val (.int (own_cmp vx vy))] []))
  refine Go.step (fun t k => XS.iloadN X3.here hx rfl (hb hby d10_39) rfl k) ?_
  show Go _ _ _ _ _ _ _ (T3.setTop (mkF m 40 #[.val (.ref aa), .val (.ref oo), .val (.int (1 : Int32)), .val (.int (own_cmp vx vy))] [(.int (1 : Int32))]))
  refine Go.retN X3 Bd.notSynchronized hx (t := .boolean) Bd.returns (by simp) (hb hby d10_40) (by decide) (by decide) (1 : Int32) rfl ?_
  rw [K3q]
  exact ⟨rfl, N3, rfl⟩
theorem d16_0 : decode prog_1_method_12_code 0 = .ok (.iconst 0, 1) := by decide +kernel
theorem d16_1 : decode prog_1_method_12_code 1 = .ok (.istore_n 2, 1) := by decide +kernel
theorem d16_10 : decode prog_1_method_12_code 10 = .ok (.aload_n 0, 1) := by decide +kernel
theorem d16_11 : decode prog_1_method_12_code 11 = .ok (.getfield 26, 3) := by decide +kernel
theorem d16_14 : decode prog_1_method_12_code 14 = .ok (.invokestatic 32, 3) := by decide +kernel
theorem d16_17 : decode prog_1_method_12_code 17 = .ok (.istore_n 3, 1) := by decide +kernel
theorem d16_18 : decode prog_1_method_12_code 18 = .ok (.iload_n 3, 1) := by decide +kernel
theorem d16_19 : decode prog_1_method_12_code 19 = .ok (.ifCond .gt 14, 3) := by decide +kernel
theorem d16_2 : decode prog_1_method_12_code 2 = .ok (.aload_n 0, 1) := by decide +kernel
theorem d16_3 : decode prog_1_method_12_code 3 = .ok (.getfield 23, 3) := by decide +kernel
theorem d16_33 : decode prog_1_method_12_code 33 = .ok (.iconst 1, 1) := by decide +kernel
theorem d16_34 : decode prog_1_method_12_code 34 = .ok (.goto 4, 3) := by decide +kernel
theorem d16_38 : decode prog_1_method_12_code 38 = .ok (.istore_n 2, 1) := by decide +kernel
theorem d16_39 : decode prog_1_method_12_code 39 = .ok (.iload_n 2, 1) := by decide +kernel
theorem d16_40 : decode prog_1_method_12_code 40 = .ok (.ireturn, 1) := by decide +kernel
theorem d16_6 : decode prog_1_method_12_code 6 = .ok (.ifCond .ne 33, 3) := by decide +kernel
theorem d16_9 : decode prog_1_method_12_code 9 = .ok (.aload_n 1, 1) := by decide +kernel
theorem pn_16_s : plainName "com/example/rootkeep/rootkeep/KeyRange" = true := by first | (simp [plainName, overriddenIn]; done) | decide +kernel
theorem ef_16_s (m : MethodId) (x0 : Addr) (x1 : Addr) : entryFrame m #[(.ref x0), (.ref x1)] 4 = mkF m 0 #[.val (.ref x0), .val (.ref x1), .unset, .unset] [] := by first | (simp [entryFrame, mkF, argsToLocals, Value.category]; done) | rfl
def Q16_s (Z : State) (aa : Addr) (oo : Addr) (h0 : Heap) (n0 : Nat) (v : Option Value) (h : Heap) (L : List Loc) : Prop := v = some (.int (0 : Int32)) ∧ Fr n0 L ∧ h = h0
set_option maxRecDepth 65536 in
set_option maxHeartbeats 40000000 in
theorem rm16_s (l : Launch) (Z : State) (a0 : Array Value) (hw : ∀ d ∈ tables_1, d.before a0 Z = true) (ws : List Jvm.Cond) (aa : Addr) (oo : Addr) (h0 : Heap) (n0 : Nat) (Z0 : n0 ≤ h0.size) (F_toEnd_aa : Fld Z h0 aa "com/example/rootkeep/rootkeep/KeyRange" "toEnd" "Z" (.int (1 : Int32))) :
    MetFree l (⟨"com/example/rootkeep/rootkeep/KeyRange", "tooHigh", "(Ljava/lang/Object;)Z"⟩ : MethodName) (head1 (Jvm.Cond.code (⟨"com/example/rootkeep/rootkeep/KeyRange", "tooHigh", "(Ljava/lang/Object;)Z"⟩ : MethodName) prog_1_method_12_code 4 (some .boolean) :: ws) ({ frames := 0, cells := 0, slots := 0, locals := 0 } : Room)) (fun a U => a = #[(.ref aa), (.ref oo)] ∧ Z.Warmed39 U.vm ∧ U.heap = h0) (fun _ _ _ _ _ => True) (fun _ U o U' => ∃ v L, o = .returned v ∧ Q16_s Z aa oo h0 n0 v U'.heap L ∧ FrameEnd U o U' L ({ frames := 0, cells := 0, slots := 0, locals := 0 } : Room).cells ({ frames := 0, cells := 0, slots := 0, locals := 0 } : Room).slots) := by
  refine MetFree.of_bodySF (plainFor_of_name pn_16_s) hisR ?_
  intro p e s m args below meth c s₁ Bd hml0 hP hK
  obtain ⟨rfl, hZ, hh⟩ := hP
  have hx := Bd.exec
  have hby := Bd.bytes
  have hml : c.maxLocals = 4 := hml0
  have hown : s.vm.findClass "com/example/rootkeep/rootkeep/KeyRange" = some m.cls := findClass_of_methodNamed Bd.named
  have hnm := (name_of_methodNamed Bd.named Bd.method).1
  have X0 : Stand p l e ({ frames := 0, cells := 0, slots := 0, locals := 0 } : Room) s m #[(.ref aa), (.ref oo)] below meth c s₁ [] 0 0 := Stand.of_body Bd
  have e0 : s₁.heap = h0 := by rw [← hh, Bd.state]; rfl
  have N0 := Fr.nil n0
  show Go p e below s (Q16_s Z aa oo h0 n0) ({ frames := 0, cells := 0, slots := 0, locals := 0 } : Room).cells ({ frames := 0, cells := 0, slots := 0, locals := 0 } : Room).slots (s₁.setTop (entryFrame m #[(.ref aa), (.ref oo)] 4))
  rw [ef_16_s]
  show Go _ _ _ _ _ _ _ (s₁.setTop (mkF m 0 #[.val (.ref aa), .val (.ref oo), .unset, .unset] []))
  refine Go.step (fun t k => XS.iconst X0.here hx rfl (hb hby d16_0) k) ?_
  show Go _ _ _ _ _ _ _ (s₁.setTop (mkF m 1 #[.val (.ref aa), .val (.ref oo), .unset, .unset] [(.int (0 : Int32))]))
  refine Go.step (fun t k => XS.istoreN X0.here hx rfl (hb hby d16_1) rfl (l' := #[.val (.ref aa), .val (.ref oo), .val (.int (0 : Int32)), .unset]) rfl k) ?_
  show Go _ _ _ _ _ _ _ (s₁.setTop (mkF m 2 #[.val (.ref aa), .val (.ref oo), .val (.int (0 : Int32)), .unset] []))
  refine Go.step (fun t k => XS.aloadN X0.here hx rfl (hb hby d16_2) rfl rfl k) ?_
  show Go _ _ _ _ _ _ _ (s₁.setTop (mkF m 3 #[.val (.ref aa), .val (.ref oo), .val (.int (0 : Int32)), .unset] [(.ref aa)]))
  obtain ⟨T1, X1, e1, st1⟩ := getF X0 hx hZ hown (host := "") (Or.inl (hw _ (List.mem_of_getElem? (i := 56) rfl))) Via.refl e0 F_toEnd_aa (g := (mkF m 3 #[.val (.ref aa), .val (.ref oo), .val (.int (0 : Int32)), .unset] [(.ref aa)])) rfl rfl (hb hby d16_3)
  refine Go.step st1 ?_
  show Go _ _ _ _ _ _ _ (T1.setTop (mkF m 6 #[.val (.ref aa), .val (.ref oo), .val (.int (0 : Int32)), .unset] [(.int (1 : Int32))]))
  refine Go.step (fun t k => XS.ifYes X1.here hx rfl (pc0 := 6) (pc' := 39) rfl (hb hby d16_6) rfl ((if0 _ _).trans (feq (by decide : ¬ (1 : Int32) = (0 : Int32))).2) (by decide) (by decide) k) ?_
  show Go _ _ _ _ _ _ _ (T1.setTop (mkF m 39 #[.val (.ref aa), .val (.ref oo), .val (.int (0 : Int32)), .unset] []))
  refine Go.step (fun t k => XS.iloadN X1.here hx rfl (hb hby d16_39) rfl k) ?_
  show Go _ _ _ _ _ _ _ (T1.setTop (mkF m 40 #[.val (.ref aa), .val (.ref oo), .val (.int (0 : Int32)), .unset] [(.int (0 : Int32))]))
  refine Go.retN X1 Bd.notSynchronized hx (t := .boolean) Bd.returns (by simp) (hb hby d16_40) (by decide) (by decide) (0 : Int32) rfl ?_
  rw [e1]
  exact ⟨rfl, N0, rfl⟩
theorem pn_16_c : plainName "com/example/rootkeep/rootkeep/KeyRange" = true := by first | (simp [plainName, overriddenIn]; done) | decide +kernel
theorem pd_16_0_c : parseMethodDescriptor "(Ljava/lang/Object;Ljava/lang/Object;)I" = some ⟨[(.object "java/lang/Object"), (.object "java/lang/Object")], some .int⟩ := by decide +kernel
theorem ef_16_c (m : MethodId) (x0 : Addr) (x1 : Addr) : entryFrame m #[(.ref x0), (.ref x1)] 4 = mkF m 0 #[.val (.ref x0), .val (.ref x1), .unset, .unset] [] := by first | (simp [entryFrame, mkF, argsToLocals, Value.category]; done) | rfl
def Q16_c (Z : State) (aa : Addr) (oo : Addr) (xl : Addr) (vx : Int64) (vy : Int64) (h0 : Heap) (n0 : Nat) (v : Option Value) (h : Heap) (L : List Loc) : Prop := v = some (.int (1 : Int32)) ∧ Fr n0 L ∧ h = h0
set_option maxRecDepth 65536 in
set_option maxHeartbeats 40000000 in
theorem rm16_c (l : Launch) (Z : State) (a0 : Array Value) (hw : ∀ d ∈ tables_1, d.before a0 Z = true) (ws : List Jvm.Cond) (aa : Addr) (oo : Addr) (xl : Addr) (vx : Int64) (vy : Int64) (h0 : Heap) (n0 : Nat) (Z0 : n0 ≤ h0.size) (F_toEnd_aa : Fld Z h0 aa "com/example/rootkeep/rootkeep/KeyRange" "toEnd" "Z" (.int (0 : Int32))) (F_hi_aa : Fld Z h0 aa "com/example/rootkeep/rootkeep/KeyRange" "hi" "Ljava/lang/Object;" (.ref xl)) (F_value_oo : Fld Z h0 oo "java/lang/Long" "value" "J" (.long vx)) (F_value_xl : Fld Z h0 xl "java/lang/Long" "value" "J" (.long vy)) (E_oo : Exa Z h0 oo "java/lang/Long") (E_xl : Exa Z h0 xl "java/lang/Long") (hlt : (vy < vx)) :
    MetFree l (⟨"com/example/rootkeep/rootkeep/KeyRange", "tooHigh", "(Ljava/lang/Object;)Z"⟩ : MethodName) (head1 (Jvm.Cond.code (⟨"com/example/rootkeep/rootkeep/KeyRange", "tooHigh", "(Ljava/lang/Object;)Z"⟩ : MethodName) prog_1_method_12_code 4 (some .boolean) :: ws) ({ frames := 4, cells := 0, slots := 0, locals := 54 } : Room)) (fun a U => a = #[(.ref aa), (.ref oo)] ∧ Z.Warmed39 U.vm ∧ U.heap = h0) (fun _ _ _ _ _ => True) (fun _ U o U' => ∃ v L, o = .returned v ∧ Q16_c Z aa oo xl vx vy h0 n0 v U'.heap L ∧ FrameEnd U o U' L ({ frames := 4, cells := 0, slots := 0, locals := 54 } : Room).cells ({ frames := 4, cells := 0, slots := 0, locals := 54 } : Room).slots) := by
  refine MetFree.of_bodySF (plainFor_of_name pn_16_c) hisR ?_
  intro p e s m args below meth c s₁ Bd hml0 hP hK
  obtain ⟨rfl, hZ, hh⟩ := hP
  have hx := Bd.exec
  have hby := Bd.bytes
  have hml : c.maxLocals = 4 := hml0
  have hown : s.vm.findClass "com/example/rootkeep/rootkeep/KeyRange" = some m.cls := findClass_of_methodNamed Bd.named
  have hnm := (name_of_methodNamed Bd.named Bd.method).1
  have X0 : Stand p l e ({ frames := 4, cells := 0, slots := 0, locals := 54 } : Room) s m #[(.ref aa), (.ref oo)] below meth c s₁ [] 0 0 := Stand.of_body Bd
  have e0 : s₁.heap = h0 := by rw [← hh, Bd.state]; rfl
  have N0 := Fr.nil n0
  show Go p e below s (Q16_c Z aa oo xl vx vy h0 n0) ({ frames := 4, cells := 0, slots := 0, locals := 54 } : Room).cells ({ frames := 4, cells := 0, slots := 0, locals := 54 } : Room).slots (s₁.setTop (entryFrame m #[(.ref aa), (.ref oo)] 4))
  rw [ef_16_c]
  show Go _ _ _ _ _ _ _ (s₁.setTop (mkF m 0 #[.val (.ref aa), .val (.ref oo), .unset, .unset] []))
  refine Go.step (fun t k => XS.iconst X0.here hx rfl (hb hby d16_0) k) ?_
  show Go _ _ _ _ _ _ _ (s₁.setTop (mkF m 1 #[.val (.ref aa), .val (.ref oo), .unset, .unset] [(.int (0 : Int32))]))
  refine Go.step (fun t k => XS.istoreN X0.here hx rfl (hb hby d16_1) rfl (l' := #[.val (.ref aa), .val (.ref oo), .val (.int (0 : Int32)), .unset]) rfl k) ?_
  show Go _ _ _ _ _ _ _ (s₁.setTop (mkF m 2 #[.val (.ref aa), .val (.ref oo), .val (.int (0 : Int32)), .unset] []))
  refine Go.step (fun t k => XS.aloadN X0.here hx rfl (hb hby d16_2) rfl rfl k) ?_
  show Go _ _ _ _ _ _ _ (s₁.setTop (mkF m 3 #[.val (.ref aa), .val (.ref oo), .val (.int (0 : Int32)), .unset] [(.ref aa)]))
  obtain ⟨T1, X1, e1, st1⟩ := getF X0 hx hZ hown (host := "") (Or.inl (hw _ (List.mem_of_getElem? (i := 56) rfl))) Via.refl e0 F_toEnd_aa (g := (mkF m 3 #[.val (.ref aa), .val (.ref oo), .val (.int (0 : Int32)), .unset] [(.ref aa)])) rfl rfl (hb hby d16_3)
  refine Go.step st1 ?_
  show Go _ _ _ _ _ _ _ (T1.setTop (mkF m 6 #[.val (.ref aa), .val (.ref oo), .val (.int (0 : Int32)), .unset] [(.int (0 : Int32))]))
  refine Go.step (fun t k => XS.ifNo X1.here hx rfl (hb hby d16_6) rfl ((if0 _ _).trans (teq (by decide : (0 : Int32) = (0 : Int32))).2) k) ?_
  show Go _ _ _ _ _ _ _ (T1.setTop (mkF m 9 #[.val (.ref aa), .val (.ref oo), .val (.int (0 : Int32)), .unset] []))
  refine Go.step (fun t k => XS.aloadN X1.here hx rfl (hb hby d16_9) rfl rfl k) ?_
  show Go _ _ _ _ _ _ _ (T1.setTop (mkF m 10 #[.val (.ref aa), .val (.ref oo), .val (.int (0 : Int32)), .unset] [(.ref oo)]))
  refine Go.step (fun t k => XS.aloadN X1.here hx rfl (hb hby d16_10) rfl rfl k) ?_
  show Go _ _ _ _ _ _ _ (T1.setTop (mkF m 11 #[.val (.ref aa), .val (.ref oo), .val (.int (0 : Int32)), .unset] [(.ref aa), (.ref oo)]))
  obtain ⟨T2, X2, e2, st2⟩ := getF X1 hx hZ hown (host := "") (Or.inl (hw _ (List.mem_of_getElem? (i := 58) rfl))) Via.refl e1 F_hi_aa (g := (mkF m 11 #[.val (.ref aa), .val (.ref oo), .val (.int (0 : Int32)), .unset] [(.ref aa), (.ref oo)])) rfl rfl (hb hby d16_11)
  refine Go.step st2 ?_
  show Go _ _ _ _ _ _ _ (T2.setTop (mkF m 14 #[.val (.ref aa), .val (.ref oo), .val (.int (0 : Int32)), .unset] [(.ref xl), (.ref oo)]))
  obtain ⟨_, _, ⟨T3, L3, k3, n3⟩, -, X3, ⟨Lc3, hQ3, l3, y3, z3⟩, st3⟩ := Jvm.LawKit.callS X2 hx (y := (⟨"com/example/rootkeep/rootkeep/object/SortedTree", "compare", "(Ljava/lang/Object;Ljava/lang/Object;)I"⟩ : MethodName)) hown (mvT hZ (hw _ (List.mem_of_getElem? (i := 72) rfl))) (mvT hZ (hw _ (List.mem_of_getElem? (i := 73) rfl))) (mvT hZ (hw _ (List.mem_of_getElem? (i := 74) rfl))) (mvT hZ (hw _ (List.mem_of_getElem? (i := 75) rfl))) (by decide) (backOf (W := 0) (rm11 l Z a0 hw [] oo xl vx vy h0 n0 Z0 F_value_oo F_value_xl E_oo E_xl) hZ (hw _ (List.mem_of_getElem? (i := 75) rfl)) (hw _ (List.mem_of_getElem? (i := 74) rfl)) (by decide) (by decide)) (g := (mkF m 14 #[.val (.ref aa), .val (.ref oo), .val (.int (0 : Int32)), .unset] [(.ref xl), (.ref oo)])) rfl (by rw [hml]; rfl) (argsL := [(.ref oo), (.ref xl)]) (rest := []) (lenOf pd_16_0_c rfl) rfl (by show 2 * 0 + _ ≤ _; exact Nat.le_of_eq rfl) (hb hby d16_14) (fun _ _ => ⟨rfl, e2, (by decide : 0 + 0 ≤ _), (by decide : 0 + 0 ≤ _)⟩)
  dsimp only [Pt.U, Pt.locs, Pt.cells, Pt.slots] at X3 l3 y3 z3 st3 hQ3
  subst l3 y3 z3
  obtain ⟨rfl, N3q, K3q⟩ := hQ3
  have N3 := Fr.app N0 N3q
  refine Go.step st3 ?_
  show Go _ _ _ _ _ _ _ (T3.setTop (mkF m 17 #[.val (.ref aa), .val (.ref oo), .val (.int (0 : Int32)), .unset] [(.int (own_cmp vx vy))]))
  refine Go.step (fun t k => XS.istoreN X3.here hx rfl (hb hby d16_17) rfl (l' := #[.val (.ref aa), .val (.ref oo), .val (.int (0 : Int32)), .val (.int (own_cmp vx vy))]) rfl k) ?_
  show Go _ _ _ _ _ _ _ (T3.setTop (mkF m 18 #[.val (.ref aa), .val (.ref oo), .val (.int (0 : Int32)), .val (.int (own_cmp vx vy))] []))
  refine Go.step (fun t k => XS.iloadN X3.here hx rfl (hb hby d16_18) rfl k) ?_
  show Go _ _ _ _ _ _ _ (T3.setTop (mkF m 19 #[.val (.ref aa), .val (.ref oo), .val (.int (0 : Int32)), .val (.int (own_cmp vx vy))] [(.int (own_cmp vx vy))]))
  refine Go.step (fun t k => XS.ifYes X3.here hx rfl (pc0 := 19) (pc' := 33) rfl (hb hby d16_19) rfl ((if0 _ _).trans (tlt (own_cg hlt : (0 : Int32) < (own_cmp vx vy))).2.2.1) (by decide) (by decide) k) ?_
  show Go _ _ _ _ _ _ _ (T3.setTop (mkF m 33 #[.val (.ref aa), .val (.ref oo), .val (.int (0 : Int32)), .val (.int (own_cmp vx vy))] []))
  refine Go.step (fun t k => XS.iconst X3.here hx rfl (hb hby d16_33) k) ?_
  show Go _ _ _ _ _ _ _ (T3.setTop (mkF m 34 #[.val (.ref aa), .val (.ref oo), .val (.int (0 : Int32)), .val (.int (own_cmp vx vy))] [(.int (1 : Int32))]))
  refine Go.step (fun t k => XS.goto X3.here hx rfl (pc0 := 34) (pc' := 38) rfl (hb hby d16_34) (by decide) (by decide) k) ?_
  show Go _ _ _ _ _ _ _ (T3.setTop (mkF m 38 #[.val (.ref aa), .val (.ref oo), .val (.int (0 : Int32)), .val (.int (own_cmp vx vy))] [(.int (1 : Int32))]))
  refine Go.step (fun t k => XS.istoreN X3.here hx rfl (hb hby d16_38) rfl (l' := #[.val (.ref aa), .val (.ref oo), .val (.int (1 : Int32)), .val (.int (own_cmp vx vy))]) rfl k) ?_
  show Go _ _ _ _ _ _ _ (T3.setTop (mkF m 39 #[.val (.ref aa), .val (.ref oo), .val (.int (1 : Int32)), .val (.int (own_cmp vx vy))] []))
  refine Go.step (fun t k => XS.iloadN X3.here hx rfl (hb hby d16_39) rfl k) ?_
  show Go _ _ _ _ _ _ _ (T3.setTop (mkF m 40 #[.val (.ref aa), .val (.ref oo), .val (.int (1 : Int32)), .val (.int (own_cmp vx vy))] [(.int (1 : Int32))]))
  refine Go.retN X3 Bd.notSynchronized hx (t := .boolean) Bd.returns (by simp) (hb hby d16_40) (by decide) (by decide) (1 : Int32) rfl ?_
  rw [K3q]
  exact ⟨rfl, N3, rfl⟩
theorem d15_0 : decode prog_1_method_9_code 0 = .ok (.new 8, 3) := by decide +kernel
theorem d15_3 : decode prog_1_method_9_code 3 = .ok (.dup, 1) := by decide +kernel
theorem d15_4 : decode prog_1_method_9_code 4 = .ok (.aload_n 0, 1) := by decide +kernel
theorem d15_5 : decode prog_1_method_9_code 5 = .ok (.getfield 7, 3) := by decide +kernel
theorem d15_8 : decode prog_1_method_9_code 8 = .ok (.ifCond .ne 7, 3) := by decide +kernel
theorem d15_11 : decode prog_1_method_9_code 11 = .ok (.iconst 1, 1) := by decide +kernel
theorem d15_12 : decode prog_1_method_9_code 12 = .ok (.goto 4, 3) := by decide +kernel
theorem d15_15 : decode prog_1_method_9_code 15 = .ok (.iconst 0, 1) := by decide +kernel
theorem d15_16 : decode prog_1_method_9_code 16 = .ok (.aload_n 0, 1) := by decide +kernel
theorem d15_17 : decode prog_1_method_9_code 17 = .ok (.getfield 13, 3) := by decide +kernel
theorem d15_20 : decode prog_1_method_9_code 20 = .ok (.aload_n 0, 1) := by decide +kernel
theorem d15_21 : decode prog_1_method_9_code 21 = .ok (.getfield 16, 3) := by decide +kernel
theorem d15_24 : decode prog_1_method_9_code 24 = .ok (.aload_n 0, 1) := by decide +kernel
theorem d15_25 : decode prog_1_method_9_code 25 = .ok (.getfield 20, 3) := by decide +kernel
theorem d15_28 : decode prog_1_method_9_code 28 = .ok (.aload_n 0, 1) := by decide +kernel
theorem d15_29 : decode prog_1_method_9_code 29 = .ok (.getfield 23, 3) := by decide +kernel
theorem d15_32 : decode prog_1_method_9_code 32 = .ok (.aload_n 0, 1) := by decide +kernel
theorem d15_33 : decode prog_1_method_9_code 33 = .ok (.getfield 26, 3) := by decide +kernel
theorem d15_36 : decode prog_1_method_9_code 36 = .ok (.aload_n 0, 1) := by decide +kernel
theorem d15_37 : decode prog_1_method_9_code 37 = .ok (.getfield 29, 3) := by decide +kernel
theorem d15_40 : decode prog_1_method_9_code 40 = .ok (.invokespecial 45, 3) := by decide +kernel
theorem d15_43 : decode prog_1_method_9_code 43 = .ok (.areturn, 1) := by decide +kernel
theorem pn_15_00 : plainName "com/example/rootkeep/rootkeep/KeyRange" = true := by first | (simp [plainName, overriddenIn]; done) | decide +kernel
theorem pd_15_0_00 : parseMethodDescriptor "(ZZLjava/lang/Object;ZZLjava/lang/Object;Z)V" = some ⟨[.boolean, .boolean, (.object "java/lang/Object"), .boolean, .boolean, (.object "java/lang/Object"), .boolean], none⟩ := by decide +kernel
theorem ef_15_00 (m : MethodId) (x0 : Addr) : entryFrame m #[(.ref x0)] 1 = mkF m 0 #[.val (.ref x0)] [] := by first | (simp [entryFrame, mkF, argsToLocals, Value.category]; done) | rfl
def Q15_00 (Z : State) (aa : Addr) (ds : Int32) (fs : Int32) (xl : Addr) (li : Int32) (te : Int32) (xh : Addr) (hi : Int32) (h0 : Heap) (n0 : Nat) (v : Option Value) (h : Heap) (L : List Loc) : Prop := ∃ br : Addr, v = some (.ref br) ∧ Fr n0 L ∧ Keep h0 h [] ∧ Exa Z h br "com/example/rootkeep/rootkeep/KeyRange" ∧ Fld Z h br "com/example/rootkeep/rootkeep/KeyRange" "fromStart" "Z" (.int fs) ∧ Fld Z h br "com/example/rootkeep/rootkeep/KeyRange" "toEnd" "Z" (.int te)
set_option maxRecDepth 65536 in
set_option maxHeartbeats 40000000 in
theorem rm15_00 (l : Launch) (Z : State) (a0 : Array Value) (hw : ∀ d ∈ tables_1, d.before a0 Z = true) (ws : List Jvm.Cond) (aa : Addr) (ds : Int32) (fs : Int32) (xl : Addr) (li : Int32) (te : Int32) (xh : Addr) (hi : Int32) (h0 : Heap) (n0 : Nat) (Z0 : n0 ≤ h0.size) (F_descending_aa : Fld Z h0 aa "com/example/rootkeep/rootkeep/KeyRange" "descending" "Z" (.int ds)) (F_fromStart_aa : Fld Z h0 aa "com/example/rootkeep/rootkeep/KeyRange" "fromStart" "Z" (.int fs)) (F_lo_aa : Fld Z h0 aa "com/example/rootkeep/rootkeep/KeyRange" "lo" "Ljava/lang/Object;" (.ref xl)) (F_loInclusive_aa : Fld Z h0 aa "com/example/rootkeep/rootkeep/KeyRange" "loInclusive" "Z" (.int li)) (F_toEnd_aa : Fld Z h0 aa "com/example/rootkeep/rootkeep/KeyRange" "toEnd" "Z" (.int te)) (F_hi_aa : Fld Z h0 aa "com/example/rootkeep/rootkeep/KeyRange" "hi" "Ljava/lang/Object;" (.ref xh)) (F_hiInclusive_aa : Fld Z h0 aa "com/example/rootkeep/rootkeep/KeyRange" "hiInclusive" "Z" (.int hi)) (E_aa : Exa Z h0 aa "com/example/rootkeep/rootkeep/KeyRange") (h_ds : (ds = 0 ∨ ds = 1)) (h_fs : (fs = 0 ∨ fs = 1)) (h_li : (li = 0 ∨ li = 1)) (h_te : (te = 0 ∨ te = 1)) (h_hi : (hi = 0 ∨ hi = 1)) :
    MetFree l (⟨"com/example/rootkeep/rootkeep/KeyRange", "reversed", "()Lcom/example/rootkeep/rootkeep/KeyRange;"⟩ : MethodName) (head1 (Jvm.Cond.code (⟨"com/example/rootkeep/rootkeep/KeyRange", "reversed", "()Lcom/example/rootkeep/rootkeep/KeyRange;"⟩ : MethodName) prog_1_method_9_code 1 (some (.object "com/example/rootkeep/rootkeep/KeyRange")) :: ws) ({ frames := 3, cells := 1, slots := 7, locals := 44 } : Room)) (fun a U => a = #[(.ref aa)] ∧ Z.Warmed39 U.vm ∧ U.heap = h0) (fun _ _ _ _ _ => True) (fun _ U o U' => ∃ v L, o = .returned v ∧ Q15_00 Z aa ds fs xl li te xh hi h0 n0 v U'.heap L ∧ FrameEnd U o U' L ({ frames := 3, cells := 1, slots := 7, locals := 44 } : Room).cells ({ frames := 3, cells := 1, slots := 7, locals := 44 } : Room).slots) := by
  refine MetFree.of_bodySF (plainFor_of_name pn_15_00) hisR ?_
  intro p e s m args below meth c s₁ Bd hml0 hP hK
  obtain ⟨rfl, hZ, hh⟩ := hP
  have hx := Bd.exec
  have hby := Bd.bytes
  have hml : c.maxLocals = 1 := hml0
  have hown : s.vm.findClass "com/example/rootkeep/rootkeep/KeyRange" = some m.cls := findClass_of_methodNamed Bd.named
  have hnm := (name_of_methodNamed Bd.named Bd.method).1
  have X0 : Stand p l e ({ frames := 3, cells := 1, slots := 7, locals := 44 } : Room) s m #[(.ref aa)] below meth c s₁ [] 0 0 := Stand.of_body Bd
  have e0 : s₁.heap = h0 := by rw [← hh, Bd.state]; rfl
  have N0 := Fr.nil n0
  have K0 := Keep.refl h0 ([] : List Addr)
  show Go p e below s (Q15_00 Z aa ds fs xl li te xh hi h0 n0) ({ frames := 3, cells := 1, slots := 7, locals := 44 } : Room).cells ({ frames := 3, cells := 1, slots := 7, locals := 44 } : Room).slots (s₁.setTop (entryFrame m #[(.ref aa)] 1))
  rw [ef_15_00]
  show Go _ _ _ _ _ _ _ (s₁.setTop (mkF m 0 #[.val (.ref aa)] []))
  obtain ⟨T1, h1, X1, e1, E1, A1, D1, -, st1⟩ := newO X0 hx hZ hown (hw _ (List.mem_of_getElem? (i := 99) rfl)) (hw _ (List.mem_of_getElem? (i := 37) rfl)) (hw _ (List.mem_of_getElem? (i := 38) rfl)) e0 (g := (mkF m 0 #[.val (.ref aa)] [])) rfl (hb hby d15_0) (by decide) (by decide)
  obtain ⟨br, gz1⟩ : ∃ z, z = h0.size := ⟨_, rfl⟩
  have ne_aa_br : aa ≠ br := Nat.ne_of_lt (Nat.lt_of_lt_of_le F_descending_aa.lt (Nat.le_of_eq gz1.symm))
  have g_br : n0 ≤ br := Nat.le_trans Z0 (Nat.le_of_eq gz1.symm)
  have sz_br : h0.size ≤ br := Nat.le_trans K0.1 (Nat.le_of_eq gz1.symm)
  rw [← gz1] at A1 D1 st1
  replace F_descending_aa := F_descending_aa.ext E1
  replace F_fromStart_aa := F_fromStart_aa.ext E1
  replace F_lo_aa := F_lo_aa.ext E1
  replace F_loInclusive_aa := F_loInclusive_aa.ext E1
  replace F_toEnd_aa := F_toEnd_aa.ext E1
  replace F_hi_aa := F_hi_aa.ext E1
  replace F_hiInclusive_aa := F_hiInclusive_aa.ext E1
  replace E_aa := E_aa.ext E1
  have Z1 := Nat.le_trans Z0 E1.1
  have K1 := K0.ext E1
  have E_br := A1
  have F_descending_br : Fld Z h1 br "com/example/rootkeep/rootkeep/KeyRange" "descending" "Z" (.int (0 : Int32)) := D1 (Or.inr (hw _ (List.mem_of_getElem? (i := 49) rfl))) (ty := .boolean) (by decide)
  have F_fromStart_br : Fld Z h1 br "com/example/rootkeep/rootkeep/KeyRange" "fromStart" "Z" (.int (0 : Int32)) := D1 (Or.inr (hw _ (List.mem_of_getElem? (i := 51) rfl))) (ty := .boolean) (by decide)
  have F_lo_br : Fld Z h1 br "com/example/rootkeep/rootkeep/KeyRange" "lo" "Ljava/lang/Object;" .null := D1 (Or.inr (hw _ (List.mem_of_getElem? (i := 53) rfl))) (ty := (.object "java/lang/Object")) (by decide)
  have F_loInclusive_br : Fld Z h1 br "com/example/rootkeep/rootkeep/KeyRange" "loInclusive" "Z" (.int (0 : Int32)) := D1 (Or.inr (hw _ (List.mem_of_getElem? (i := 55) rfl))) (ty := .boolean) (by decide)
  have F_toEnd_br : Fld Z h1 br "com/example/rootkeep/rootkeep/KeyRange" "toEnd" "Z" (.int (0 : Int32)) := D1 (Or.inr (hw _ (List.mem_of_getElem? (i := 57) rfl))) (ty := .boolean) (by decide)
  have F_hi_br : Fld Z h1 br "com/example/rootkeep/rootkeep/KeyRange" "hi" "Ljava/lang/Object;" .null := D1 (Or.inr (hw _ (List.mem_of_getElem? (i := 59) rfl))) (ty := (.object "java/lang/Object")) (by decide)
  have F_hiInclusive_br : Fld Z h1 br "com/example/rootkeep/rootkeep/KeyRange" "hiInclusive" "Z" (.int (0 : Int32)) := D1 (Or.inr (hw _ (List.mem_of_getElem? (i := 61) rfl))) (ty := .boolean) (by decide)
  refine Go.step st1 ?_
  show Go _ _ _ _ _ _ _ (T1.setTop (mkF m 3 #[.val (.ref aa)] [(.ref br)]))
  refine Go.step (fun t k => XS.dup X1.here hx rfl (hb hby d15_3) rfl rfl k) ?_
  show Go _ _ _ _ _ _ _ (T1.setTop (mkF m 4 #[.val (.ref aa)] [(.ref br), (.ref br)]))
  refine Go.step (fun t k => XS.aloadN X1.here hx rfl (hb hby d15_4) rfl rfl k) ?_
  show Go _ _ _ _ _ _ _ (T1.setTop (mkF m 5 #[.val (.ref aa)] [(.ref aa), (.ref br), (.ref br)]))
  obtain ⟨T2, X2, e2, st2⟩ := getF X1 hx hZ hown (host := "") (Or.inl (hw _ (List.mem_of_getElem? (i := 48) rfl))) Via.refl e1 F_descending_aa (g := (mkF m 5 #[.val (.ref aa)] [(.ref aa), (.ref br), (.ref br)])) rfl rfl (hb hby d15_5)
  refine Go.step st2 ?_
  show Go _ _ _ _ _ _ _ (T2.setTop (mkF m 8 #[.val (.ref aa)] [(.int ds), (.ref br), (.ref br)]))
  -- joined again at pc 16
  obtain ⟨vn, hvn⟩ : ∃ z : Int32, z = (if ds = (0 : Int32) then (1 : Int32) else (0 : Int32)) := ⟨_, rfl⟩
  have st3 : ∀ t, Steps p.tables e below (T2.setTop (mkF m 16 #[.val (.ref aa)] [(.int vn), (.ref br), (.ref br)])) t → Steps p.tables e below (T2.setTop (mkF m 8 #[.val (.ref aa)] [(.int ds), (.ref br), (.ref br)])) t := by
    intro t kt
    by_cases hd8_4 : ds = (0 : Int32)
    · refine XS.ifNo X2.here hx rfl (hb hby d15_8) rfl ((if0 _ _).trans (teq hd8_4).2) ?_
      show Steps p.tables e below (T2.setTop (mkF m 11 #[.val (.ref aa)] [(.ref br), (.ref br)])) _
      refine XS.iconst X2.here hx rfl (hb hby d15_11) ?_
      show Steps p.tables e below (T2.setTop (mkF m 12 #[.val (.ref aa)] [(.int (1 : Int32)), (.ref br), (.ref br)])) _
      refine XS.goto X2.here hx rfl (pc0 := 12) (pc' := 16) rfl (hb hby d15_12) (by decide) (by decide) ?_
      show Steps p.tables e below (T2.setTop (mkF m 16 #[.val (.ref aa)] [(.int (1 : Int32)), (.ref br), (.ref br)])) _
      have qvn : vn = (1 : Int32) := by rw [hvn]; simp only [if_pos hd8_4]
      rw [qvn] at kt
      exact kt
    · refine XS.ifYes X2.here hx rfl (pc0 := 8) (pc' := 15) rfl (hb hby d15_8) rfl ((if0 _ _).trans (feq hd8_4).2) (by decide) (by decide) ?_
      show Steps p.tables e below (T2.setTop (mkF m 15 #[.val (.ref aa)] [(.ref br), (.ref br)])) _
      refine XS.iconst X2.here hx rfl (hb hby d15_15) ?_
      show Steps p.tables e below (T2.setTop (mkF m 16 #[.val (.ref aa)] [(.int (0 : Int32)), (.ref br), (.ref br)])) _
      have qvn : vn = (0 : Int32) := by rw [hvn]; simp only [if_neg hd8_4]
      rw [qvn] at kt
      exact kt
  refine Go.step st3 ?_
  show Go _ _ _ _ _ _ _ (T2.setTop (mkF m 16 #[.val (.ref aa)] [(.int vn), (.ref br), (.ref br)]))
  refine Go.step (fun t k => XS.aloadN X2.here hx rfl (hb hby d15_16) rfl rfl k) ?_
  show Go _ _ _ _ _ _ _ (T2.setTop (mkF m 17 #[.val (.ref aa)] [(.ref aa), (.int vn), (.ref br), (.ref br)]))
  obtain ⟨T5, X5, e5, st5⟩ := getF X2 hx hZ hown (host := "") (Or.inl (hw _ (List.mem_of_getElem? (i := 50) rfl))) Via.refl e2 F_fromStart_aa (g := (mkF m 17 #[.val (.ref aa)] [(.ref aa), (.int vn), (.ref br), (.ref br)])) rfl rfl (hb hby d15_17)
  refine Go.step st5 ?_
  show Go _ _ _ _ _ _ _ (T5.setTop (mkF m 20 #[.val (.ref aa)] [(.int fs), (.int vn), (.ref br), (.ref br)]))
  refine Go.step (fun t k => XS.aloadN X5.here hx rfl (hb hby d15_20) rfl rfl k) ?_
  show Go _ _ _ _ _ _ _ (T5.setTop (mkF m 21 #[.val (.ref aa)] [(.ref aa), (.int fs), (.int vn), (.ref br), (.ref br)]))
  obtain ⟨T6, X6, e6, st6⟩ := getF X5 hx hZ hown (host := "") (Or.inl (hw _ (List.mem_of_getElem? (i := 52) rfl))) Via.refl e5 F_lo_aa (g := (mkF m 21 #[.val (.ref aa)] [(.ref aa), (.int fs), (.int vn), (.ref br), (.ref br)])) rfl rfl (hb hby d15_21)
  refine Go.step st6 ?_
  show Go _ _ _ _ _ _ _ (T6.setTop (mkF m 24 #[.val (.ref aa)] [(.ref xl), (.int fs), (.int vn), (.ref br), (.ref br)]))
  refine Go.step (fun t k => XS.aloadN X6.here hx rfl (hb hby d15_24) rfl rfl k) ?_
  show Go _ _ _ _ _ _ _ (T6.setTop (mkF m 25 #[.val (.ref aa)] [(.ref aa), (.ref xl), (.int fs), (.int vn), (.ref br), (.ref br)]))
  obtain ⟨T7, X7, e7, st7⟩ := getF X6 hx hZ hown (host := "") (Or.inl (hw _ (List.mem_of_getElem? (i := 54) rfl))) Via.refl e6 F_loInclusive_aa (g := (mkF m 25 #[.val (.ref aa)] [(.ref aa), (.ref xl), (.int fs), (.int vn), (.ref br), (.ref br)])) rfl rfl (hb hby d15_25)
  refine Go.step st7 ?_
  show Go _ _ _ _ _ _ _ (T7.setTop (mkF m 28 #[.val (.ref aa)] [(.int li), (.ref xl), (.int fs), (.int vn), (.ref br), (.ref br)]))
  refine Go.step (fun t k => XS.aloadN X7.here hx rfl (hb hby d15_28) rfl rfl k) ?_
  show Go _ _ _ _ _ _ _ (T7.setTop (mkF m 29 #[.val (.ref aa)] [(.ref aa), (.int li), (.ref xl), (.int fs), (.int vn), (.ref br), (.ref br)]))
  obtain ⟨T8, X8, e8, st8⟩ := getF X7 hx hZ hown (host := "") (Or.inl (hw _ (List.mem_of_getElem? (i := 56) rfl))) Via.refl e7 F_toEnd_aa (g := (mkF m 29 #[.val (.ref aa)] [(.ref aa), (.int li), (.ref xl), (.int fs), (.int vn), (.ref br), (.ref br)])) rfl rfl (hb hby d15_29)
  refine Go.step st8 ?_
  show Go _ _ _ _ _ _ _ (T8.setTop (mkF m 32 #[.val (.ref aa)] [(.int te), (.int li), (.ref xl), (.int fs), (.int vn), (.ref br), (.ref br)]))
  refine Go.step (fun t k => XS.aloadN X8.here hx rfl (hb hby d15_32) rfl rfl k) ?_
  show Go _ _ _ _ _ _ _ (T8.setTop (mkF m 33 #[.val (.ref aa)] [(.ref aa), (.int te), (.int li), (.ref xl), (.int fs), (.int vn), (.ref br), (.ref br)]))
  obtain ⟨T9, X9, e9, st9⟩ := getF X8 hx hZ hown (host := "") (Or.inl (hw _ (List.mem_of_getElem? (i := 58) rfl))) Via.refl e8 F_hi_aa (g := (mkF m 33 #[.val (.ref aa)] [(.ref aa), (.int te), (.int li), (.ref xl), (.int fs), (.int vn), (.ref br), (.ref br)])) rfl rfl (hb hby d15_33)
  refine Go.step st9 ?_
  show Go _ _ _ _ _ _ _ (T9.setTop (mkF m 36 #[.val (.ref aa)] [(.ref xh), (.int te), (.int li), (.ref xl), (.int fs), (.int vn), (.ref br), (.ref br)]))
  refine Go.step (fun t k => XS.aloadN X9.here hx rfl (hb hby d15_36) rfl rfl k) ?_
  show Go _ _ _ _ _ _ _ (T9.setTop (mkF m 37 #[.val (.ref aa)] [(.ref aa), (.ref xh), (.int te), (.int li), (.ref xl), (.int fs), (.int vn), (.ref br), (.ref br)]))
  obtain ⟨T10, X10, e10, st10⟩ := getF X9 hx hZ hown (host := "") (Or.inl (hw _ (List.mem_of_getElem? (i := 60) rfl))) Via.refl e9 F_hiInclusive_aa (g := (mkF m 37 #[.val (.ref aa)] [(.ref aa), (.ref xh), (.int te), (.int li), (.ref xl), (.int fs), (.int vn), (.ref br), (.ref br)])) rfl rfl (hb hby d15_37)
  refine Go.step st10 ?_
  show Go _ _ _ _ _ _ _ (T10.setTop (mkF m 40 #[.val (.ref aa)] [(.int hi), (.ref xh), (.int te), (.int li), (.ref xl), (.int fs), (.int vn), (.ref br), (.ref br)]))
  obtain ⟨_, _, ⟨T11, L11, k11, n11⟩, -, X11, ⟨Lc11, hQ11, l11, y11, z11⟩, st11⟩ := X10.specialBack hx (y := (⟨"com/example/rootkeep/rootkeep/KeyRange", "<init>", "(ZZLjava/lang/Object;ZZLjava/lang/Object;Z)V"⟩ : MethodName)) rfl hown (mvT hZ (hw _ (List.mem_of_getElem? (i := 100) rfl))) (mvT hZ (hw _ (List.mem_of_getElem? (i := 40) rfl))) (mvT hZ (hw _ (List.mem_of_getElem? (i := 41) rfl))) (by decide) (backOf (W := 1) (rm7_00 l Z a0 hw [] br vn fs xl li te xh hi h1 n0 Z1 F_descending_br F_fromStart_br F_lo_br F_loInclusive_br F_toEnd_br F_hi_br F_hiInclusive_br E_br g_br (own_10 hvn) h_fs h_li h_te h_hi) hZ (hw _ (List.mem_of_getElem? (i := 41) rfl)) (hw _ (List.mem_of_getElem? (i := 38) rfl)) (by decide) (by decide)) (g := (mkF m 40 #[.val (.ref aa)] [(.int hi), (.ref xh), (.int te), (.int li), (.ref xl), (.int fs), (.int vn), (.ref br), (.ref br)])) rfl (by rw [hml]; rfl) (Steps.refl _) (a := br) (argsL := [(.int vn), (.int fs), (.ref xl), (.int li), (.int te), (.ref xh), (.int hi)]) (rest := [(.ref br)]) (lenOf pd_15_0_00 rfl) rfl (by show 2 * 0 + _ ≤ _; exact Nat.le_of_eq rfl) (hb hby d15_40) (fun _ _ => ⟨rfl, e10, (by decide : 1 + 0 ≤ _), (by decide : 7 + 0 ≤ _)⟩)
  dsimp only [Pt.U, Pt.locs, Pt.cells, Pt.slots] at X11 l11 y11 z11 st11 hQ11
  subst l11 y11 z11
  obtain ⟨rfl, N11q, K11q, o11_F_descending_br, o11_F_fromStart_br, o11_F_lo_br, o11_F_loInclusive_br, o11_F_toEnd_br, o11_F_hi_br, o11_F_hiInclusive_br⟩ := hQ11
  have N11 := Fr.app N0 N11q
  replace F_descending_aa := F_descending_aa.keep K11q (ninS ne_aa_br nin0)
  replace F_fromStart_aa := F_fromStart_aa.keep K11q (ninS ne_aa_br nin0)
  replace F_lo_aa := F_lo_aa.keep K11q (ninS ne_aa_br nin0)
  replace F_loInclusive_aa := F_loInclusive_aa.keep K11q (ninS ne_aa_br nin0)
  replace F_toEnd_aa := F_toEnd_aa.keep K11q (ninS ne_aa_br nin0)
  replace F_hi_aa := F_hi_aa.keep K11q (ninS ne_aa_br nin0)
  replace F_hiInclusive_aa := F_hiInclusive_aa.keep K11q (ninS ne_aa_br nin0)
  replace E_aa := E_aa.keep K11q
  replace E_br := E_br.keep K11q
  have Z11 := Nat.le_trans Z1 K11q.1
  have K11' := K1.trans K11q (allS (Or.inr sz_br) all0)
  have F_descending_br := o11_F_descending_br
  have F_fromStart_br := o11_F_fromStart_br
  have F_lo_br := o11_F_lo_br
  have F_loInclusive_br := o11_F_loInclusive_br
  have F_toEnd_br := o11_F_toEnd_br
  have F_hi_br := o11_F_hi_br
  have F_hiInclusive_br := o11_F_hiInclusive_br
  refine Go.step (fun t k => st11.trans k) ?_
  show Go _ _ _ _ _ _ _ (T11.setTop (mkF m 43 #[.val (.ref aa)] [(.ref br)]))
  refine Go.retA X11 Bd.notSynchronized hx Bd.returns rfl rfl rfl (hb hby d15_43) (by decide) (by decide) ?_
  exact ⟨br, rfl, N11, K11', E_br, F_fromStart_br, F_toEnd_br⟩
theorem pn_15_01 : plainName "com/example/rootkeep/rootkeep/KeyRange" = true := by first | (simp [plainName, overriddenIn]; done) | decide +kernel
theorem pd_15_0_01 : parseMethodDescriptor "(ZZLjava/lang/Object;ZZLjava/lang/Object;Z)V" = some ⟨[.boolean, .boolean, (.object "java/lang/Object"), .boolean, .boolean, (.object "java/lang/Object"), .boolean], none⟩ := by decide +kernel
theorem ef_15_01 (m : MethodId) (x0 : Addr) : entryFrame m #[(.ref x0)] 1 = mkF m 0 #[.val (.ref x0)] [] := by first | (simp [entryFrame, mkF, argsToLocals, Value.category]; done) | rfl
def Q15_01 (Z : State) (aa : Addr) (ds : Int32) (fs : Int32) (xl : Addr) (li : Int32) (te : Int32) (hi : Int32) (h0 : Heap) (n0 : Nat) (v : Option Value) (h : Heap) (L : List Loc) : Prop := ∃ br : Addr, v = some (.ref br) ∧ Fr n0 L ∧ Keep h0 h [] ∧ Exa Z h br "com/example/rootkeep/rootkeep/KeyRange" ∧ Fld Z h br "com/example/rootkeep/rootkeep/KeyRange" "fromStart" "Z" (.int fs) ∧ Fld Z h br "com/example/rootkeep/rootkeep/KeyRange" "toEnd" "Z" (.int te)
set_option maxRecDepth 65536 in
set_option maxHeartbeats 40000000 in
theorem rm15_01 (l : Launch) (Z : State) (a0 : Array Value) (hw : ∀ d ∈ tables_1, d.before a0 Z = true) (ws : List Jvm.Cond) (aa : Addr) (ds : Int32) (fs : Int32) (xl : Addr) (li : Int32) (te : Int32) (hi : Int32) (h0 : Heap) (n0 : Nat) (Z0 : n0 ≤ h0.size) (F_descending_aa : Fld Z h0 aa "com/example/rootkeep/rootkeep/KeyRange" "descending" "Z" (.int ds)) (F_fromStart_aa : Fld Z h0 aa "com/example/rootkeep/rootkeep/KeyRange" "fromStart" "Z" (.int fs)) (F_lo_aa : Fld Z h0 aa "com/example/rootkeep/rootkeep/KeyRange" "lo" "Ljava/lang/Object;" (.ref xl)) (F_loInclusive_aa : Fld Z h0 aa "com/example/rootkeep/rootkeep/KeyRange" "loInclusive" "Z" (.int li)) (F_toEnd_aa : Fld Z h0 aa "com/example/rootkeep/rootkeep/KeyRange" "toEnd" "Z" (.int te)) (F_hi_aa : Fld Z h0 aa "com/example/rootkeep/rootkeep/KeyRange" "hi" "Ljava/lang/Object;" .null) (F_hiInclusive_aa : Fld Z h0 aa "com/example/rootkeep/rootkeep/KeyRange" "hiInclusive" "Z" (.int hi)) (E_aa : Exa Z h0 aa "com/example/rootkeep/rootkeep/KeyRange") (h_ds : (ds = 0 ∨ ds = 1)) (h_fs : (fs = 0 ∨ fs = 1)) (h_li : (li = 0 ∨ li = 1)) (h_te : (te = 0 ∨ te = 1)) (h_hi : (hi = 0 ∨ hi = 1)) :
    MetFree l (⟨"com/example/rootkeep/rootkeep/KeyRange", "reversed", "()Lcom/example/rootkeep/rootkeep/KeyRange;"⟩ : MethodName) (head1 (Jvm.Cond.code (⟨"com/example/rootkeep/rootkeep/KeyRange", "reversed", "()Lcom/example/rootkeep/rootkeep/KeyRange;"⟩ : MethodName) prog_1_method_9_code 1 (some (.object "com/example/rootkeep/rootkeep/KeyRange")) :: ws) ({ frames := 3, cells := 1, slots := 7, locals := 44 } : Room)) (fun a U => a = #[(.ref aa)] ∧ Z.Warmed39 U.vm ∧ U.heap = h0) (fun _ _ _ _ _ => True) (fun _ U o U' => ∃ v L, o = .returned v ∧ Q15_01 Z aa ds fs xl li te hi h0 n0 v U'.heap L ∧ FrameEnd U o U' L ({ frames := 3, cells := 1, slots := 7, locals := 44 } : Room).cells ({ frames := 3, cells := 1, slots := 7, locals := 44 } : Room).slots) := by
  refine MetFree.of_bodySF (plainFor_of_name pn_15_01) hisR ?_
  intro p e s m args below meth c s₁ Bd hml0 hP hK
  obtain ⟨rfl, hZ, hh⟩ := hP
  have hx := Bd.exec
  have hby := Bd.bytes
  have hml : c.maxLocals = 1 := hml0
  have hown : s.vm.findClass "com/example/rootkeep/rootkeep/KeyRange" = some m.cls := findClass_of_methodNamed Bd.named
  have hnm := (name_of_methodNamed Bd.named Bd.method).1
  have X0 : Stand p l e ({ frames := 3, cells := 1, slots := 7, locals := 44 } : Room) s m #[(.ref aa)] below meth c s₁ [] 0 0 := Stand.of_body Bd
  have e0 : s₁.heap = h0 := by rw [← hh, Bd.state]; rfl
  have N0 := Fr.nil n0
  have K0 := Keep.refl h0 ([] : List Addr)
  show Go p e below s (Q15_01 Z aa ds fs xl li te hi h0 n0) ({ frames := 3, cells := 1, slots := 7, locals := 44 } : Room).cells ({ frames := 3, cells := 1, slots := 7, locals := 44 } : Room).slots (s₁.setTop (entryFrame m #[(.ref aa)] 1))
  rw [ef_15_01]
  show Go _ _ _ _ _ _ _ (s₁.setTop (mkF m 0 #[.val (.ref aa)] []))
  obtain ⟨T1, h1, X1, e1, E1, A1, D1, -, st1⟩ := newO X0 hx hZ hown (hw _ (List.mem_of_getElem? (i := 99) rfl)) (hw _ (List.mem_of_getElem? (i := 37) rfl)) (hw _ (List.mem_of_getElem? (i := 38) rfl)) e0 (g := (mkF m 0 #[.val (.ref aa)] [])) rfl (hb hby d15_0) (by decide) (by decide)
  obtain ⟨br, gz1⟩ : ∃ z, z = h0.size := ⟨_, rfl⟩
  have ne_aa_br : aa ≠ br := Nat.ne_of_lt (Nat.lt_of_lt_of_le F_descending_aa.lt (Nat.le_of_eq gz1.symm))
  have g_br : n0 ≤ br := Nat.le_trans Z0 (Nat.le_of_eq gz1.symm)
  have sz_br : h0.size ≤ br := Nat.le_trans K0.1 (Nat.le_of_eq gz1.symm)
  rw [← gz1] at A1 D1 st1
  replace F_descending_aa := F_descending_aa.ext E1
  replace F_fromStart_aa := F_fromStart_aa.ext E1
  replace F_lo_aa := F_lo_aa.ext E1
  replace F_loInclusive_aa := F_loInclusive_aa.ext E1
  replace F_toEnd_aa := F_toEnd_aa.ext E1
  replace F_hi_aa := F_hi_aa.ext E1
  replace F_hiInclusive_aa := F_hiInclusive_aa.ext E1
  replace E_aa := E_aa.ext E1
  have Z1 := Nat.le_trans Z0 E1.1
  have K1 := K0.ext E1
  have E_br := A1
  have F_descending_br : Fld Z h1 br "com/example/rootkeep/rootkeep/KeyRange" "descending" "Z" (.int (0 : Int32)) := D1 (Or.inr (hw _ (List.mem_of_getElem? (i := 49) rfl))) (ty := .boolean) (by decide)
  have F_fromStart_br : Fld Z h1 br "com/example/rootkeep/rootkeep/KeyRange" "fromStart" "Z" (.int (0 : Int32)) := D1 (Or.inr (hw _ (List.mem_of_getElem? (i := 51) rfl))) (ty := .boolean) (by decide)
  have F_lo_br : Fld Z h1 br "com/example/rootkeep/rootkeep/KeyRange" "lo" "Ljava/lang/Object;" .null := D1 (Or.inr (hw _ (List.mem_of_getElem? (i := 53) rfl))) (ty := (.object "java/lang/Object")) (by decide)
  have F_loInclusive_br : Fld Z h1 br "com/example/rootkeep/rootkeep/KeyRange" "loInclusive" "Z" (.int (0 : Int32)) := D1 (Or.inr (hw _ (List.mem_of_getElem? (i := 55) rfl))) (ty := .boolean) (by decide)
  have F_toEnd_br : Fld Z h1 br "com/example/rootkeep/rootkeep/KeyRange" "toEnd" "Z" (.int (0 : Int32)) := D1 (Or.inr (hw _ (List.mem_of_getElem? (i := 57) rfl))) (ty := .boolean) (by decide)
  have F_hi_br : Fld Z h1 br "com/example/rootkeep/rootkeep/KeyRange" "hi" "Ljava/lang/Object;" .null := D1 (Or.inr (hw _ (List.mem_of_getElem? (i := 59) rfl))) (ty := (.object "java/lang/Object")) (by decide)
  have F_hiInclusive_br : Fld Z h1 br "com/example/rootkeep/rootkeep/KeyRange" "hiInclusive" "Z" (.int (0 : Int32)) := D1 (Or.inr (hw _ (List.mem_of_getElem? (i := 61) rfl))) (ty := .boolean) (by decide)
  refine Go.step st1 ?_
  show Go _ _ _ _ _ _ _ (T1.setTop (mkF m 3 #[.val (.ref aa)] [(.ref br)]))
  refine Go.step (fun t k => XS.dup X1.here hx rfl (hb hby d15_3) rfl rfl k) ?_
  show Go _ _ _ _ _ _ _ (T1.setTop (mkF m 4 #[.val (.ref aa)] [(.ref br), (.ref br)]))
  refine Go.step (fun t k => XS.aloadN X1.here hx rfl (hb hby d15_4) rfl rfl k) ?_
  show Go _ _ _ _ _ _ _ (T1.setTop (mkF m 5 #[.val (.ref aa)] [(.ref aa), (.ref br), (.ref br)]))
  obtain ⟨T2, X2, e2, st2⟩ := getF X1 hx hZ hown (host := "") (Or.inl (hw _ (List.mem_of_getElem? (i := 48) rfl))) Via.refl e1 F_descending_aa (g := (mkF m 5 #[.val (.ref aa)] [(.ref aa), (.ref br), (.ref br)])) rfl rfl (hb hby d15_5)
  refine Go.step st2 ?_
  show Go _ _ _ _ _ _ _ (T2.setTop (mkF m 8 #[.val (.ref aa)] [(.int ds), (.ref br), (.ref br)]))
  -- joined again at pc 16
  obtain ⟨vn, hvn⟩ : ∃ z : Int32, z = (if ds = (0 : Int32) then (1 : Int32) else (0 : Int32)) := ⟨_, rfl⟩
  have st3 : ∀ t, Steps p.tables e below (T2.setTop (mkF m 16 #[.val (.ref aa)] [(.int vn), (.ref br), (.ref br)])) t → Steps p.tables e below (T2.setTop (mkF m 8 #[.val (.ref aa)] [(.int ds), (.ref br), (.ref br)])) t := by
    intro t kt
    by_cases hd8_4 : ds = (0 : Int32)
    · refine XS.ifNo X2.here hx rfl (hb hby d15_8) rfl ((if0 _ _).trans (teq hd8_4).2) ?_
      show Steps p.tables e below (T2.setTop (mkF m 11 #[.val (.ref aa)] [(.ref br), (.ref br)])) _
      refine XS.iconst X2.here hx rfl (hb hby d15_11) ?_
      show Steps p.tables e below (T2.setTop (mkF m 12 #[.val (.ref aa)] [(.int (1 : Int32)), (.ref br), (.ref br)])) _
      refine XS.goto X2.here hx rfl (pc0 := 12) (pc' := 16) rfl (hb hby d15_12) (by decide) (by decide) ?_
      show Steps p.tables e below (T2.setTop (mkF m 16 #[.val (.ref aa)] [(.int (1 : Int32)), (.ref br), (.ref br)])) _
      have qvn : vn = (1 : Int32) := by rw [hvn]; simp only [if_pos hd8_4]
      rw [qvn] at kt
      exact kt
    · refine XS.ifYes X2.here hx rfl (pc0 := 8) (pc' := 15) rfl (hb hby d15_8) rfl ((if0 _ _).trans (feq hd8_4).2) (by decide) (by decide) ?_
      show Steps p.tables e below (T2.setTop (mkF m 15 #[.val (.ref aa)] [(.ref br), (.ref br)])) _
      refine XS.iconst X2.here hx rfl (hb hby d15_15) ?_
      show Steps p.tables e below (T2.setTop (mkF m 16 #[.val (.ref aa)] [(.int (0 : Int32)), (.ref br), (.ref br)])) _
      have qvn : vn = (0 : Int32) := by rw [hvn]; simp only [if_neg hd8_4]
      rw [qvn] at kt
      exact kt
  refine Go.step st3 ?_
  show Go _ _ _ _ _ _ _ (T2.setTop (mkF m 16 #[.val (.ref aa)] [(.int vn), (.ref br), (.ref br)]))
  refine Go.step (fun t k => XS.aloadN X2.here hx rfl (hb hby d15_16) rfl rfl k) ?_
  show Go _ _ _ _ _ _ _ (T2.setTop (mkF m 17 #[.val (.ref aa)] [(.ref aa), (.int vn), (.ref br), (.ref br)]))
  obtain ⟨T5, X5, e5, st5⟩ := getF X2 hx hZ hown (host := "") (Or.inl (hw _ (List.mem_of_getElem? (i := 50) rfl))) Via.refl e2 F_fromStart_aa (g := (mkF m 17 #[.val (.ref aa)] [(.ref aa), (.int vn), (.ref br), (.ref br)])) rfl rfl (hb hby d15_17)
  refine Go.step st5 ?_
  show Go _ _ _ _ _ _ _ (T5.setTop (mkF m 20 #[.val (.ref aa)] [(.int fs), (.int vn), (.ref br), (.ref br)]))
  refine Go.step (fun t k => XS.aloadN X5.here hx rfl (hb hby d15_20) rfl rfl k) ?_
  show Go _ _ _ _ _ _ _ (T5.setTop (mkF m 21 #[.val (.ref aa)] [(.ref aa), (.int fs), (.int vn), (.ref br), (.ref br)]))
  obtain ⟨T6, X6, e6, st6⟩ := getF X5 hx hZ hown (host := "") (Or.inl (hw _ (List.mem_of_getElem? (i := 52) rfl))) Via.refl e5 F_lo_aa (g := (mkF m 21 #[.val (.ref aa)] [(.ref aa), (.int fs), (.int vn), (.ref br), (.ref br)])) rfl rfl (hb hby d15_21)
  refine Go.step st6 ?_
  show Go _ _ _ _ _ _ _ (T6.setTop (mkF m 24 #[.val (.ref aa)] [(.ref xl), (.int fs), (.int vn), (.ref br), (.ref br)]))
  refine Go.step (fun t k => XS.aloadN X6.here hx rfl (hb hby d15_24) rfl rfl k) ?_
  show Go _ _ _ _ _ _ _ (T6.setTop (mkF m 25 #[.val (.ref aa)] [(.ref aa), (.ref xl), (.int fs), (.int vn), (.ref br), (.ref br)]))
  obtain ⟨T7, X7, e7, st7⟩ := getF X6 hx hZ hown (host := "") (Or.inl (hw _ (List.mem_of_getElem? (i := 54) rfl))) Via.refl e6 F_loInclusive_aa (g := (mkF m 25 #[.val (.ref aa)] [(.ref aa), (.ref xl), (.int fs), (.int vn), (.ref br), (.ref br)])) rfl rfl (hb hby d15_25)
  refine Go.step st7 ?_
  show Go _ _ _ _ _ _ _ (T7.setTop (mkF m 28 #[.val (.ref aa)] [(.int li), (.ref xl), (.int fs), (.int vn), (.ref br), (.ref br)]))
  refine Go.step (fun t k => XS.aloadN X7.here hx rfl (hb hby d15_28) rfl rfl k) ?_
  show Go _ _ _ _ _ _ _ (T7.setTop (mkF m 29 #[.val (.ref aa)] [(.ref aa), (.int li), (.ref xl), (.int fs), (.int vn), (.ref br), (.ref br)]))
  obtain ⟨T8, X8, e8, st8⟩ := getF X7 hx hZ hown (host := "") (Or.inl (hw _ (List.mem_of_getElem? (i := 56) rfl))) Via.refl e7 F_toEnd_aa (g := (mkF m 29 #[.val (.ref aa)] [(.ref aa), (.int li), (.ref xl), (.int fs), (.int vn), (.ref br), (.ref br)])) rfl rfl (hb hby d15_29)
  refine Go.step st8 ?_
  show Go _ _ _ _ _ _ _ (T8.setTop (mkF m 32 #[.val (.ref aa)] [(.int te), (.int li), (.ref xl), (.int fs), (.int vn), (.ref br), (.ref br)]))
  refine Go.step (fun t k => XS.aloadN X8.here hx rfl (hb hby d15_32) rfl rfl k) ?_
  show Go _ _ _ _ _ _ _ (T8.setTop (mkF m 33 #[.val (.ref aa)] [(.ref aa), (.int te), (.int li), (.ref xl), (.int fs), (.int vn), (.ref br), (.ref br)]))
  obtain ⟨T9, X9, e9, st9⟩ := getF X8 hx hZ hown (host := "") (Or.inl (hw _ (List.mem_of_getElem? (i := 58) rfl))) Via.refl e8 F_hi_aa (g := (mkF m 33 #[.val (.ref aa)] [(.ref aa), (.int te), (.int li), (.ref xl), (.int fs), (.int vn), (.ref br), (.ref br)])) rfl rfl (hb hby d15_33)
  refine Go.step st9 ?_
  show Go _ _ _ _ _ _ _ (T9.setTop (mkF m 36 #[.val (.ref aa)] [.null, (.int te), (.int li), (.ref xl), (.int fs), (.int vn), (.ref br), (.ref br)]))
  refine Go.step (fun t k => XS.aloadN X9.here hx rfl (hb hby d15_36) rfl rfl k) ?_
  show Go _ _ _ _ _ _ _ (T9.setTop (mkF m 37 #[.val (.ref aa)] [(.ref aa), .null, (.int te), (.int li), (.ref xl), (.int fs), (.int vn), (.ref br), (.ref br)]))
  obtain ⟨T10, X10, e10, st10⟩ := getF X9 hx hZ hown (host := "") (Or.inl (hw _ (List.mem_of_getElem? (i := 60) rfl))) Via.refl e9 F_hiInclusive_aa (g := (mkF m 37 #[.val (.ref aa)] [(.ref aa), .null, (.int te), (.int li), (.ref xl), (.int fs), (.int vn), (.ref br), (.ref br)])) rfl rfl (hb hby d15_37)
  refine Go.step st10 ?_
  show Go _ _ _ _ _ _ _ (T10.setTop (mkF m 40 #[.val (.ref aa)] [(.int hi), .null, (.int te), (.int li), (.ref xl), (.int fs), (.int vn), (.ref br), (.ref br)]))
  obtain ⟨_, _, ⟨T11, L11, k11, n11⟩, -, X11, ⟨Lc11, hQ11, l11, y11, z11⟩, st11⟩ := X10.specialBack hx (y := (⟨"com/example/rootkeep/rootkeep/KeyRange", "<init>", "(ZZLjava/lang/Object;ZZLjava/lang/Object;Z)V"⟩ : MethodName)) rfl hown (mvT hZ (hw _ (List.mem_of_getElem? (i := 100) rfl))) (mvT hZ (hw _ (List.mem_of_getElem? (i := 40) rfl))) (mvT hZ (hw _ (List.mem_of_getElem? (i := 41) rfl))) (by decide) (backOf (W := 1) (rm7_01 l Z a0 hw [] br vn fs xl li te hi h1 n0 Z1 F_descending_br F_fromStart_br F_lo_br F_loInclusive_br F_toEnd_br F_hi_br F_hiInclusive_br E_br g_br (own_10 hvn) h_fs h_li h_te h_hi) hZ (hw _ (List.mem_of_getElem? (i := 41) rfl)) (hw _ (List.mem_of_getElem? (i := 38) rfl)) (by decide) (by decide)) (g := (mkF m 40 #[.val (.ref aa)] [(.int hi), .null, (.int te), (.int li), (.ref xl), (.int fs), (.int vn), (.ref br), (.ref br)])) rfl (by rw [hml]; rfl) (Steps.refl _) (a := br) (argsL := [(.int vn), (.int fs), (.ref xl), (.int li), (.int te), .null, (.int hi)]) (rest := [(.ref br)]) (lenOf pd_15_0_01 rfl) rfl (by show 2 * 0 + _ ≤ _; exact Nat.le_of_eq rfl) (hb hby d15_40) (fun _ _ => ⟨rfl, e10, (by decide : 1 + 0 ≤ _), (by decide : 7 + 0 ≤ _)⟩)
  dsimp only [Pt.U, Pt.locs, Pt.cells, Pt.slots] at X11 l11 y11 z11 st11 hQ11
  subst l11 y11 z11
  obtain ⟨rfl, N11q, K11q, o11_F_descending_br, o11_F_fromStart_br, o11_F_lo_br, o11_F_loInclusive_br, o11_F_toEnd_br, o11_F_hi_br, o11_F_hiInclusive_br⟩ := hQ11
  have N11 := Fr.app N0 N11q
  replace F_descending_aa := F_descending_aa.keep K11q (ninS ne_aa_br nin0)
  replace F_fromStart_aa := F_fromStart_aa.keep K11q (ninS ne_aa_br nin0)
  replace F_lo_aa := F_lo_aa.keep K11q (ninS ne_aa_br nin0)
  replace F_loInclusive_aa := F_loInclusive_aa.keep K11q (ninS ne_aa_br nin0)
  replace F_toEnd_aa := F_toEnd_aa.keep K11q (ninS ne_aa_br nin0)
  replace F_hi_aa := F_hi_aa.keep K11q (ninS ne_aa_br nin0)
  replace F_hiInclusive_aa := F_hiInclusive_aa.keep K11q (ninS ne_aa_br nin0)
  replace E_aa := E_aa.keep K11q
  replace E_br := E_br.keep K11q
  have Z11 := Nat.le_trans Z1 K11q.1
  have K11' := K1.trans K11q (allS (Or.inr sz_br) all0)
  have F_descending_br := o11_F_descending_br
  have F_fromStart_br := o11_F_fromStart_br
  have F_lo_br := o11_F_lo_br
  have F_loInclusive_br := o11_F_loInclusive_br
  have F_toEnd_br := o11_F_toEnd_br
  have F_hi_br := o11_F_hi_br
  have F_hiInclusive_br := o11_F_hiInclusive_br
  refine Go.step (fun t k => st11.trans k) ?_
  show Go _ _ _ _ _ _ _ (T11.setTop (mkF m 43 #[.val (.ref aa)] [(.ref br)]))
  refine Go.retA X11 Bd.notSynchronized hx Bd.returns rfl rfl rfl (hb hby d15_43) (by decide) (by decide) ?_
  exact ⟨br, rfl, N11, K11', E_br, F_fromStart_br, F_toEnd_br⟩
theorem pn_15_10 : plainName "com/example/rootkeep/rootkeep/KeyRange" = true := by first | (simp [plainName, overriddenIn]; done) | decide +kernel
theorem pd_15_0_10 : parseMethodDescriptor "(ZZLjava/lang/Object;ZZLjava/lang/Object;Z)V" = some ⟨[.boolean, .boolean, (.object "java/lang/Object"), .boolean, .boolean, (.object "java/lang/Object"), .boolean], none⟩ := by decide +kernel
theorem ef_15_10 (m : MethodId) (x0 : Addr) : entryFrame m #[(.ref x0)] 1 = mkF m 0 #[.val (.ref x0)] [] := by first | (simp [entryFrame, mkF, argsToLocals, Value.category]; done) | rfl
def Q15_10 (Z : State) (aa : Addr) (ds : Int32) (fs : Int32) (li : Int32) (te : Int32) (xh : Addr) (hi : Int32) (h0 : Heap) (n0 : Nat) (v : Option Value) (h : Heap) (L : List Loc) : Prop := ∃ br : Addr, v = some (.ref br) ∧ Fr n0 L ∧ Keep h0 h [] ∧ Exa Z h br "com/example/rootkeep/rootkeep/KeyRange" ∧ Fld Z h br "com/example/rootkeep/rootkeep/KeyRange" "fromStart" "Z" (.int fs) ∧ Fld Z h br "com/example/rootkeep/rootkeep/KeyRange" "toEnd" "Z" (.int te)
set_option maxRecDepth 65536 in
set_option maxHeartbeats 40000000 in
theorem rm15_10 (l : Launch) (Z : State) (a0 : Array Value) (hw : ∀ d ∈ tables_1, d.before a0 Z = true) (ws : List Jvm.Cond) (aa : Addr) (ds : Int32) (fs : Int32) (li : Int32) (te : Int32) (xh : Addr) (hi : Int32) (h0 : Heap) (n0 : Nat) (Z0 : n0 ≤ h0.size) (F_descending_aa : Fld Z h0 aa "com/example/rootkeep/rootkeep/KeyRange" "descending" "Z" (.int ds)) (F_fromStart_aa : Fld Z h0 aa "com/example/rootkeep/rootkeep/KeyRange" "fromStart" "Z" (.int fs)) (F_lo_aa : Fld Z h0 aa "com/example/rootkeep/rootkeep/KeyRange" "lo" "Ljava/lang/Object;" .null) (F_loInclusive_aa : Fld Z h0 aa "com/example/rootkeep/rootkeep/KeyRange" "loInclusive" "Z" (.int li)) (F_toEnd_aa : Fld Z h0 aa "com/example/rootkeep/rootkeep/KeyRange" "toEnd" "Z" (.int te)) (F_hi_aa : Fld Z h0 aa "com/example/rootkeep/rootkeep/KeyRange" "hi" "Ljava/lang/Object;" (.ref xh)) (F_hiInclusive_aa : Fld Z h0 aa "com/example/rootkeep/rootkeep/KeyRange" "hiInclusive" "Z" (.int hi)) (E_aa : Exa Z h0 aa "com/example/rootkeep/rootkeep/KeyRange") (h_ds : (ds = 0 ∨ ds = 1)) (h_fs : (fs = 0 ∨ fs = 1)) (h_li : (li = 0 ∨ li = 1)) (h_te : (te = 0 ∨ te = 1)) (h_hi : (hi = 0 ∨ hi = 1)) :
    MetFree l (⟨"com/example/rootkeep/rootkeep/KeyRange", "reversed", "()Lcom/example/rootkeep/rootkeep/KeyRange;"⟩ : MethodName) (head1 (Jvm.Cond.code (⟨"com/example/rootkeep/rootkeep/KeyRange", "reversed", "()Lcom/example/rootkeep/rootkeep/KeyRange;"⟩ : MethodName) prog_1_method_9_code 1 (some (.object "com/example/rootkeep/rootkeep/KeyRange")) :: ws) ({ frames := 3, cells := 1, slots := 7, locals := 44 } : Room)) (fun a U => a = #[(.ref aa)] ∧ Z.Warmed39 U.vm ∧ U.heap = h0) (fun _ _ _ _ _ => True) (fun _ U o U' => ∃ v L, o = .returned v ∧ Q15_10 Z aa ds fs li te xh hi h0 n0 v U'.heap L ∧ FrameEnd U o U' L ({ frames := 3, cells := 1, slots := 7, locals := 44 } : Room).cells ({ frames := 3, cells := 1, slots := 7, locals := 44 } : Room).slots) := by
  refine MetFree.of_bodySF (plainFor_of_name pn_15_10) hisR ?_
  intro p e s m args below meth c s₁ Bd hml0 hP hK
  obtain ⟨rfl, hZ, hh⟩ := hP
  have hx := Bd.exec
  have hby := Bd.bytes
  have hml : c.maxLocals = 1 := hml0
  have hown : s.vm.findClass "com/example/rootkeep/rootkeep/KeyRange" = some m.cls := findClass_of_methodNamed Bd.named
  have hnm := (name_of_methodNamed Bd.named Bd.method).1
  have X0 : Stand p l e ({ frames := 3, cells := 1, slots := 7, locals := 44 } : Room) s m #[(.ref aa)] below meth c s₁ [] 0 0 := Stand.of_body Bd
  have e0 : s₁.heap = h0 := by rw [← hh, Bd.state]; rfl
  have N0 := Fr.nil n0
  have K0 := Keep.refl h0 ([] : List Addr)
  show Go p e below s (Q15_10 Z aa ds fs li te xh hi h0 n0) ({ frames := 3, cells := 1, slots := 7, locals := 44 } : Room).cells ({ frames := 3, cells := 1, slots := 7, locals := 44 } : Room).slots (s₁.setTop (entryFrame m #[(.ref aa)] 1))
  rw [ef_15_10]
  show Go _ _ _ _ _ _ _ (s₁.setTop (mkF m 0 #[.val (.ref aa)] []))
  obtain ⟨T1, h1, X1, e1, E1, A1, D1, -, st1⟩ := newO X0 hx hZ hown (hw _ (List.mem_of_getElem? (i := 99) rfl)) (hw _ (List.mem_of_getElem? (i := 37) rfl)) (hw _ (List.mem_of_getElem? (i := 38) rfl)) e0 (g := (mkF m 0 #[.val (.ref aa)] [])) rfl (hb hby d15_0) (by decide) (by decide)
  obtain ⟨br, gz1⟩ : ∃ z, z = h0.size := ⟨_, rfl⟩
  have ne_aa_br : aa ≠ br := Nat.ne_of_lt (Nat.lt_of_lt_of_le F_descending_aa.lt (Nat.le_of_eq gz1.symm))
  have g_br : n0 ≤ br := Nat.le_trans Z0 (Nat.le_of_eq gz1.symm)
  have sz_br : h0.size ≤ br := Nat.le_trans K0.1 (Nat.le_of_eq gz1.symm)
  rw [← gz1] at A1 D1 st1
  replace F_descending_aa := F_descending_aa.ext E1
  replace F_fromStart_aa := F_fromStart_aa.ext E1
  replace F_lo_aa := F_lo_aa.ext E1
  replace F_loInclusive_aa := F_loInclusive_aa.ext E1
  replace F_toEnd_aa := F_toEnd_aa.ext E1
  replace F_hi_aa := F_hi_aa.ext E1
  replace F_hiInclusive_aa := F_hiInclusive_aa.ext E1
  replace E_aa := E_aa.ext E1
  have Z1 := Nat.le_trans Z0 E1.1
  have K1 := K0.ext E1
  have E_br := A1
  have F_descending_br : Fld Z h1 br "com/example/rootkeep/rootkeep/KeyRange" "descending" "Z" (.int (0 : Int32)) := D1 (Or.inr (hw _ (List.mem_of_getElem? (i := 49) rfl))) (ty := .boolean) (by decide)
  have F_fromStart_br : Fld Z h1 br "com/example/rootkeep/rootkeep/KeyRange" "fromStart" "Z" (.int (0 : Int32)) := D1 (Or.inr (hw _ (List.mem_of_getElem? (i := 51) rfl))) (ty := .boolean) (by decide)
  have F_lo_br : Fld Z h1 br "com/example/rootkeep/rootkeep/KeyRange" "lo" "Ljava/lang/Object;" .null := D1 (Or.inr (hw _ (List.mem_of_getElem? (i := 53) rfl))) (ty := (.object "java/lang/Object")) (by decide)
  have F_loInclusive_br : Fld Z h1 br "com/example/rootkeep/rootkeep/KeyRange" "loInclusive" "Z" (.int (0 : Int32)) := D1 (Or.inr (hw _ (List.mem_of_getElem? (i := 55) rfl))) (ty := .boolean) (by decide)
  have F_toEnd_br : Fld Z h1 br "com/example/rootkeep/rootkeep/KeyRange" "toEnd" "Z" (.int (0 : Int32)) := D1 (Or.inr (hw _ (List.mem_of_getElem? (i := 57) rfl))) (ty := .boolean) (by decide)
  have F_hi_br : Fld Z h1 br "com/example/rootkeep/rootkeep/KeyRange" "hi" "Ljava/lang/Object;" .null := D1 (Or.inr (hw _ (List.mem_of_getElem? (i := 59) rfl))) (ty := (.object "java/lang/Object")) (by decide)
  have F_hiInclusive_br : Fld Z h1 br "com/example/rootkeep/rootkeep/KeyRange" "hiInclusive" "Z" (.int (0 : Int32)) := D1 (Or.inr (hw _ (List.mem_of_getElem? (i := 61) rfl))) (ty := .boolean) (by decide)
  refine Go.step st1 ?_
  show Go _ _ _ _ _ _ _ (T1.setTop (mkF m 3 #[.val (.ref aa)] [(.ref br)]))
  refine Go.step (fun t k => XS.dup X1.here hx rfl (hb hby d15_3) rfl rfl k) ?_
  show Go _ _ _ _ _ _ _ (T1.setTop (mkF m 4 #[.val (.ref aa)] [(.ref br), (.ref br)]))
  refine Go.step (fun t k => XS.aloadN X1.here hx rfl (hb hby d15_4) rfl rfl k) ?_
  show Go _ _ _ _ _ _ _ (T1.setTop (mkF m 5 #[.val (.ref aa)] [(.ref aa), (.ref br), (.ref br)]))
  obtain ⟨T2, X2, e2, st2⟩ := getF X1 hx hZ hown (host := "") (Or.inl (hw _ (List.mem_of_getElem? (i := 48) rfl))) Via.refl e1 F_descending_aa (g := (mkF m 5 #[.val (.ref aa)] [(.ref aa), (.ref br), (.ref br)])) rfl rfl (hb hby d15_5)
  refine Go.step st2 ?_
  show Go _ _ _ _ _ _ _ (T2.setTop (mkF m 8 #[.val (.ref aa)] [(.int ds), (.ref br), (.ref br)]))
  -- joined again at pc 16
  obtain ⟨vn, hvn⟩ : ∃ z : Int32, z = (if ds = (0 : Int32) then (1 : Int32) else (0 : Int32)) := ⟨_, rfl⟩
  have st3 : ∀ t, Steps p.tables e below (T2.setTop (mkF m 16 #[.val (.ref aa)] [(.int vn), (.ref br), (.ref br)])) t → Steps p.tables e below (T2.setTop (mkF m 8 #[.val (.ref aa)] [(.int ds), (.ref br), (.ref br)])) t := by
    intro t kt
    by_cases hd8_4 : ds = (0 : Int32)
    · refine XS.ifNo X2.here hx rfl (hb hby d15_8) rfl ((if0 _ _).trans (teq hd8_4).2) ?_
      show Steps p.tables e below (T2.setTop (mkF m 11 #[.val (.ref aa)] [(.ref br), (.ref br)])) _
      refine XS.iconst X2.here hx rfl (hb hby d15_11) ?_
      show Steps p.tables e below (T2.setTop (mkF m 12 #[.val (.ref aa)] [(.int (1 : Int32)), (.ref br), (.ref br)])) _
      refine XS.goto X2.here hx rfl (pc0 := 12) (pc' := 16) rfl (hb hby d15_12) (by decide) (by decide) ?_
      show Steps p.tables e below (T2.setTop (mkF m 16 #[.val (.ref aa)] [(.int (1 : Int32)), (.ref br), (.ref br)])) _
      have qvn : vn = (1 : Int32) := by rw [hvn]; simp only [if_pos hd8_4]
      rw [qvn] at kt
      exact kt
    · refine XS.ifYes X2.here hx rfl (pc0 := 8) (pc' := 15) rfl (hb hby d15_8) rfl ((if0 _ _).trans (feq hd8_4).2) (by decide) (by decide) ?_
      show Steps p.tables e below (T2.setTop (mkF m 15 #[.val (.ref aa)] [(.ref br), (.ref br)])) _
      refine XS.iconst X2.here hx rfl (hb hby d15_15) ?_
      show Steps p.tables e below (T2.setTop (mkF m 16 #[.val (.ref aa)] [(.int (0 : Int32)), (.ref br), (.ref br)])) _
      have qvn : vn = (0 : Int32) := by rw [hvn]; simp only [if_neg hd8_4]
      rw [qvn] at kt
      exact kt
  refine Go.step st3 ?_
  show Go _ _ _ _ _ _ _ (T2.setTop (mkF m 16 #[.val (.ref aa)] [(.int vn), (.ref br), (.ref br)]))
  refine Go.step (fun t k => XS.aloadN X2.here hx rfl (hb hby d15_16) rfl rfl k) ?_
  show Go _ _ _ _ _ _ _ (T2.setTop (mkF m 17 #[.val (.ref aa)] [(.ref aa), (.int vn), (.ref br), (.ref br)]))
  obtain ⟨T5, X5, e5, st5⟩ := getF X2 hx hZ hown (host := "") (Or.inl (hw _ (List.mem_of_getElem? (i := 50) rfl))) Via.refl e2 F_fromStart_aa (g := (mkF m 17 #[.val (.ref aa)] [(.ref aa), (.int vn), (.ref br), (.ref br)])) rfl rfl (hb hby d15_17)
  refine Go.step st5 ?_
  show Go _ _ _ _ _ _ _ (T5.setTop (mkF m 20 #[.val (.ref aa)] [(.int fs), (.int vn), (.ref br), (.ref br)]))
  refine Go.step (fun t k => XS.aloadN X5.here hx rfl (hb hby d15_20) rfl rfl k) ?_
  show Go _ _ _ _ _ _ _ (T5.setTop (mkF m 21 #[.val (.ref aa)] [(.ref aa), (.int fs), (.int vn), (.ref br), (.ref br)]))
  obtain ⟨T6, X6, e6, st6⟩ := getF X5 hx hZ hown (host := "") (Or.inl (hw _ (List.mem_of_getElem? (i := 52) rfl))) Via.refl e5 F_lo_aa (g := (mkF m 21 #[.val (.ref aa)] [(.ref aa), (.int fs), (.int vn), (.ref br), (.ref br)])) rfl rfl (hb hby d15_21)
  refine Go.step st6 ?_
  show Go _ _ _ _ _ _ _ (T6.setTop (mkF m 24 #[.val (.ref aa)] [.null, (.int fs), (.int vn), (.ref br), (.ref br)]))
  refine Go.step (fun t k => XS.aloadN X6.here hx rfl (hb hby d15_24) rfl rfl k) ?_
  show Go _ _ _ _ _ _ _ (T6.setTop (mkF m 25 #[.val (.ref aa)] [(.ref aa), .null, (.int fs), (.int vn), (.ref br), (.ref br)]))
  obtain ⟨T7, X7, e7, st7⟩ := getF X6 hx hZ hown (host := "") (Or.inl (hw _ (List.mem_of_getElem? (i := 54) rfl))) Via.refl e6 F_loInclusive_aa (g := (mkF m 25 #[.val (.ref aa)] [(.ref aa), .null, (.int fs), (.int vn), (.ref br), (.ref br)])) rfl rfl (hb hby d15_25)
  refine Go.step st7 ?_
  show Go _ _ _ _ _ _ _ (T7.setTop (mkF m 28 #[.val (.ref aa)] [(.int li), .null, (.int fs), (.int vn), (.ref br), (.ref br)]))
  refine Go.step (fun t k => XS.aloadN X7.here hx rfl (hb hby d15_28) rfl rfl k) ?_
  show Go _ _ _ _ _ _ _ (T7.setTop (mkF m 29 #[.val (.ref aa)] [(.ref aa), (.int li), .null, (.int fs), (.int vn), (.ref br), (.ref br)]))
  obtain ⟨T8, X8, e8, st8⟩ := getF X7 hx hZ hown (host := "") (Or.inl (hw _ (List.mem_of_getElem? (i := 56) rfl))) Via.refl e7 F_toEnd_aa (g := (mkF m 29 #[.val (.ref aa)] [(.ref aa), (.int li), .null, (.int fs), (.int vn), (.ref br), (.ref br)])) rfl rfl (hb hby d15_29)
  refine Go.step st8 ?_
  show Go _ _ _ _ _ _ _ (T8.setTop (mkF m 32 #[.val (.ref aa)] [(.int te), (.int li), .null, (.int fs), (.int vn), (.ref br), (.ref br)]))
  refine Go.step (fun t k => XS.aloadN X8.here hx rfl (hb hby d15_32) rfl rfl k) ?_
  show Go _ _ _ _ _ _ _ (T8.setTop (mkF m 33 #[.val (.ref aa)] [(.ref aa), (.int te), (.int li), .null, (.int fs), (.int vn), (.ref br), (.ref br)]))
  obtain ⟨T9, X9, e9, st9⟩ := getF X8 hx hZ hown (host := "") (Or.inl (hw _ (List.mem_of_getElem? (i := 58) rfl))) Via.refl e8 F_hi_aa (g := (mkF m 33 #[.val (.ref aa)] [(.ref aa), (.int te), (.int li), .null, (.int fs), (.int vn), (.ref br), (.ref br)])) rfl rfl (hb hby d15_33)
  refine Go.step st9 ?_
  show Go _ _ _ _ _ _ _ (T9.setTop (mkF m 36 #[.val (.ref aa)] [(.ref xh), (.int te), (.int li), .null, (.int fs), (.int vn), (.ref br), (.ref br)]))
  refine Go.step (fun t k => XS.aloadN X9.here hx rfl (hb hby d15_36) rfl rfl k) ?_
  show Go _ _ _ _ _ _ _ (T9.setTop (mkF m 37 #[.val (.ref aa)] [(.ref aa), (.ref xh), (.int te), (.int li), .null, (.int fs), (.int vn), (.ref br), (.ref br)]))
  obtain ⟨T10, X10, e10, st10⟩ := getF X9 hx hZ hown (host := "") (Or.inl (hw _ (List.mem_of_getElem? (i := 60) rfl))) Via.refl e9 F_hiInclusive_aa (g := (mkF m 37 #[.val (.ref aa)] [(.ref aa), (.ref xh), (.int te), (.int li), .null, (.int fs), (.int vn), (.ref br), (.ref br)])) rfl rfl (hb hby d15_37)
  refine Go.step st10 ?_
  show Go _ _ _ _ _ _ _ (T10.setTop (mkF m 40 #[.val (.ref aa)] [(.int hi), (.ref xh), (.int te), (.int li), .null, (.int fs), (.int vn), (.ref br), (.ref br)]))
  obtain ⟨_, _, ⟨T11, L11, k11, n11⟩, -, X11, ⟨Lc11, hQ11, l11, y11, z11⟩, st11⟩ := X10.specialBack hx (y := (⟨"com/example/rootkeep/rootkeep/KeyRange", "<init>", "(ZZLjava/lang/Object;ZZLjava/lang/Object;Z)V"⟩ : MethodName)) rfl hown (mvT hZ (hw _ (List.mem_of_getElem? (i := 100) rfl))) (mvT hZ (hw _ (List.mem_of_getElem? (i := 40) rfl))) (mvT hZ (hw _ (List.mem_of_getElem? (i := 41) rfl))) (by decide) (backOf (W := 1) (rm7_10 l Z a0 hw [] br vn fs li te xh hi h1 n0 Z1 F_descending_br F_fromStart_br F_lo_br F_loInclusive_br F_toEnd_br F_hi_br F_hiInclusive_br E_br g_br (own_10 hvn) h_fs h_li h_te h_hi) hZ (hw _ (List.mem_of_getElem? (i := 41) rfl)) (hw _ (List.mem_of_getElem? (i := 38) rfl)) (by decide) (by decide)) (g := (mkF m 40 #[.val (.ref aa)] [(.int hi), (.ref xh), (.int te), (.int li), .null, (.int fs), (.int vn), (.ref br), (.ref br)])) rfl (by rw [hml]; rfl) (Steps.refl _) (a := br) (argsL := [(.int vn), (.int fs), .null, (.int li), (.int te), (.ref xh), (.int hi)]) (rest := [(.ref br)]) (lenOf pd_15_0_10 rfl) rfl (by show 2 * 0 + _ ≤ _; exact Nat.le_of_eq rfl) (hb hby d15_40) (fun _ _ => ⟨rfl, e10, (by decide : 1 + 0 ≤ _), (by decide : 7 + 0 ≤ _)⟩)
  dsimp only [Pt.U, Pt.locs, Pt.cells, Pt.slots] at X11 l11 y11 z11 st11 hQ11
  subst l11 y11 z11
  obtain ⟨rfl, N11q, K11q, o11_F_descending_br, o11_F_fromStart_br, o11_F_lo_br, o11_F_loInclusive_br, o11_F_toEnd_br, o11_F_hi_br, o11_F_hiInclusive_br⟩ := hQ11
  have N11 := Fr.app N0 N11q
  replace F_descending_aa := F_descending_aa.keep K11q (ninS ne_aa_br nin0)
  replace F_fromStart_aa := F_fromStart_aa.keep K11q (ninS ne_aa_br nin0)
  replace F_lo_aa := F_lo_aa.keep K11q (ninS ne_aa_br nin0)
  replace F_loInclusive_aa := F_loInclusive_aa.keep K11q (ninS ne_aa_br nin0)
  replace F_toEnd_aa := F_toEnd_aa.keep K11q (ninS ne_aa_br nin0)
  replace F_hi_aa := F_hi_aa.keep K11q (ninS ne_aa_br nin0)
  replace F_hiInclusive_aa := F_hiInclusive_aa.keep K11q (ninS ne_aa_br nin0)
  replace E_aa := E_aa.keep K11q
  replace E_br := E_br.keep K11q
  have Z11 := Nat.le_trans Z1 K11q.1
  have K11' := K1.trans K11q (allS (Or.inr sz_br) all0)
  have F_descending_br := o11_F_descending_br
  have F_fromStart_br := o11_F_fromStart_br
  have F_lo_br := o11_F_lo_br
  have F_loInclusive_br := o11_F_loInclusive_br
  have F_toEnd_br := o11_F_toEnd_br
  have F_hi_br := o11_F_hi_br
  have F_hiInclusive_br := o11_F_hiInclusive_br
  refine Go.step (fun t k => st11.trans k) ?_
  show Go _ _ _ _ _ _ _ (T11.setTop (mkF m 43 #[.val (.ref aa)] [(.ref br)]))
  refine Go.retA X11 Bd.notSynchronized hx Bd.returns rfl rfl rfl (hb hby d15_43) (by decide) (by decide) ?_
  exact ⟨br, rfl, N11, K11', E_br, F_fromStart_br, F_toEnd_br⟩
theorem pn_15_11 : plainName "com/example/rootkeep/rootkeep/KeyRange" = true := by first | (simp [plainName, overriddenIn]; done) | decide +kernel
theorem pd_15_0_11 : parseMethodDescriptor "(ZZLjava/lang/Object;ZZLjava/lang/Object;Z)V" = some ⟨[.boolean, .boolean, (.object "java/lang/Object"), .boolean, .boolean, (.object "java/lang/Object"), .boolean], none⟩ := by decide +kernel
theorem ef_15_11 (m : MethodId) (x0 : Addr) : entryFrame m #[(.ref x0)] 1 = mkF m 0 #[.val (.ref x0)] [] := by first | (simp [entryFrame, mkF, argsToLocals, Value.category]; done) | rfl
def Q15_11 (Z : State) (aa : Addr) (ds : Int32) (fs : Int32) (li : Int32) (te : Int32) (hi : Int32) (h0 : Heap) (n0 : Nat) (v : Option Value) (h : Heap) (L : List Loc) : Prop := ∃ br : Addr, v = some (.ref br) ∧ Fr n0 L ∧ Keep h0 h [] ∧ Exa Z h br "com/example/rootkeep/rootkeep/KeyRange" ∧ Fld Z h br "com/example/rootkeep/rootkeep/KeyRange" "fromStart" "Z" (.int fs) ∧ Fld Z h br "com/example/rootkeep/rootkeep/KeyRange" "toEnd" "Z" (.int te)
set_option maxRecDepth 65536 in
set_option maxHeartbeats 40000000 in
theorem rm15_11 (l : Launch) (Z : State) (a0 : Array Value) (hw : ∀ d ∈ tables_1, d.before a0 Z = true) (ws : List Jvm.Cond) (aa : Addr) (ds : Int32) (fs : Int32) (li : Int32) (te : Int32) (hi : Int32) (h0 : Heap) (n0 : Nat) (Z0 : n0 ≤ h0.size) (F_descending_aa : Fld Z h0 aa "com/example/rootkeep/rootkeep/KeyRange" "descending" "Z" (.int ds)) (F_fromStart_aa : Fld Z h0 aa "com/example/rootkeep/rootkeep/KeyRange" "fromStart" "Z" (.int fs)) (F_lo_aa : Fld Z h0 aa "com/example/rootkeep/rootkeep/KeyRange" "lo" "Ljava/lang/Object;" .null) (F_loInclusive_aa : Fld Z h0 aa "com/example/rootkeep/rootkeep/KeyRange" "loInclusive" "Z" (.int li)) (F_toEnd_aa : Fld Z h0 aa "com/example/rootkeep/rootkeep/KeyRange" "toEnd" "Z" (.int te)) (F_hi_aa : Fld Z h0 aa "com/example/rootkeep/rootkeep/KeyRange" "hi" "Ljava/lang/Object;" .null) (F_hiInclusive_aa : Fld Z h0 aa "com/example/rootkeep/rootkeep/KeyRange" "hiInclusive" "Z" (.int hi)) (E_aa : Exa Z h0 aa "com/example/rootkeep/rootkeep/KeyRange") (h_ds : (ds = 0 ∨ ds = 1)) (h_fs : (fs = 0 ∨ fs = 1)) (h_li : (li = 0 ∨ li = 1)) (h_te : (te = 0 ∨ te = 1)) (h_hi : (hi = 0 ∨ hi = 1)) :
    MetFree l (⟨"com/example/rootkeep/rootkeep/KeyRange", "reversed", "()Lcom/example/rootkeep/rootkeep/KeyRange;"⟩ : MethodName) (head1 (Jvm.Cond.code (⟨"com/example/rootkeep/rootkeep/KeyRange", "reversed", "()Lcom/example/rootkeep/rootkeep/KeyRange;"⟩ : MethodName) prog_1_method_9_code 1 (some (.object "com/example/rootkeep/rootkeep/KeyRange")) :: ws) ({ frames := 3, cells := 1, slots := 7, locals := 44 } : Room)) (fun a U => a = #[(.ref aa)] ∧ Z.Warmed39 U.vm ∧ U.heap = h0) (fun _ _ _ _ _ => True) (fun _ U o U' => ∃ v L, o = .returned v ∧ Q15_11 Z aa ds fs li te hi h0 n0 v U'.heap L ∧ FrameEnd U o U' L ({ frames := 3, cells := 1, slots := 7, locals := 44 } : Room).cells ({ frames := 3, cells := 1, slots := 7, locals := 44 } : Room).slots) := by
  refine MetFree.of_bodySF (plainFor_of_name pn_15_11) hisR ?_
  intro p e s m args below meth c s₁ Bd hml0 hP hK
  obtain ⟨rfl, hZ, hh⟩ := hP
  have hx := Bd.exec
  have hby := Bd.bytes
  have hml : c.maxLocals = 1 := hml0
  have hown : s.vm.findClass "com/example/rootkeep/rootkeep/KeyRange" = some m.cls := findClass_of_methodNamed Bd.named
  have hnm := (name_of_methodNamed Bd.named Bd.method).1
  have X0 : Stand p l e ({ frames := 3, cells := 1, slots := 7, locals := 44 } : Room) s m #[(.ref aa)] below meth c s₁ [] 0 0 := Stand.of_body Bd
  have e0 : s₁.heap = h0 := by rw [← hh, Bd.state]; rfl
  have N0 := Fr.nil n0
  have K0 := Keep.refl h0 ([] : List Addr)
  show Go p e below s (Q15_11 Z aa ds fs li te hi h0 n0) ({ frames := 3, cells := 1, slots := 7, locals := 44 } : Room).cells ({ frames := 3, cells := 1, slots := 7, locals := 44 } : Room).slots (s₁.setTop (entryFrame m #[(.ref aa)] 1))
  rw [ef_15_11]
  show Go _ _ _ _ _ _ _ (s₁.setTop (mkF m 0 #[.val (.ref aa)] []))
  obtain ⟨T1, h1, X1, e1, E1, A1, D1, -, st1⟩ := newO X0 hx hZ hown (hw _ (List.mem_of_getElem? (i := 99) rfl)) (hw _ (List.mem_of_getElem? (i := 37) rfl)) (hw _ (List.mem_of_getElem? (i := 38) rfl)) e0 (g := (mkF m 0 #[.val (.ref aa)] [])) rfl (hb hby d15_0) (by decide) (by decide)
  obtain ⟨br, gz1⟩ : ∃ z, z = h0.size := ⟨_, rfl⟩
  have ne_aa_br : aa ≠ br := Nat.ne_of_lt (Nat.lt_of_lt_of_le F_descending_aa.lt (Nat.le_of_eq gz1.symm))
  have g_br : n0 ≤ br := Nat.le_trans Z0 (Nat.le_of_eq gz1.symm)
  have sz_br : h0.size ≤ br := Nat.le_trans K0.1 (Nat.le_of_eq gz1.symm)
  rw [← gz1] at A1 D1 st1
  replace F_descending_aa := F_descending_aa.ext E1
  replace F_fromStart_aa := F_fromStart_aa.ext E1
  replace F_lo_aa := F_lo_aa.ext E1
  replace F_loInclusive_aa := F_loInclusive_aa.ext E1
  replace F_toEnd_aa := F_toEnd_aa.ext E1
  replace F_hi_aa := F_hi_aa.ext E1
  replace F_hiInclusive_aa := F_hiInclusive_aa.ext E1
  replace E_aa := E_aa.ext E1
  have Z1 := Nat.le_trans Z0 E1.1
  have K1 := K0.ext E1
  have E_br := A1
  have F_descending_br : Fld Z h1 br "com/example/rootkeep/rootkeep/KeyRange" "descending" "Z" (.int (0 : Int32)) := D1 (Or.inr (hw _ (List.mem_of_getElem? (i := 49) rfl))) (ty := .boolean) (by decide)
  have F_fromStart_br : Fld Z h1 br "com/example/rootkeep/rootkeep/KeyRange" "fromStart" "Z" (.int (0 : Int32)) := D1 (Or.inr (hw _ (List.mem_of_getElem? (i := 51) rfl))) (ty := .boolean) (by decide)
  have F_lo_br : Fld Z h1 br "com/example/rootkeep/rootkeep/KeyRange" "lo" "Ljava/lang/Object;" .null := D1 (Or.inr (hw _ (List.mem_of_getElem? (i := 53) rfl))) (ty := (.object "java/lang/Object")) (by decide)
  have F_loInclusive_br : Fld Z h1 br "com/example/rootkeep/rootkeep/KeyRange" "loInclusive" "Z" (.int (0 : Int32)) := D1 (Or.inr (hw _ (List.mem_of_getElem? (i := 55) rfl))) (ty := .boolean) (by decide)
  have F_toEnd_br : Fld Z h1 br "com/example/rootkeep/rootkeep/KeyRange" "toEnd" "Z" (.int (0 : Int32)) := D1 (Or.inr (hw _ (List.mem_of_getElem? (i := 57) rfl))) (ty := .boolean) (by decide)
  have F_hi_br : Fld Z h1 br "com/example/rootkeep/rootkeep/KeyRange" "hi" "Ljava/lang/Object;" .null := D1 (Or.inr (hw _ (List.mem_of_getElem? (i := 59) rfl))) (ty := (.object "java/lang/Object")) (by decide)
  have F_hiInclusive_br : Fld Z h1 br "com/example/rootkeep/rootkeep/KeyRange" "hiInclusive" "Z" (.int (0 : Int32)) := D1 (Or.inr (hw _ (List.mem_of_getElem? (i := 61) rfl))) (ty := .boolean) (by decide)
  refine Go.step st1 ?_
  show Go _ _ _ _ _ _ _ (T1.setTop (mkF m 3 #[.val (.ref aa)] [(.ref br)]))
  refine Go.step (fun t k => XS.dup X1.here hx rfl (hb hby d15_3) rfl rfl k) ?_
  show Go _ _ _ _ _ _ _ (T1.setTop (mkF m 4 #[.val (.ref aa)] [(.ref br), (.ref br)]))
  refine Go.step (fun t k => XS.aloadN X1.here hx rfl (hb hby d15_4) rfl rfl k) ?_
  show Go _ _ _ _ _ _ _ (T1.setTop (mkF m 5 #[.val (.ref aa)] [(.ref aa), (.ref br), (.ref br)]))
  obtain ⟨T2, X2, e2, st2⟩ := getF X1 hx hZ hown (host := "") (Or.inl (hw _ (List.mem_of_getElem? (i := 48) rfl))) Via.refl e1 F_descending_aa (g := (mkF m 5 #[.val (.ref aa)] [(.ref aa), (.ref br), (.ref br)])) rfl rfl (hb hby d15_5)
  refine Go.step st2 ?_
  show Go _ _ _ _ _ _ _ (T2.setTop (mkF m 8 #[.val (.ref aa)] [(.int ds), (.ref br), (.ref br)]))
  -- joined again at pc 16
  obtain ⟨vn, hvn⟩ : ∃ z : Int32, z = (if ds = (0 : Int32) then (1 : Int32) else (0 : Int32)) := ⟨_, rfl⟩
  have st3 : ∀ t, Steps p.tables e below (T2.setTop (mkF m 16 #[.val (.ref aa)] [(.int vn), (.ref br), (.ref br)])) t → Steps p.tables e below (T2.setTop (mkF m 8 #[.val (.ref aa)] [(.int ds), (.ref br), (.ref br)])) t := by
    intro t kt
    by_cases hd8_4 : ds = (0 : Int32)
    · refine XS.ifNo X2.here hx rfl (hb hby d15_8) rfl ((if0 _ _).trans (teq hd8_4).2) ?_
      show Steps p.tables e below (T2.setTop (mkF m 11 #[.val (.ref aa)] [(.ref br), (.ref br)])) _
      refine XS.iconst X2.here hx rfl (hb hby d15_11) ?_
      show Steps p.tables e below (T2.setTop (mkF m 12 #[.val (.ref aa)] [(.int (1 : Int32)), (.ref br), (.ref br)])) _
      refine XS.goto X2.here hx rfl (pc0 := 12) (pc' := 16) rfl (hb hby d15_12) (by decide) (by decide) ?_
      show Steps p.tables e below (T2.setTop (mkF m 16 #[.val (.ref aa)] [(.int (1 : Int32)), (.ref br), (.ref br)])) _
      have qvn : vn = (1 : Int32) := by rw [hvn]; simp only [if_pos hd8_4]
      rw [qvn] at kt
      exact kt
    · refine XS.ifYes X2.here hx rfl (pc0 := 8) (pc' := 15) rfl (hb hby d15_8) rfl ((if0 _ _).trans (feq hd8_4).2) (by decide) (by decide) ?_
      show Steps p.tables e below (T2.setTop (mkF m 15 #[.val (.ref aa)] [(.ref br), (.ref br)])) _
      refine XS.iconst X2.here hx rfl (hb hby d15_15) ?_
      show Steps p.tables e below (T2.setTop (mkF m 16 #[.val (.ref aa)] [(.int (0 : Int32)), (.ref br), (.ref br)])) _
      have qvn : vn = (0 : Int32) := by rw [hvn]; simp only [if_neg hd8_4]
      rw [qvn] at kt
      exact kt
  refine Go.step st3 ?_
  show Go _ _ _ _ _ _ _ (T2.setTop (mkF m 16 #[.val (.ref aa)] [(.int vn), (.ref br), (.ref br)]))
  refine Go.step (fun t k => XS.aloadN X2.here hx rfl (hb hby d15_16) rfl rfl k) ?_
  show Go _ _ _ _ _ _ _ (T2.setTop (mkF m 17 #[.val (.ref aa)] [(.ref aa), (.int vn), (.ref br), (.ref br)]))
  obtain ⟨T5, X5, e5, st5⟩ := getF X2 hx hZ hown (host := "") (Or.inl (hw _ (List.mem_of_getElem? (i := 50) rfl))) Via.refl e2 F_fromStart_aa (g := (mkF m 17 #[.val (.ref aa)] [(.ref aa), (.int vn), (.ref br), (.ref br)])) rfl rfl (hb hby d15_17)
  refine Go.step st5 ?_
  show Go _ _ _ _ _ _ _ (T5.setTop (mkF m 20 #[.val (.ref aa)] [(.int fs), (.int vn), (.ref br), (.ref br)]))
  refine Go.step (fun t k => XS.aloadN X5.here hx rfl (hb hby d15_20) rfl rfl k) ?_
  show Go _ _ _ _ _ _ _ (T5.setTop (mkF m 21 #[.val (.ref aa)] [(.ref aa), (.int fs), (.int vn), (.ref br), (.ref br)]))
  obtain ⟨T6, X6, e6, st6⟩ := getF X5 hx hZ hown (host := "") (Or.inl (hw _ (List.mem_of_getElem? (i := 52) rfl))) Via.refl e5 F_lo_aa (g := (mkF m 21 #[.val (.ref aa)] [(.ref aa), (.int fs), (.int vn), (.ref br), (.ref br)])) rfl rfl (hb hby d15_21)
  refine Go.step st6 ?_
  show Go _ _ _ _ _ _ _ (T6.setTop (mkF m 24 #[.val (.ref aa)] [.null, (.int fs), (.int vn), (.ref br), (.ref br)]))
  refine Go.step (fun t k => XS.aloadN X6.here hx rfl (hb hby d15_24) rfl rfl k) ?_
  show Go _ _ _ _ _ _ _ (T6.setTop (mkF m 25 #[.val (.ref aa)] [(.ref aa), .null, (.int fs), (.int vn), (.ref br), (.ref br)]))
  obtain ⟨T7, X7, e7, st7⟩ := getF X6 hx hZ hown (host := "") (Or.inl (hw _ (List.mem_of_getElem? (i := 54) rfl))) Via.refl e6 F_loInclusive_aa (g := (mkF m 25 #[.val (.ref aa)] [(.ref aa), .null, (.int fs), (.int vn), (.ref br), (.ref br)])) rfl rfl (hb hby d15_25)
  refine Go.step st7 ?_
  show Go _ _ _ _ _ _ _ (T7.setTop (mkF m 28 #[.val (.ref aa)] [(.int li), .null, (.int fs), (.int vn), (.ref br), (.ref br)]))
  refine Go.step (fun t k => XS.aloadN X7.here hx rfl (hb hby d15_28) rfl rfl k) ?_
  show Go _ _ _ _ _ _ _ (T7.setTop (mkF m 29 #[.val (.ref aa)] [(.ref aa), (.int li), .null, (.int fs), (.int vn), (.ref br), (.ref br)]))
  obtain ⟨T8, X8, e8, st8⟩ := getF X7 hx hZ hown (host := "") (Or.inl (hw _ (List.mem_of_getElem? (i := 56) rfl))) Via.refl e7 F_toEnd_aa (g := (mkF m 29 #[.val (.ref aa)] [(.ref aa), (.int li), .null, (.int fs), (.int vn), (.ref br), (.ref br)])) rfl rfl (hb hby d15_29)
  refine Go.step st8 ?_
  show Go _ _ _ _ _ _ _ (T8.setTop (mkF m 32 #[.val (.ref aa)] [(.int te), (.int li), .null, (.int fs), (.int vn), (.ref br), (.ref br)]))
  refine Go.step (fun t k => XS.aloadN X8.here hx rfl (hb hby d15_32) rfl rfl k) ?_
  show Go _ _ _ _ _ _ _ (T8.setTop (mkF m 33 #[.val (.ref aa)] [(.ref aa), (.int te), (.int li), .null, (.int fs), (.int vn), (.ref br), (.ref br)]))
  obtain ⟨T9, X9, e9, st9⟩ := getF X8 hx hZ hown (host := "") (Or.inl (hw _ (List.mem_of_getElem? (i := 58) rfl))) Via.refl e8 F_hi_aa (g := (mkF m 33 #[.val (.ref aa)] [(.ref aa), (.int te), (.int li), .null, (.int fs), (.int vn), (.ref br), (.ref br)])) rfl rfl (hb hby d15_33)
  refine Go.step st9 ?_
  show Go _ _ _ _ _ _ _ (T9.setTop (mkF m 36 #[.val (.ref aa)] [.null, (.int te), (.int li), .null, (.int fs), (.int vn), (.ref br), (.ref br)]))
  refine Go.step (fun t k => XS.aloadN X9.here hx rfl (hb hby d15_36) rfl rfl k) ?_
  show Go _ _ _ _ _ _ _ (T9.setTop (mkF m 37 #[.val (.ref aa)] [(.ref aa), .null, (.int te), (.int li), .null, (.int fs), (.int vn), (.ref br), (.ref br)]))
  obtain ⟨T10, X10, e10, st10⟩ := getF X9 hx hZ hown (host := "") (Or.inl (hw _ (List.mem_of_getElem? (i := 60) rfl))) Via.refl e9 F_hiInclusive_aa (g := (mkF m 37 #[.val (.ref aa)] [(.ref aa), .null, (.int te), (.int li), .null, (.int fs), (.int vn), (.ref br), (.ref br)])) rfl rfl (hb hby d15_37)
  refine Go.step st10 ?_
  show Go _ _ _ _ _ _ _ (T10.setTop (mkF m 40 #[.val (.ref aa)] [(.int hi), .null, (.int te), (.int li), .null, (.int fs), (.int vn), (.ref br), (.ref br)]))
  obtain ⟨_, _, ⟨T11, L11, k11, n11⟩, -, X11, ⟨Lc11, hQ11, l11, y11, z11⟩, st11⟩ := X10.specialBack hx (y := (⟨"com/example/rootkeep/rootkeep/KeyRange", "<init>", "(ZZLjava/lang/Object;ZZLjava/lang/Object;Z)V"⟩ : MethodName)) rfl hown (mvT hZ (hw _ (List.mem_of_getElem? (i := 100) rfl))) (mvT hZ (hw _ (List.mem_of_getElem? (i := 40) rfl))) (mvT hZ (hw _ (List.mem_of_getElem? (i := 41) rfl))) (by decide) (backOf (W := 1) (rm7_11 l Z a0 hw [] br vn fs li te hi h1 n0 Z1 F_descending_br F_fromStart_br F_lo_br F_loInclusive_br F_toEnd_br F_hi_br F_hiInclusive_br E_br g_br (own_10 hvn) h_fs h_li h_te h_hi) hZ (hw _ (List.mem_of_getElem? (i := 41) rfl)) (hw _ (List.mem_of_getElem? (i := 38) rfl)) (by decide) (by decide)) (g := (mkF m 40 #[.val (.ref aa)] [(.int hi), .null, (.int te), (.int li), .null, (.int fs), (.int vn), (.ref br), (.ref br)])) rfl (by rw [hml]; rfl) (Steps.refl _) (a := br) (argsL := [(.int vn), (.int fs), .null, (.int li), (.int te), .null, (.int hi)]) (rest := [(.ref br)]) (lenOf pd_15_0_11 rfl) rfl (by show 2 * 0 + _ ≤ _; exact Nat.le_of_eq rfl) (hb hby d15_40) (fun _ _ => ⟨rfl, e10, (by decide : 1 + 0 ≤ _), (by decide : 7 + 0 ≤ _)⟩)
  dsimp only [Pt.U, Pt.locs, Pt.cells, Pt.slots] at X11 l11 y11 z11 st11 hQ11
  subst l11 y11 z11
  obtain ⟨rfl, N11q, K11q, o11_F_descending_br, o11_F_fromStart_br, o11_F_lo_br, o11_F_loInclusive_br, o11_F_toEnd_br, o11_F_hi_br, o11_F_hiInclusive_br⟩ := hQ11
  have N11 := Fr.app N0 N11q
  replace F_descending_aa := F_descending_aa.keep K11q (ninS ne_aa_br nin0)
  replace F_fromStart_aa := F_fromStart_aa.keep K11q (ninS ne_aa_br nin0)
  replace F_lo_aa := F_lo_aa.keep K11q (ninS ne_aa_br nin0)
  replace F_loInclusive_aa := F_loInclusive_aa.keep K11q (ninS ne_aa_br nin0)
  replace F_toEnd_aa := F_toEnd_aa.keep K11q (ninS ne_aa_br nin0)
  replace F_hi_aa := F_hi_aa.keep K11q (ninS ne_aa_br nin0)
  replace F_hiInclusive_aa := F_hiInclusive_aa.keep K11q (ninS ne_aa_br nin0)
  replace E_aa := E_aa.keep K11q
  replace E_br := E_br.keep K11q
  have Z11 := Nat.le_trans Z1 K11q.1
  have K11' := K1.trans K11q (allS (Or.inr sz_br) all0)
  have F_descending_br := o11_F_descending_br
  have F_fromStart_br := o11_F_fromStart_br
  have F_lo_br := o11_F_lo_br
  have F_loInclusive_br := o11_F_loInclusive_br
  have F_toEnd_br := o11_F_toEnd_br
  have F_hi_br := o11_F_hi_br
  have F_hiInclusive_br := o11_F_hiInclusive_br
  refine Go.step (fun t k => st11.trans k) ?_
  show Go _ _ _ _ _ _ _ (T11.setTop (mkF m 43 #[.val (.ref aa)] [(.ref br)]))
  refine Go.retA X11 Bd.notSynchronized hx Bd.returns rfl rfl rfl (hb hby d15_43) (by decide) (by decide) ?_
  exact ⟨br, rfl, N11, K11', E_br, F_fromStart_br, F_toEnd_br⟩
theorem pn_0 : plainName "com/example/rootkeep/rootkeep/KeyRangeIsWholePinLaw" = true := by first | (simp [plainName, overriddenIn]; done) | decide +kernel
theorem pd_0_0 : parseMethodDescriptor "(JJ)J" = some ⟨[.long, .long], some .long⟩ := by decide +kernel
theorem pd_0_1 : parseMethodDescriptor "(J)Ljava/lang/Long;" = some ⟨[.long], some (.object "java/lang/Long")⟩ := by decide +kernel
theorem pd_0_2 : parseMethodDescriptor "(ZZLjava/lang/Object;ZZLjava/lang/Object;Z)V" = some ⟨[.boolean, .boolean, (.object "java/lang/Object"), .boolean, .boolean, (.object "java/lang/Object"), .boolean], none⟩ := by decide +kernel
theorem pd_0_3 : parseMethodDescriptor "()Z" = some ⟨[], some .boolean⟩ := by decide +kernel
theorem pd_0_4 : parseMethodDescriptor "(Ljava/lang/Object;)Z" = some ⟨[(.object "java/lang/Object")], some .boolean⟩ := by decide +kernel
theorem pd_0_5 : parseMethodDescriptor "()Lcom/example/rootkeep/rootkeep/KeyRange;" = some ⟨[], some (.object "com/example/rootkeep/rootkeep/KeyRange")⟩ := by decide +kernel
theorem ef_0 (m : MethodId) (x0 : Int32) (x1 : Int64) (x2 : Int64) : entryFrame m #[(.int x0), (.long x1), (.long x2)] maxLocals = mkF m 0 #[.val (.int x0), .val (.long x1), .second, .val (.long x2), .second, .unset, .unset, .unset, .unset, .unset, .unset, .unset, .unset, .unset, .unset, .unset, .unset, .unset] [] := by first | (simp [entryFrame, mkF, argsToLocals, Value.category, maxLocals]; done) | rfl
def Q0 (Z : State) (fl : Int32) (qa : Int64) (qb : Int64) (ca : Addr) (h0 : Heap) (n0 : Nat) (v : Option Value) (h : Heap) (L : List Loc) : Prop := v = some (.int (1 : Int32)) ∧ Fr n0 L
set_option maxRecDepth 65536 in
set_option maxHeartbeats 40000000 in
theorem rm0 (l : Launch) (Z : State) (a0 : Array Value) (hw : ∀ d ∈ tables_1, d.before a0 Z = true) (ws : List Jvm.Cond) (fl : Int32) (qa : Int64) (qb : Int64) (ca : Addr) (h0 : Heap) (n0 : Nat) (Z0 : n0 ≤ h0.size) (old : Old Z n0 h0) (hsta : (Sta Z Z.heap "java/lang/Long$LongCache" "cache" "[Ljava/lang/Long;" (.ref ca))) (hca : (own_cache Z ca)) :
    MetFree l x (head1 (Jvm.Cond.code x code maxLocals ret :: ws) room_1) (fun a U => a = #[(.int fl), (.long qa), (.long qb)] ∧ Z.Warmed39 U.vm ∧ U.heap = h0) (fun _ _ _ _ _ => True) (fun _ U o U' => ∃ v L, o = .returned v ∧ Q0 Z fl qa qb ca h0 n0 v U'.heap L ∧ FrameEnd U o U' L 24 128) := by
  refine MetFree.of_bodySF (plainFor_of_name pn_0) hisR ?_
  intro p e s m args below meth c s₁ Bd hml0 hP hK
  obtain ⟨rfl, hZ, hh⟩ := hP
  have hx := Bd.exec
  have hby := Bd.bytes
  have hml : c.maxLocals = 18 := hml0
  have hown : s.vm.findClass "com/example/rootkeep/rootkeep/KeyRangeIsWholePinLaw" = some m.cls := findClass_of_methodNamed Bd.named
  have hnm := (name_of_methodNamed Bd.named Bd.method).1
  have X0 : Stand p l e room_1 s m #[(.int fl), (.long qa), (.long qb)] below meth c s₁ [] 0 0 := Stand.of_body Bd
  have e0 : s₁.heap = h0 := by rw [← hh, Bd.state]; rfl
  have N0 := Fr.nil n0
  show Go p e below s (Q0 Z fl qa qb ca h0 n0) 24 128 (s₁.setTop (entryFrame m #[(.int fl), (.long qa), (.long qb)] maxLocals))
  rw [ef_0]
  show Go _ _ _ _ _ _ _ (s₁.setTop (mkF m 0 #[.val (.int fl), .val (.long qa), .second, .val (.long qb), .second, .unset, .unset, .unset, .unset, .unset, .unset, .unset, .unset, .unset, .unset, .unset, .unset, .unset] []))
  refine Go.step (fun t k => XS.iloadN X0.here hx rfl (hb hby at_0) rfl k) ?_
  show Go _ _ _ _ _ _ _ (s₁.setTop (mkF m 1 #[.val (.int fl), .val (.long qa), .second, .val (.long qb), .second, .unset, .unset, .unset, .unset, .unset, .unset, .unset, .unset, .unset, .unset, .unset, .unset, .unset] [(.int fl)]))
  refine Go.step (fun t k => XS.iconst X0.here hx rfl (hb hby at_1) k) ?_
  show Go _ _ _ _ _ _ _ (s₁.setTop (mkF m 2 #[.val (.int fl), .val (.long qa), .second, .val (.long qb), .second, .unset, .unset, .unset, .unset, .unset, .unset, .unset, .unset, .unset, .unset, .unset, .unset, .unset] [(.int (1 : Int32)), (.int fl)]))
  refine Go.step (fun t k => XS.iand X0.here hx rfl (hb hby at_2) rfl k) ?_
  show Go _ _ _ _ _ _ _ (s₁.setTop (mkF m 3 #[.val (.int fl), .val (.long qa), .second, .val (.long qb), .second, .unset, .unset, .unset, .unset, .unset, .unset, .unset, .unset, .unset, .unset, .unset, .unset, .unset] [(.int (fl &&& (1 : Int32)))]))
  -- joined again at pc 11
  obtain ⟨vd, hvd⟩ : ∃ z : Int32, z = (if (fl &&& (1 : Int32)) = (0 : Int32) then (0 : Int32) else (1 : Int32)) := ⟨_, rfl⟩
  have st1 : ∀ t, Steps p.tables e below (s₁.setTop (mkF m 11 #[.val (.int fl), .val (.long qa), .second, .val (.long qb), .second, .unset, .unset, .unset, .unset, .unset, .unset, .unset, .unset, .unset, .unset, .unset, .unset, .unset] [(.int vd)])) t → Steps p.tables e below (s₁.setTop (mkF m 3 #[.val (.int fl), .val (.long qa), .second, .val (.long qb), .second, .unset, .unset, .unset, .unset, .unset, .unset, .unset, .unset, .unset, .unset, .unset, .unset, .unset] [(.int (fl &&& (1 : Int32)))])) t := by
    intro t kt
    by_cases hd3_2 : (fl &&& (1 : Int32)) = (0 : Int32)
    · refine XS.ifYes X0.here hx rfl (pc0 := 3) (pc' := 10) rfl (hb hby at_3) rfl ((if0 _ _).trans (teq hd3_2).1) (by decide) (by decide) ?_
      show Steps p.tables e below (s₁.setTop (mkF m 10 #[.val (.int fl), .val (.long qa), .second, .val (.long qb), .second, .unset, .unset, .unset, .unset, .unset, .unset, .unset, .unset, .unset, .unset, .unset, .unset, .unset] [])) _
      refine XS.iconst X0.here hx rfl (hb hby at_10) ?_
      show Steps p.tables e below (s₁.setTop (mkF m 11 #[.val (.int fl), .val (.long qa), .second, .val (.long qb), .second, .unset, .unset, .unset, .unset, .unset, .unset, .unset, .unset, .unset, .unset, .unset, .unset, .unset] [(.int (0 : Int32))])) _
      have qvd : vd = (0 : Int32) := by rw [hvd]; simp only [if_pos hd3_2]
      rw [qvd] at kt
      exact kt
    · refine XS.ifNo X0.here hx rfl (hb hby at_3) rfl ((if0 _ _).trans (feq hd3_2).1) ?_
      show Steps p.tables e below (s₁.setTop (mkF m 6 #[.val (.int fl), .val (.long qa), .second, .val (.long qb), .second, .unset, .unset, .unset, .unset, .unset, .unset, .unset, .unset, .unset, .unset, .unset, .unset, .unset] [])) _
      refine XS.iconst X0.here hx rfl (hb hby at_6) ?_
      show Steps p.tables e below (s₁.setTop (mkF m 7 #[.val (.int fl), .val (.long qa), .second, .val (.long qb), .second, .unset, .unset, .unset, .unset, .unset, .unset, .unset, .unset, .unset, .unset, .unset, .unset, .unset] [(.int (1 : Int32))])) _
      refine XS.goto X0.here hx rfl (pc0 := 7) (pc' := 11) rfl (hb hby at_7) (by decide) (by decide) ?_
      show Steps p.tables e below (s₁.setTop (mkF m 11 #[.val (.int fl), .val (.long qa), .second, .val (.long qb), .second, .unset, .unset, .unset, .unset, .unset, .unset, .unset, .unset, .unset, .unset, .unset, .unset, .unset] [(.int (1 : Int32))])) _
      have qvd : vd = (1 : Int32) := by rw [hvd]; simp only [if_neg hd3_2]
      rw [qvd] at kt
      exact kt
  refine Go.step st1 ?_
  show Go _ _ _ _ _ _ _ (s₁.setTop (mkF m 11 #[.val (.int fl), .val (.long qa), .second, .val (.long qb), .second, .unset, .unset, .unset, .unset, .unset, .unset, .unset, .unset, .unset, .unset, .unset, .unset, .unset] [(.int vd)]))
  refine Go.step (fun t k => XS.istore X0.here hx rfl (hb hby at_11) rfl (l' := #[.val (.int fl), .val (.long qa), .second, .val (.long qb), .second, .val (.int vd), .unset, .unset, .unset, .unset, .unset, .unset, .unset, .unset, .unset, .unset, .unset, .unset]) rfl k) ?_
  show Go _ _ _ _ _ _ _ (s₁.setTop (mkF m 13 #[.val (.int fl), .val (.long qa), .second, .val (.long qb), .second, .val (.int vd), .unset, .unset, .unset, .unset, .unset, .unset, .unset, .unset, .unset, .unset, .unset, .unset] []))
  refine Go.step (fun t k => XS.iloadN X0.here hx rfl (hb hby at_13) rfl k) ?_
  show Go _ _ _ _ _ _ _ (s₁.setTop (mkF m 14 #[.val (.int fl), .val (.long qa), .second, .val (.long qb), .second, .val (.int vd), .unset, .unset, .unset, .unset, .unset, .unset, .unset, .unset, .unset, .unset, .unset, .unset] [(.int fl)]))
  refine Go.step (fun t k => XS.iconst X0.here hx rfl (hb hby at_14) k) ?_
  show Go _ _ _ _ _ _ _ (s₁.setTop (mkF m 15 #[.val (.int fl), .val (.long qa), .second, .val (.long qb), .second, .val (.int vd), .unset, .unset, .unset, .unset, .unset, .unset, .unset, .unset, .unset, .unset, .unset, .unset] [(.int (2 : Int32)), (.int fl)]))
  refine Go.step (fun t k => XS.iand X0.here hx rfl (hb hby at_15) rfl k) ?_
  show Go _ _ _ _ _ _ _ (s₁.setTop (mkF m 16 #[.val (.int fl), .val (.long qa), .second, .val (.long qb), .second, .val (.int vd), .unset, .unset, .unset, .unset, .unset, .unset, .unset, .unset, .unset, .unset, .unset, .unset] [(.int (fl &&& (2 : Int32)))]))
  by_cases hc16_3 : (fl &&& (2 : Int32)) = (0 : Int32)
  · refine Go.step (fun t k => XS.ifYes X0.here hx rfl (pc0 := 16) (pc' := 23) rfl (hb hby at_16) rfl ((if0 _ _).trans (teq hc16_3).1) (by decide) (by decide) k) ?_
    show Go _ _ _ _ _ _ _ (s₁.setTop (mkF m 23 #[.val (.int fl), .val (.long qa), .second, .val (.long qb), .second, .val (.int vd), .unset, .unset, .unset, .unset, .unset, .unset, .unset, .unset, .unset, .unset, .unset, .unset] []))
    refine Go.step (fun t k => XS.iconst X0.here hx rfl (hb hby at_23) k) ?_
    show Go _ _ _ _ _ _ _ (s₁.setTop (mkF m 24 #[.val (.int fl), .val (.long qa), .second, .val (.long qb), .second, .val (.int vd), .unset, .unset, .unset, .unset, .unset, .unset, .unset, .unset, .unset, .unset, .unset, .unset] [(.int (0 : Int32))]))
    refine Go.step (fun t k => XS.istore X0.here hx rfl (hb hby at_24) rfl (l' := #[.val (.int fl), .val (.long qa), .second, .val (.long qb), .second, .val (.int vd), .val (.int (0 : Int32)), .unset, .unset, .unset, .unset, .unset, .unset, .unset, .unset, .unset, .unset, .unset]) rfl k) ?_
    show Go _ _ _ _ _ _ _ (s₁.setTop (mkF m 26 #[.val (.int fl), .val (.long qa), .second, .val (.long qb), .second, .val (.int vd), .val (.int (0 : Int32)), .unset, .unset, .unset, .unset, .unset, .unset, .unset, .unset, .unset, .unset, .unset] []))
    refine Go.step (fun t k => XS.iloadN X0.here hx rfl (hb hby at_26) rfl k) ?_
    show Go _ _ _ _ _ _ _ (s₁.setTop (mkF m 27 #[.val (.int fl), .val (.long qa), .second, .val (.long qb), .second, .val (.int vd), .val (.int (0 : Int32)), .unset, .unset, .unset, .unset, .unset, .unset, .unset, .unset, .unset, .unset, .unset] [(.int fl)]))
    refine Go.step (fun t k => XS.iconst X0.here hx rfl (hb hby at_27) k) ?_
    show Go _ _ _ _ _ _ _ (s₁.setTop (mkF m 28 #[.val (.int fl), .val (.long qa), .second, .val (.long qb), .second, .val (.int vd), .val (.int (0 : Int32)), .unset, .unset, .unset, .unset, .unset, .unset, .unset, .unset, .unset, .unset, .unset] [(.int (4 : Int32)), (.int fl)]))
    refine Go.step (fun t k => XS.iand X0.here hx rfl (hb hby at_28) rfl k) ?_
    show Go _ _ _ _ _ _ _ (s₁.setTop (mkF m 29 #[.val (.int fl), .val (.long qa), .second, .val (.long qb), .second, .val (.int vd), .val (.int (0 : Int32)), .unset, .unset, .unset, .unset, .unset, .unset, .unset, .unset, .unset, .unset, .unset] [(.int (fl &&& (4 : Int32)))]))
    -- joined again at pc 37
    obtain ⟨vl, hvl⟩ : ∃ z : Int32, z = (if (fl &&& (4 : Int32)) = (0 : Int32) then (0 : Int32) else (1 : Int32)) := ⟨_, rfl⟩
    have st4 : ∀ t, Steps p.tables e below (s₁.setTop (mkF m 37 #[.val (.int fl), .val (.long qa), .second, .val (.long qb), .second, .val (.int vd), .val (.int (0 : Int32)), .unset, .unset, .unset, .unset, .unset, .unset, .unset, .unset, .unset, .unset, .unset] [(.int vl)])) t → Steps p.tables e below (s₁.setTop (mkF m 29 #[.val (.int fl), .val (.long qa), .second, .val (.long qb), .second, .val (.int vd), .val (.int (0 : Int32)), .unset, .unset, .unset, .unset, .unset, .unset, .unset, .unset, .unset, .unset, .unset] [(.int (fl &&& (4 : Int32)))])) t := by
      intro t kt
      by_cases hd29_5 : (fl &&& (4 : Int32)) = (0 : Int32)
      · refine XS.ifYes X0.here hx rfl (pc0 := 29) (pc' := 36) rfl (hb hby at_29) rfl ((if0 _ _).trans (teq hd29_5).1) (by decide) (by decide) ?_
        show Steps p.tables e below (s₁.setTop (mkF m 36 #[.val (.int fl), .val (.long qa), .second, .val (.long qb), .second, .val (.int vd), .val (.int (0 : Int32)), .unset, .unset, .unset, .unset, .unset, .unset, .unset, .unset, .unset, .unset, .unset] [])) _
        refine XS.iconst X0.here hx rfl (hb hby at_36) ?_
        show Steps p.tables e below (s₁.setTop (mkF m 37 #[.val (.int fl), .val (.long qa), .second, .val (.long qb), .second, .val (.int vd), .val (.int (0 : Int32)), .unset, .unset, .unset, .unset, .unset, .unset, .unset, .unset, .unset, .unset, .unset] [(.int (0 : Int32))])) _
        have qvl : vl = (0 : Int32) := by rw [hvl]; simp only [if_pos hd29_5]
        rw [qvl] at kt
        exact kt
      · refine XS.ifNo X0.here hx rfl (hb hby at_29) rfl ((if0 _ _).trans (feq hd29_5).1) ?_
        show Steps p.tables e below (s₁.setTop (mkF m 32 #[.val (.int fl), .val (.long qa), .second, .val (.long qb), .second, .val (.int vd), .val (.int (0 : Int32)), .unset, .unset, .unset, .unset, .unset, .unset, .unset, .unset, .unset, .unset, .unset] [])) _
        refine XS.iconst X0.here hx rfl (hb hby at_32) ?_
        show Steps p.tables e below (s₁.setTop (mkF m 33 #[.val (.int fl), .val (.long qa), .second, .val (.long qb), .second, .val (.int vd), .val (.int (0 : Int32)), .unset, .unset, .unset, .unset, .unset, .unset, .unset, .unset, .unset, .unset, .unset] [(.int (1 : Int32))])) _
        refine XS.goto X0.here hx rfl (pc0 := 33) (pc' := 37) rfl (hb hby at_33) (by decide) (by decide) ?_
        show Steps p.tables e below (s₁.setTop (mkF m 37 #[.val (.int fl), .val (.long qa), .second, .val (.long qb), .second, .val (.int vd), .val (.int (0 : Int32)), .unset, .unset, .unset, .unset, .unset, .unset, .unset, .unset, .unset, .unset, .unset] [(.int (1 : Int32))])) _
        have qvl : vl = (1 : Int32) := by rw [hvl]; simp only [if_neg hd29_5]
        rw [qvl] at kt
        exact kt
    refine Go.step st4 ?_
    show Go _ _ _ _ _ _ _ (s₁.setTop (mkF m 37 #[.val (.int fl), .val (.long qa), .second, .val (.long qb), .second, .val (.int vd), .val (.int (0 : Int32)), .unset, .unset, .unset, .unset, .unset, .unset, .unset, .unset, .unset, .unset, .unset] [(.int vl)]))
    refine Go.step (fun t k => XS.istore X0.here hx rfl (hb hby at_37) rfl (l' := #[.val (.int fl), .val (.long qa), .second, .val (.long qb), .second, .val (.int vd), .val (.int (0 : Int32)), .val (.int vl), .unset, .unset, .unset, .unset, .unset, .unset, .unset, .unset, .unset, .unset]) rfl k) ?_
    show Go _ _ _ _ _ _ _ (s₁.setTop (mkF m 39 #[.val (.int fl), .val (.long qa), .second, .val (.long qb), .second, .val (.int vd), .val (.int (0 : Int32)), .val (.int vl), .unset, .unset, .unset, .unset, .unset, .unset, .unset, .unset, .unset, .unset] []))
    refine Go.step (fun t k => XS.iloadN X0.here hx rfl (hb hby at_39) rfl k) ?_
    show Go _ _ _ _ _ _ _ (s₁.setTop (mkF m 40 #[.val (.int fl), .val (.long qa), .second, .val (.long qb), .second, .val (.int vd), .val (.int (0 : Int32)), .val (.int vl), .unset, .unset, .unset, .unset, .unset, .unset, .unset, .unset, .unset, .unset] [(.int fl)]))
    refine Go.step (fun t k => XS.bipush X0.here hx rfl (hb hby at_40) k) ?_
    show Go _ _ _ _ _ _ _ (s₁.setTop (mkF m 42 #[.val (.int fl), .val (.long qa), .second, .val (.long qb), .second, .val (.int vd), .val (.int (0 : Int32)), .val (.int vl), .unset, .unset, .unset, .unset, .unset, .unset, .unset, .unset, .unset, .unset] [(.int (8 : Int32)), (.int fl)]))
    refine Go.step (fun t k => XS.iand X0.here hx rfl (hb hby at_42) rfl k) ?_
    show Go _ _ _ _ _ _ _ (s₁.setTop (mkF m 43 #[.val (.int fl), .val (.long qa), .second, .val (.long qb), .second, .val (.int vd), .val (.int (0 : Int32)), .val (.int vl), .unset, .unset, .unset, .unset, .unset, .unset, .unset, .unset, .unset, .unset] [(.int (fl &&& (8 : Int32)))]))
    by_cases hc43_6 : (fl &&& (8 : Int32)) = (0 : Int32)
    · refine Go.step (fun t k => XS.ifYes X0.here hx rfl (pc0 := 43) (pc' := 50) rfl (hb hby at_43) rfl ((if0 _ _).trans (teq hc43_6).1) (by decide) (by decide) k) ?_
      show Go _ _ _ _ _ _ _ (s₁.setTop (mkF m 50 #[.val (.int fl), .val (.long qa), .second, .val (.long qb), .second, .val (.int vd), .val (.int (0 : Int32)), .val (.int vl), .unset, .unset, .unset, .unset, .unset, .unset, .unset, .unset, .unset, .unset] []))
      refine Go.step (fun t k => XS.iconst X0.here hx rfl (hb hby at_50) k) ?_
      show Go _ _ _ _ _ _ _ (s₁.setTop (mkF m 51 #[.val (.int fl), .val (.long qa), .second, .val (.long qb), .second, .val (.int vd), .val (.int (0 : Int32)), .val (.int vl), .unset, .unset, .unset, .unset, .unset, .unset, .unset, .unset, .unset, .unset] [(.int (0 : Int32))]))
      refine Go.step (fun t k => XS.istore X0.here hx rfl (hb hby at_51) rfl (l' := #[.val (.int fl), .val (.long qa), .second, .val (.long qb), .second, .val (.int vd), .val (.int (0 : Int32)), .val (.int vl), .val (.int (0 : Int32)), .unset, .unset, .unset, .unset, .unset, .unset, .unset, .unset, .unset]) rfl k) ?_
      show Go _ _ _ _ _ _ _ (s₁.setTop (mkF m 53 #[.val (.int fl), .val (.long qa), .second, .val (.long qb), .second, .val (.int vd), .val (.int (0 : Int32)), .val (.int vl), .val (.int (0 : Int32)), .unset, .unset, .unset, .unset, .unset, .unset, .unset, .unset, .unset] []))
      refine Go.step (fun t k => XS.iloadN X0.here hx rfl (hb hby at_53) rfl k) ?_
      show Go _ _ _ _ _ _ _ (s₁.setTop (mkF m 54 #[.val (.int fl), .val (.long qa), .second, .val (.long qb), .second, .val (.int vd), .val (.int (0 : Int32)), .val (.int vl), .val (.int (0 : Int32)), .unset, .unset, .unset, .unset, .unset, .unset, .unset, .unset, .unset] [(.int fl)]))
      refine Go.step (fun t k => XS.bipush X0.here hx rfl (hb hby at_54) k) ?_
      show Go _ _ _ _ _ _ _ (s₁.setTop (mkF m 56 #[.val (.int fl), .val (.long qa), .second, .val (.long qb), .second, .val (.int vd), .val (.int (0 : Int32)), .val (.int vl), .val (.int (0 : Int32)), .unset, .unset, .unset, .unset, .unset, .unset, .unset, .unset, .unset] [(.int (16 : Int32)), (.int fl)]))
      refine Go.step (fun t k => XS.iand X0.here hx rfl (hb hby at_56) rfl k) ?_
      show Go _ _ _ _ _ _ _ (s₁.setTop (mkF m 57 #[.val (.int fl), .val (.long qa), .second, .val (.long qb), .second, .val (.int vd), .val (.int (0 : Int32)), .val (.int vl), .val (.int (0 : Int32)), .unset, .unset, .unset, .unset, .unset, .unset, .unset, .unset, .unset] [(.int (fl &&& (16 : Int32)))]))
      -- joined again at pc 65
      obtain ⟨vh, hvh⟩ : ∃ z : Int32, z = (if (fl &&& (16 : Int32)) = (0 : Int32) then (0 : Int32) else (1 : Int32)) := ⟨_, rfl⟩
      have st7 : ∀ t, Steps p.tables e below (s₁.setTop (mkF m 65 #[.val (.int fl), .val (.long qa), .second, .val (.long qb), .second, .val (.int vd), .val (.int (0 : Int32)), .val (.int vl), .val (.int (0 : Int32)), .unset, .unset, .unset, .unset, .unset, .unset, .unset, .unset, .unset] [(.int vh)])) t → Steps p.tables e below (s₁.setTop (mkF m 57 #[.val (.int fl), .val (.long qa), .second, .val (.long qb), .second, .val (.int vd), .val (.int (0 : Int32)), .val (.int vl), .val (.int (0 : Int32)), .unset, .unset, .unset, .unset, .unset, .unset, .unset, .unset, .unset] [(.int (fl &&& (16 : Int32)))])) t := by
        intro t kt
        by_cases hd57_8 : (fl &&& (16 : Int32)) = (0 : Int32)
        · refine XS.ifYes X0.here hx rfl (pc0 := 57) (pc' := 64) rfl (hb hby at_57) rfl ((if0 _ _).trans (teq hd57_8).1) (by decide) (by decide) ?_
          show Steps p.tables e below (s₁.setTop (mkF m 64 #[.val (.int fl), .val (.long qa), .second, .val (.long qb), .second, .val (.int vd), .val (.int (0 : Int32)), .val (.int vl), .val (.int (0 : Int32)), .unset, .unset, .unset, .unset, .unset, .unset, .unset, .unset, .unset] [])) _
          refine XS.iconst X0.here hx rfl (hb hby at_64) ?_
          show Steps p.tables e below (s₁.setTop (mkF m 65 #[.val (.int fl), .val (.long qa), .second, .val (.long qb), .second, .val (.int vd), .val (.int (0 : Int32)), .val (.int vl), .val (.int (0 : Int32)), .unset, .unset, .unset, .unset, .unset, .unset, .unset, .unset, .unset] [(.int (0 : Int32))])) _
          have qvh : vh = (0 : Int32) := by rw [hvh]; simp only [if_pos hd57_8]
          rw [qvh] at kt
          exact kt
        · refine XS.ifNo X0.here hx rfl (hb hby at_57) rfl ((if0 _ _).trans (feq hd57_8).1) ?_
          show Steps p.tables e below (s₁.setTop (mkF m 60 #[.val (.int fl), .val (.long qa), .second, .val (.long qb), .second, .val (.int vd), .val (.int (0 : Int32)), .val (.int vl), .val (.int (0 : Int32)), .unset, .unset, .unset, .unset, .unset, .unset, .unset, .unset, .unset] [])) _
          refine XS.iconst X0.here hx rfl (hb hby at_60) ?_
          show Steps p.tables e below (s₁.setTop (mkF m 61 #[.val (.int fl), .val (.long qa), .second, .val (.long qb), .second, .val (.int vd), .val (.int (0 : Int32)), .val (.int vl), .val (.int (0 : Int32)), .unset, .unset, .unset, .unset, .unset, .unset, .unset, .unset, .unset] [(.int (1 : Int32))])) _
          refine XS.goto X0.here hx rfl (pc0 := 61) (pc' := 65) rfl (hb hby at_61) (by decide) (by decide) ?_
          show Steps p.tables e below (s₁.setTop (mkF m 65 #[.val (.int fl), .val (.long qa), .second, .val (.long qb), .second, .val (.int vd), .val (.int (0 : Int32)), .val (.int vl), .val (.int (0 : Int32)), .unset, .unset, .unset, .unset, .unset, .unset, .unset, .unset, .unset] [(.int (1 : Int32))])) _
          have qvh : vh = (1 : Int32) := by rw [hvh]; simp only [if_neg hd57_8]
          rw [qvh] at kt
          exact kt
      refine Go.step st7 ?_
      show Go _ _ _ _ _ _ _ (s₁.setTop (mkF m 65 #[.val (.int fl), .val (.long qa), .second, .val (.long qb), .second, .val (.int vd), .val (.int (0 : Int32)), .val (.int vl), .val (.int (0 : Int32)), .unset, .unset, .unset, .unset, .unset, .unset, .unset, .unset, .unset] [(.int vh)]))
      refine Go.step (fun t k => XS.istore X0.here hx rfl (hb hby at_65) rfl (l' := #[.val (.int fl), .val (.long qa), .second, .val (.long qb), .second, .val (.int vd), .val (.int (0 : Int32)), .val (.int vl), .val (.int (0 : Int32)), .val (.int vh), .unset, .unset, .unset, .unset, .unset, .unset, .unset, .unset]) rfl k) ?_
      show Go _ _ _ _ _ _ _ (s₁.setTop (mkF m 67 #[.val (.int fl), .val (.long qa), .second, .val (.long qb), .second, .val (.int vd), .val (.int (0 : Int32)), .val (.int vl), .val (.int (0 : Int32)), .val (.int vh), .unset, .unset, .unset, .unset, .unset, .unset, .unset, .unset] []))
      refine Go.step (fun t k => XS.iload X0.here hx rfl (hb hby at_67) rfl k) ?_
      show Go _ _ _ _ _ _ _ (s₁.setTop (mkF m 69 #[.val (.int fl), .val (.long qa), .second, .val (.long qb), .second, .val (.int vd), .val (.int (0 : Int32)), .val (.int vl), .val (.int (0 : Int32)), .val (.int vh), .unset, .unset, .unset, .unset, .unset, .unset, .unset, .unset] [(.int (0 : Int32))]))
      refine Go.step (fun t k => XS.ifYes X0.here hx rfl (pc0 := 69) (pc' := 76) rfl (hb hby at_69) rfl ((if0 _ _).trans (teq (by decide : (0 : Int32) = (0 : Int32))).1) (by decide) (by decide) k) ?_
      show Go _ _ _ _ _ _ _ (s₁.setTop (mkF m 76 #[.val (.int fl), .val (.long qa), .second, .val (.long qb), .second, .val (.int vd), .val (.int (0 : Int32)), .val (.int vl), .val (.int (0 : Int32)), .val (.int vh), .unset, .unset, .unset, .unset, .unset, .unset, .unset, .unset] []))
      refine Go.step (fun t k => XS.lloadN X0.here hx rfl (hb hby at_76) rfl k) ?_
      show Go _ _ _ _ _ _ _ (s₁.setTop (mkF m 77 #[.val (.int fl), .val (.long qa), .second, .val (.long qb), .second, .val (.int vd), .val (.int (0 : Int32)), .val (.int vl), .val (.int (0 : Int32)), .val (.int vh), .unset, .unset, .unset, .unset, .unset, .unset, .unset, .unset] [(.long qa)]))
      refine Go.step (fun t k => X0.ldc2Long hx hown (mvT hZ (hw _ (List.mem_of_getElem? (i := 0) rfl))) (g := (mkF m 77 #[.val (.int fl), .val (.long qa), .second, .val (.long qb), .second, .val (.int vd), .val (.int (0 : Int32)), .val (.int vl), .val (.int (0 : Int32)), .val (.int vh), .unset, .unset, .unset, .unset, .unset, .unset, .unset, .unset] [(.long qa)])) rfl (hb hby at_77) _ k) ?_
      show Go _ _ _ _ _ _ _ (s₁.setTop (mkF m 80 #[.val (.int fl), .val (.long qa), .second, .val (.long qb), .second, .val (.int vd), .val (.int (0 : Int32)), .val (.int vl), .val (.int (0 : Int32)), .val (.int vh), .unset, .unset, .unset, .unset, .unset, .unset, .unset, .unset] [(.long (-9223372036854775807 : Int64)), (.long qa)]))
      obtain ⟨_, _, ⟨T9, L9, k9, n9⟩, -, X9, ⟨Lc9, hQ9, l9, y9, z9⟩, st9⟩ := Jvm.LawKit.callS X0 hx (y := (⟨"java/lang/Math", "max", "(JJ)J"⟩ : MethodName)) hown (mvT hZ (hw _ (List.mem_of_getElem? (i := 1) rfl))) (mvT hZ (hw _ (List.mem_of_getElem? (i := 2) rfl))) (mvT hZ (hw _ (List.mem_of_getElem? (i := 3) rfl))) (mvT hZ (hw _ (List.mem_of_getElem? (i := 4) rfl))) (by decide) (backOf (W := 0) (rm1 l Z a0 hw [] qa (-9223372036854775807 : Int64) h0 n0 Z0) hZ (hw _ (List.mem_of_getElem? (i := 4) rfl)) (hw _ (List.mem_of_getElem? (i := 3) rfl)) (by decide) (by decide)) (g := (mkF m 80 #[.val (.int fl), .val (.long qa), .second, .val (.long qb), .second, .val (.int vd), .val (.int (0 : Int32)), .val (.int vl), .val (.int (0 : Int32)), .val (.int vh), .unset, .unset, .unset, .unset, .unset, .unset, .unset, .unset] [(.long (-9223372036854775807 : Int64)), (.long qa)])) rfl (by rw [hml]; rfl) (argsL := [(.long qa), (.long (-9223372036854775807 : Int64))]) (rest := []) (lenOf pd_0_0 rfl) rfl (by show 2 * 0 + _ ≤ _; exact Nat.le_of_eq rfl) (hb hby at_80) (fun _ _ => ⟨rfl, e0, (by decide : 0 + 0 ≤ _), (by decide : 0 + 0 ≤ _)⟩)
      dsimp only [Pt.U, Pt.locs, Pt.cells, Pt.slots] at X9 l9 y9 z9 st9 hQ9
      subst l9 y9 z9
      obtain ⟨ml, rfl, N9q, K9q, o9_hz⟩ := hQ9
      have N9 := Fr.app N0 N9q
      refine Go.step st9 ?_
      show Go _ _ _ _ _ _ _ (T9.setTop (mkF m 83 #[.val (.int fl), .val (.long qa), .second, .val (.long qb), .second, .val (.int vd), .val (.int (0 : Int32)), .val (.int vl), .val (.int (0 : Int32)), .val (.int vh), .unset, .unset, .unset, .unset, .unset, .unset, .unset, .unset] [(.long ml)]))
      obtain ⟨_, _, ⟨T10, L10, k10, n10⟩, -, X10, ⟨Lc10, hQ10, l10, y10, z10⟩, st10⟩ := Jvm.LawKit.callS X9 hx (y := (⟨"java/lang/Long", "valueOf", "(J)Ljava/lang/Long;"⟩ : MethodName)) hown (mvT hZ (hw _ (List.mem_of_getElem? (i := 5) rfl))) (mvT hZ (hw _ (List.mem_of_getElem? (i := 6) rfl))) (mvT hZ (hw _ (List.mem_of_getElem? (i := 7) rfl))) (mvT hZ (hw _ (List.mem_of_getElem? (i := 8) rfl))) (by decide) (backOf (W := 0) (rm2 l Z a0 hw [] ml ca h0 n0 Z0 old hsta hca) hZ (hw _ (List.mem_of_getElem? (i := 8) rfl)) (hw _ (List.mem_of_getElem? (i := 7) rfl)) (by decide) (by decide)) (g := (mkF m 83 #[.val (.int fl), .val (.long qa), .second, .val (.long qb), .second, .val (.int vd), .val (.int (0 : Int32)), .val (.int vl), .val (.int (0 : Int32)), .val (.int vh), .unset, .unset, .unset, .unset, .unset, .unset, .unset, .unset] [(.long ml)])) rfl (by rw [hml]; rfl) (argsL := [(.long ml)]) (rest := []) (lenOf pd_0_1 rfl) rfl (by show 2 * 0 + _ ≤ _; exact Nat.le_of_eq rfl) (hb hby at_83) (fun _ _ => ⟨rfl, K9q, (by decide : 0 + 1 ≤ _), (by decide : 0 + 1 ≤ _)⟩)
      dsimp only [Pt.U, Pt.locs, Pt.cells, Pt.slots] at X10 l10 y10 z10 st10 hQ10
      subst l10 y10 z10
      obtain ⟨bl, rfl, N10q, K10q, o10_E_bl, o10_F_value_bl⟩ := hQ10
      have N10 := Fr.app N9 N10q
      replace old := Old.keep old K10q all0
      have Z10 := Nat.le_trans Z0 K10q.1
      have E_bl := o10_E_bl
      have F_value_bl := o10_F_value_bl
      refine Go.step st10 ?_
      show Go _ _ _ _ _ _ _ (T10.setTop (mkF m 86 #[.val (.int fl), .val (.long qa), .second, .val (.long qb), .second, .val (.int vd), .val (.int (0 : Int32)), .val (.int vl), .val (.int (0 : Int32)), .val (.int vh), .unset, .unset, .unset, .unset, .unset, .unset, .unset, .unset] [(.ref bl)]))
      refine Go.step (fun t k => XS.astore X10.here hx rfl (hb hby at_86) rfl rfl (l' := #[.val (.int fl), .val (.long qa), .second, .val (.long qb), .second, .val (.int vd), .val (.int (0 : Int32)), .val (.int vl), .val (.int (0 : Int32)), .val (.int vh), .val (.ref bl), .unset, .unset, .unset, .unset, .unset, .unset, .unset]) rfl k) ?_
      show Go _ _ _ _ _ _ _ (T10.setTop (mkF m 88 #[.val (.int fl), .val (.long qa), .second, .val (.long qb), .second, .val (.int vd), .val (.int (0 : Int32)), .val (.int vl), .val (.int (0 : Int32)), .val (.int vh), .val (.ref bl), .unset, .unset, .unset, .unset, .unset, .unset, .unset] []))
      refine Go.step (fun t k => XS.iload X10.here hx rfl (hb hby at_88) rfl k) ?_
      show Go _ _ _ _ _ _ _ (T10.setTop (mkF m 90 #[.val (.int fl), .val (.long qa), .second, .val (.long qb), .second, .val (.int vd), .val (.int (0 : Int32)), .val (.int vl), .val (.int (0 : Int32)), .val (.int vh), .val (.ref bl), .unset, .unset, .unset, .unset, .unset, .unset, .unset] [(.int (0 : Int32))]))
      refine Go.step (fun t k => XS.ifYes X10.here hx rfl (pc0 := 90) (pc' := 97) rfl (hb hby at_90) rfl ((if0 _ _).trans (teq (by decide : (0 : Int32) = (0 : Int32))).1) (by decide) (by decide) k) ?_
      show Go _ _ _ _ _ _ _ (T10.setTop (mkF m 97 #[.val (.int fl), .val (.long qa), .second, .val (.long qb), .second, .val (.int vd), .val (.int (0 : Int32)), .val (.int vl), .val (.int (0 : Int32)), .val (.int vh), .val (.ref bl), .unset, .unset, .unset, .unset, .unset, .unset, .unset] []))
      refine Go.step (fun t k => XS.lloadN X10.here hx rfl (hb hby at_97) rfl k) ?_
      show Go _ _ _ _ _ _ _ (T10.setTop (mkF m 98 #[.val (.int fl), .val (.long qa), .second, .val (.long qb), .second, .val (.int vd), .val (.int (0 : Int32)), .val (.int vl), .val (.int (0 : Int32)), .val (.int vh), .val (.ref bl), .unset, .unset, .unset, .unset, .unset, .unset, .unset] [(.long qb)]))
      refine Go.step (fun t k => X10.ldc2Long hx hown (mvT hZ (hw _ (List.mem_of_getElem? (i := 13) rfl))) (g := (mkF m 98 #[.val (.int fl), .val (.long qa), .second, .val (.long qb), .second, .val (.int vd), .val (.int (0 : Int32)), .val (.int vl), .val (.int (0 : Int32)), .val (.int vh), .val (.ref bl), .unset, .unset, .unset, .unset, .unset, .unset, .unset] [(.long qb)])) rfl (hb hby at_98) _ k) ?_
      show Go _ _ _ _ _ _ _ (T10.setTop (mkF m 101 #[.val (.int fl), .val (.long qa), .second, .val (.long qb), .second, .val (.int vd), .val (.int (0 : Int32)), .val (.int vl), .val (.int (0 : Int32)), .val (.int vh), .val (.ref bl), .unset, .unset, .unset, .unset, .unset, .unset, .unset] [(.long (9223372036854775806 : Int64)), (.long qb)]))
      obtain ⟨_, _, ⟨T11, L11, k11, n11⟩, -, X11, ⟨Lc11, hQ11, l11, y11, z11⟩, st11⟩ := Jvm.LawKit.callS X10 hx (y := (⟨"java/lang/Math", "min", "(JJ)J"⟩ : MethodName)) hown (mvT hZ (hw _ (List.mem_of_getElem? (i := 14) rfl))) (mvT hZ (hw _ (List.mem_of_getElem? (i := 15) rfl))) (mvT hZ (hw _ (List.mem_of_getElem? (i := 3) rfl))) (mvT hZ (hw _ (List.mem_of_getElem? (i := 16) rfl))) (by decide) (backOf (W := 0) (rm3 l Z a0 hw [] qb (9223372036854775806 : Int64) T10.heap n0 Z10) hZ (hw _ (List.mem_of_getElem? (i := 16) rfl)) (hw _ (List.mem_of_getElem? (i := 3) rfl)) (by decide) (by decide)) (g := (mkF m 101 #[.val (.int fl), .val (.long qa), .second, .val (.long qb), .second, .val (.int vd), .val (.int (0 : Int32)), .val (.int vl), .val (.int (0 : Int32)), .val (.int vh), .val (.ref bl), .unset, .unset, .unset, .unset, .unset, .unset, .unset] [(.long (9223372036854775806 : Int64)), (.long qb)])) rfl (by rw [hml]; rfl) (argsL := [(.long qb), (.long (9223372036854775806 : Int64))]) (rest := []) (lenOf pd_0_0 rfl) rfl (by show 2 * 0 + _ ≤ _; exact Nat.le_of_eq rfl) (hb hby at_101) (fun _ _ => ⟨rfl, rfl, (by decide : 1 + 0 ≤ _), (by decide : 1 + 0 ≤ _)⟩)
      dsimp only [Pt.U, Pt.locs, Pt.cells, Pt.slots] at X11 l11 y11 z11 st11 hQ11
      subst l11 y11 z11
      obtain ⟨mh, rfl, N11q, K11q, o11_hz⟩ := hQ11
      have N11 := Fr.app N10 N11q
      refine Go.step st11 ?_
      show Go _ _ _ _ _ _ _ (T11.setTop (mkF m 104 #[.val (.int fl), .val (.long qa), .second, .val (.long qb), .second, .val (.int vd), .val (.int (0 : Int32)), .val (.int vl), .val (.int (0 : Int32)), .val (.int vh), .val (.ref bl), .unset, .unset, .unset, .unset, .unset, .unset, .unset] [(.long mh)]))
      obtain ⟨_, _, ⟨T12, L12, k12, n12⟩, -, X12, ⟨Lc12, hQ12, l12, y12, z12⟩, st12⟩ := Jvm.LawKit.callS X11 hx (y := (⟨"java/lang/Long", "valueOf", "(J)Ljava/lang/Long;"⟩ : MethodName)) hown (mvT hZ (hw _ (List.mem_of_getElem? (i := 5) rfl))) (mvT hZ (hw _ (List.mem_of_getElem? (i := 6) rfl))) (mvT hZ (hw _ (List.mem_of_getElem? (i := 7) rfl))) (mvT hZ (hw _ (List.mem_of_getElem? (i := 8) rfl))) (by decide) (backOf (W := 0) (rm2 l Z a0 hw [] mh ca T10.heap n0 Z10 old hsta hca) hZ (hw _ (List.mem_of_getElem? (i := 8) rfl)) (hw _ (List.mem_of_getElem? (i := 7) rfl)) (by decide) (by decide)) (g := (mkF m 104 #[.val (.int fl), .val (.long qa), .second, .val (.long qb), .second, .val (.int vd), .val (.int (0 : Int32)), .val (.int vl), .val (.int (0 : Int32)), .val (.int vh), .val (.ref bl), .unset, .unset, .unset, .unset, .unset, .unset, .unset] [(.long mh)])) rfl (by rw [hml]; rfl) (argsL := [(.long mh)]) (rest := []) (lenOf pd_0_1 rfl) rfl (by show 2 * 0 + _ ≤ _; exact Nat.le_of_eq rfl) (hb hby at_104) (fun _ _ => ⟨rfl, K11q, (by decide : 1 + 1 ≤ _), (by decide : 1 + 1 ≤ _)⟩)
      dsimp only [Pt.U, Pt.locs, Pt.cells, Pt.slots] at X12 l12 y12 z12 st12 hQ12
      subst l12 y12 z12
      obtain ⟨bh, rfl, N12q, K12q, o12_E_bh, o12_F_value_bh⟩ := hQ12
      have N12 := Fr.app N11 N12q
      replace old := Old.keep old K12q all0
      replace E_bl := E_bl.keep K12q
      replace F_value_bl := F_value_bl.keep K12q nin0
      have Z12 := Nat.le_trans Z10 K12q.1
      have E_bh := o12_E_bh
      have F_value_bh := o12_F_value_bh
      refine Go.step st12 ?_
      show Go _ _ _ _ _ _ _ (T12.setTop (mkF m 107 #[.val (.int fl), .val (.long qa), .second, .val (.long qb), .second, .val (.int vd), .val (.int (0 : Int32)), .val (.int vl), .val (.int (0 : Int32)), .val (.int vh), .val (.ref bl), .unset, .unset, .unset, .unset, .unset, .unset, .unset] [(.ref bh)]))
      refine Go.step (fun t k => XS.astore X12.here hx rfl (hb hby at_107) rfl rfl (l' := #[.val (.int fl), .val (.long qa), .second, .val (.long qb), .second, .val (.int vd), .val (.int (0 : Int32)), .val (.int vl), .val (.int (0 : Int32)), .val (.int vh), .val (.ref bl), .val (.ref bh), .unset, .unset, .unset, .unset, .unset, .unset]) rfl k) ?_
      show Go _ _ _ _ _ _ _ (T12.setTop (mkF m 109 #[.val (.int fl), .val (.long qa), .second, .val (.long qb), .second, .val (.int vd), .val (.int (0 : Int32)), .val (.int vl), .val (.int (0 : Int32)), .val (.int vh), .val (.ref bl), .val (.ref bh), .unset, .unset, .unset, .unset, .unset, .unset] []))
      refine Go.step (fun t k => X12.ldc2Long hx hown (mvT hZ (hw _ (List.mem_of_getElem? (i := 34) rfl))) (g := (mkF m 109 #[.val (.int fl), .val (.long qa), .second, .val (.long qb), .second, .val (.int vd), .val (.int (0 : Int32)), .val (.int vl), .val (.int (0 : Int32)), .val (.int vh), .val (.ref bl), .val (.ref bh), .unset, .unset, .unset, .unset, .unset, .unset] [])) rfl (hb hby at_109) _ k) ?_
      show Go _ _ _ _ _ _ _ (T12.setTop (mkF m 112 #[.val (.int fl), .val (.long qa), .second, .val (.long qb), .second, .val (.int vd), .val (.int (0 : Int32)), .val (.int vl), .val (.int (0 : Int32)), .val (.int vh), .val (.ref bl), .val (.ref bh), .unset, .unset, .unset, .unset, .unset, .unset] [(.long (-9223372036854775808 : Int64))]))
      obtain ⟨_, _, ⟨T13, L13, k13, n13⟩, -, X13, ⟨Lc13, hQ13, l13, y13, z13⟩, st13⟩ := Jvm.LawKit.callS X12 hx (y := (⟨"java/lang/Long", "valueOf", "(J)Ljava/lang/Long;"⟩ : MethodName)) hown (mvT hZ (hw _ (List.mem_of_getElem? (i := 5) rfl))) (mvT hZ (hw _ (List.mem_of_getElem? (i := 6) rfl))) (mvT hZ (hw _ (List.mem_of_getElem? (i := 7) rfl))) (mvT hZ (hw _ (List.mem_of_getElem? (i := 8) rfl))) (by decide) (backOf (W := 0) (rm2 l Z a0 hw [] (-9223372036854775808 : Int64) ca T12.heap n0 Z12 old hsta hca) hZ (hw _ (List.mem_of_getElem? (i := 8) rfl)) (hw _ (List.mem_of_getElem? (i := 7) rfl)) (by decide) (by decide)) (g := (mkF m 112 #[.val (.int fl), .val (.long qa), .second, .val (.long qb), .second, .val (.int vd), .val (.int (0 : Int32)), .val (.int vl), .val (.int (0 : Int32)), .val (.int vh), .val (.ref bl), .val (.ref bh), .unset, .unset, .unset, .unset, .unset, .unset] [(.long (-9223372036854775808 : Int64))])) rfl (by rw [hml]; rfl) (argsL := [(.long (-9223372036854775808 : Int64))]) (rest := []) (lenOf pd_0_1 rfl) rfl (by show 2 * 0 + _ ≤ _; exact Nat.le_of_eq rfl) (hb hby at_112) (fun _ _ => ⟨rfl, rfl, (by decide : 2 + 1 ≤ _), (by decide : 2 + 1 ≤ _)⟩)
      dsimp only [Pt.U, Pt.locs, Pt.cells, Pt.slots] at X13 l13 y13 z13 st13 hQ13
      subst l13 y13 z13
      obtain ⟨b1, rfl, N13q, K13q, o13_E_b1, o13_F_value_b1⟩ := hQ13
      have N13 := Fr.app N12 N13q
      replace old := Old.keep old K13q all0
      replace E_bl := E_bl.keep K13q
      replace F_value_bl := F_value_bl.keep K13q nin0
      replace E_bh := E_bh.keep K13q
      replace F_value_bh := F_value_bh.keep K13q nin0
      have Z13 := Nat.le_trans Z12 K13q.1
      have E_b1 := o13_E_b1
      have F_value_b1 := o13_F_value_b1
      refine Go.step st13 ?_
      show Go _ _ _ _ _ _ _ (T13.setTop (mkF m 115 #[.val (.int fl), .val (.long qa), .second, .val (.long qb), .second, .val (.int vd), .val (.int (0 : Int32)), .val (.int vl), .val (.int (0 : Int32)), .val (.int vh), .val (.ref bl), .val (.ref bh), .unset, .unset, .unset, .unset, .unset, .unset] [(.ref b1)]))
      refine Go.step (fun t k => XS.astore X13.here hx rfl (hb hby at_115) rfl rfl (l' := #[.val (.int fl), .val (.long qa), .second, .val (.long qb), .second, .val (.int vd), .val (.int (0 : Int32)), .val (.int vl), .val (.int (0 : Int32)), .val (.int vh), .val (.ref bl), .val (.ref bh), .val (.ref b1), .unset, .unset, .unset, .unset, .unset]) rfl k) ?_
      show Go _ _ _ _ _ _ _ (T13.setTop (mkF m 117 #[.val (.int fl), .val (.long qa), .second, .val (.long qb), .second, .val (.int vd), .val (.int (0 : Int32)), .val (.int vl), .val (.int (0 : Int32)), .val (.int vh), .val (.ref bl), .val (.ref bh), .val (.ref b1), .unset, .unset, .unset, .unset, .unset] []))
      refine Go.step (fun t k => X13.ldc2Long hx hown (mvT hZ (hw _ (List.mem_of_getElem? (i := 35) rfl))) (g := (mkF m 117 #[.val (.int fl), .val (.long qa), .second, .val (.long qb), .second, .val (.int vd), .val (.int (0 : Int32)), .val (.int vl), .val (.int (0 : Int32)), .val (.int vh), .val (.ref bl), .val (.ref bh), .val (.ref b1), .unset, .unset, .unset, .unset, .unset] [])) rfl (hb hby at_117) _ k) ?_
      show Go _ _ _ _ _ _ _ (T13.setTop (mkF m 120 #[.val (.int fl), .val (.long qa), .second, .val (.long qb), .second, .val (.int vd), .val (.int (0 : Int32)), .val (.int vl), .val (.int (0 : Int32)), .val (.int vh), .val (.ref bl), .val (.ref bh), .val (.ref b1), .unset, .unset, .unset, .unset, .unset] [(.long (9223372036854775807 : Int64))]))
      obtain ⟨_, _, ⟨T14, L14, k14, n14⟩, -, X14, ⟨Lc14, hQ14, l14, y14, z14⟩, st14⟩ := Jvm.LawKit.callS X13 hx (y := (⟨"java/lang/Long", "valueOf", "(J)Ljava/lang/Long;"⟩ : MethodName)) hown (mvT hZ (hw _ (List.mem_of_getElem? (i := 5) rfl))) (mvT hZ (hw _ (List.mem_of_getElem? (i := 6) rfl))) (mvT hZ (hw _ (List.mem_of_getElem? (i := 7) rfl))) (mvT hZ (hw _ (List.mem_of_getElem? (i := 8) rfl))) (by decide) (backOf (W := 0) (rm2 l Z a0 hw [] (9223372036854775807 : Int64) ca T13.heap n0 Z13 old hsta hca) hZ (hw _ (List.mem_of_getElem? (i := 8) rfl)) (hw _ (List.mem_of_getElem? (i := 7) rfl)) (by decide) (by decide)) (g := (mkF m 120 #[.val (.int fl), .val (.long qa), .second, .val (.long qb), .second, .val (.int vd), .val (.int (0 : Int32)), .val (.int vl), .val (.int (0 : Int32)), .val (.int vh), .val (.ref bl), .val (.ref bh), .val (.ref b1), .unset, .unset, .unset, .unset, .unset] [(.long (9223372036854775807 : Int64))])) rfl (by rw [hml]; rfl) (argsL := [(.long (9223372036854775807 : Int64))]) (rest := []) (lenOf pd_0_1 rfl) rfl (by show 2 * 0 + _ ≤ _; exact Nat.le_of_eq rfl) (hb hby at_120) (fun _ _ => ⟨rfl, rfl, (by decide : 3 + 1 ≤ _), (by decide : 3 + 1 ≤ _)⟩)
      dsimp only [Pt.U, Pt.locs, Pt.cells, Pt.slots] at X14 l14 y14 z14 st14 hQ14
      subst l14 y14 z14
      obtain ⟨b2, rfl, N14q, K14q, o14_E_b2, o14_F_value_b2⟩ := hQ14
      have N14 := Fr.app N13 N14q
      replace old := Old.keep old K14q all0
      replace E_bl := E_bl.keep K14q
      replace F_value_bl := F_value_bl.keep K14q nin0
      replace E_bh := E_bh.keep K14q
      replace F_value_bh := F_value_bh.keep K14q nin0
      replace E_b1 := E_b1.keep K14q
      replace F_value_b1 := F_value_b1.keep K14q nin0
      have Z14 := Nat.le_trans Z13 K14q.1
      have E_b2 := o14_E_b2
      have F_value_b2 := o14_F_value_b2
      refine Go.step st14 ?_
      show Go _ _ _ _ _ _ _ (T14.setTop (mkF m 123 #[.val (.int fl), .val (.long qa), .second, .val (.long qb), .second, .val (.int vd), .val (.int (0 : Int32)), .val (.int vl), .val (.int (0 : Int32)), .val (.int vh), .val (.ref bl), .val (.ref bh), .val (.ref b1), .unset, .unset, .unset, .unset, .unset] [(.ref b2)]))
      refine Go.step (fun t k => XS.astore X14.here hx rfl (hb hby at_123) rfl rfl (l' := #[.val (.int fl), .val (.long qa), .second, .val (.long qb), .second, .val (.int vd), .val (.int (0 : Int32)), .val (.int vl), .val (.int (0 : Int32)), .val (.int vh), .val (.ref bl), .val (.ref bh), .val (.ref b1), .val (.ref b2), .unset, .unset, .unset, .unset]) rfl k) ?_
      show Go _ _ _ _ _ _ _ (T14.setTop (mkF m 125 #[.val (.int fl), .val (.long qa), .second, .val (.long qb), .second, .val (.int vd), .val (.int (0 : Int32)), .val (.int vl), .val (.int (0 : Int32)), .val (.int vh), .val (.ref bl), .val (.ref bh), .val (.ref b1), .val (.ref b2), .unset, .unset, .unset, .unset] []))
      obtain ⟨T15, h15, X15, e15, E15, A15, D15, -, st15⟩ := newO X14 hx hZ hown (hw _ (List.mem_of_getElem? (i := 36) rfl)) (hw _ (List.mem_of_getElem? (i := 37) rfl)) (hw _ (List.mem_of_getElem? (i := 38) rfl)) rfl (g := (mkF m 125 #[.val (.int fl), .val (.long qa), .second, .val (.long qb), .second, .val (.int vd), .val (.int (0 : Int32)), .val (.int vl), .val (.int (0 : Int32)), .val (.int vh), .val (.ref bl), .val (.ref bh), .val (.ref b1), .val (.ref b2), .unset, .unset, .unset, .unset] [])) rfl (hb hby at_125) (by decide) (by decide)
      obtain ⟨rg, gz15⟩ : ∃ z, z = T14.heap.size := ⟨_, rfl⟩
      have ne_bl_rg : bl ≠ rg := Nat.ne_of_lt (Nat.lt_of_lt_of_le E_bl.lt (Nat.le_of_eq gz15.symm))
      have ne_bh_rg : bh ≠ rg := Nat.ne_of_lt (Nat.lt_of_lt_of_le E_bh.lt (Nat.le_of_eq gz15.symm))
      have ne_b1_rg : b1 ≠ rg := Nat.ne_of_lt (Nat.lt_of_lt_of_le E_b1.lt (Nat.le_of_eq gz15.symm))
      have ne_b2_rg : b2 ≠ rg := Nat.ne_of_lt (Nat.lt_of_lt_of_le E_b2.lt (Nat.le_of_eq gz15.symm))
      have g_rg : n0 ≤ rg := Nat.le_trans Z14 (Nat.le_of_eq gz15.symm)
      rw [← gz15] at A15 D15 st15
      replace old := Old.ext old E15
      replace E_bl := E_bl.ext E15
      replace F_value_bl := F_value_bl.ext E15
      replace E_bh := E_bh.ext E15
      replace F_value_bh := F_value_bh.ext E15
      replace E_b1 := E_b1.ext E15
      replace F_value_b1 := F_value_b1.ext E15
      replace E_b2 := E_b2.ext E15
      replace F_value_b2 := F_value_b2.ext E15
      have Z15 := Nat.le_trans Z14 E15.1
      have E_rg := A15
      have F_descending_rg : Fld Z h15 rg "com/example/rootkeep/rootkeep/KeyRange" "descending" "Z" (.int (0 : Int32)) := D15 (Or.inr (hw _ (List.mem_of_getElem? (i := 49) rfl))) (ty := .boolean) (by decide)
      have F_fromStart_rg : Fld Z h15 rg "com/example/rootkeep/rootkeep/KeyRange" "fromStart" "Z" (.int (0 : Int32)) := D15 (Or.inr (hw _ (List.mem_of_getElem? (i := 51) rfl))) (ty := .boolean) (by decide)
      have F_lo_rg : Fld Z h15 rg "com/example/rootkeep/rootkeep/KeyRange" "lo" "Ljava/lang/Object;" .null := D15 (Or.inr (hw _ (List.mem_of_getElem? (i := 53) rfl))) (ty := (.object "java/lang/Object")) (by decide)
      have F_loInclusive_rg : Fld Z h15 rg "com/example/rootkeep/rootkeep/KeyRange" "loInclusive" "Z" (.int (0 : Int32)) := D15 (Or.inr (hw _ (List.mem_of_getElem? (i := 55) rfl))) (ty := .boolean) (by decide)
      have F_toEnd_rg : Fld Z h15 rg "com/example/rootkeep/rootkeep/KeyRange" "toEnd" "Z" (.int (0 : Int32)) := D15 (Or.inr (hw _ (List.mem_of_getElem? (i := 57) rfl))) (ty := .boolean) (by decide)
      have F_hi_rg : Fld Z h15 rg "com/example/rootkeep/rootkeep/KeyRange" "hi" "Ljava/lang/Object;" .null := D15 (Or.inr (hw _ (List.mem_of_getElem? (i := 59) rfl))) (ty := (.object "java/lang/Object")) (by decide)
      have F_hiInclusive_rg : Fld Z h15 rg "com/example/rootkeep/rootkeep/KeyRange" "hiInclusive" "Z" (.int (0 : Int32)) := D15 (Or.inr (hw _ (List.mem_of_getElem? (i := 61) rfl))) (ty := .boolean) (by decide)
      refine Go.step st15 ?_
      show Go _ _ _ _ _ _ _ (T15.setTop (mkF m 128 #[.val (.int fl), .val (.long qa), .second, .val (.long qb), .second, .val (.int vd), .val (.int (0 : Int32)), .val (.int vl), .val (.int (0 : Int32)), .val (.int vh), .val (.ref bl), .val (.ref bh), .val (.ref b1), .val (.ref b2), .unset, .unset, .unset, .unset] [(.ref rg)]))
      refine Go.step (fun t k => XS.dup X15.here hx rfl (hb hby at_128) rfl rfl k) ?_
      show Go _ _ _ _ _ _ _ (T15.setTop (mkF m 129 #[.val (.int fl), .val (.long qa), .second, .val (.long qb), .second, .val (.int vd), .val (.int (0 : Int32)), .val (.int vl), .val (.int (0 : Int32)), .val (.int vh), .val (.ref bl), .val (.ref bh), .val (.ref b1), .val (.ref b2), .unset, .unset, .unset, .unset] [(.ref rg), (.ref rg)]))
      refine Go.step (fun t k => XS.iload X15.here hx rfl (hb hby at_129) rfl k) ?_
      show Go _ _ _ _ _ _ _ (T15.setTop (mkF m 131 #[.val (.int fl), .val (.long qa), .second, .val (.long qb), .second, .val (.int vd), .val (.int (0 : Int32)), .val (.int vl), .val (.int (0 : Int32)), .val (.int vh), .val (.ref bl), .val (.ref bh), .val (.ref b1), .val (.ref b2), .unset, .unset, .unset, .unset] [(.int vd), (.ref rg), (.ref rg)]))
      refine Go.step (fun t k => XS.iload X15.here hx rfl (hb hby at_131) rfl k) ?_
      show Go _ _ _ _ _ _ _ (T15.setTop (mkF m 133 #[.val (.int fl), .val (.long qa), .second, .val (.long qb), .second, .val (.int vd), .val (.int (0 : Int32)), .val (.int vl), .val (.int (0 : Int32)), .val (.int vh), .val (.ref bl), .val (.ref bh), .val (.ref b1), .val (.ref b2), .unset, .unset, .unset, .unset] [(.int (0 : Int32)), (.int vd), (.ref rg), (.ref rg)]))
      refine Go.step (fun t k => XS.aload X15.here hx rfl (hb hby at_133) rfl rfl k) ?_
      show Go _ _ _ _ _ _ _ (T15.setTop (mkF m 135 #[.val (.int fl), .val (.long qa), .second, .val (.long qb), .second, .val (.int vd), .val (.int (0 : Int32)), .val (.int vl), .val (.int (0 : Int32)), .val (.int vh), .val (.ref bl), .val (.ref bh), .val (.ref b1), .val (.ref b2), .unset, .unset, .unset, .unset] [(.ref bl), (.int (0 : Int32)), (.int vd), (.ref rg), (.ref rg)]))
      refine Go.step (fun t k => XS.iload X15.here hx rfl (hb hby at_135) rfl k) ?_
      show Go _ _ _ _ _ _ _ (T15.setTop (mkF m 137 #[.val (.int fl), .val (.long qa), .second, .val (.long qb), .second, .val (.int vd), .val (.int (0 : Int32)), .val (.int vl), .val (.int (0 : Int32)), .val (.int vh), .val (.ref bl), .val (.ref bh), .val (.ref b1), .val (.ref b2), .unset, .unset, .unset, .unset] [(.int vl), (.ref bl), (.int (0 : Int32)), (.int vd), (.ref rg), (.ref rg)]))
      refine Go.step (fun t k => XS.iload X15.here hx rfl (hb hby at_137) rfl k) ?_
      show Go _ _ _ _ _ _ _ (T15.setTop (mkF m 139 #[.val (.int fl), .val (.long qa), .second, .val (.long qb), .second, .val (.int vd), .val (.int (0 : Int32)), .val (.int vl), .val (.int (0 : Int32)), .val (.int vh), .val (.ref bl), .val (.ref bh), .val (.ref b1), .val (.ref b2), .unset, .unset, .unset, .unset] [(.int (0 : Int32)), (.int vl), (.ref bl), (.int (0 : Int32)), (.int vd), (.ref rg), (.ref rg)]))
      refine Go.step (fun t k => XS.aload X15.here hx rfl (hb hby at_139) rfl rfl k) ?_
      show Go _ _ _ _ _ _ _ (T15.setTop (mkF m 141 #[.val (.int fl), .val (.long qa), .second, .val (.long qb), .second, .val (.int vd), .val (.int (0 : Int32)), .val (.int vl), .val (.int (0 : Int32)), .val (.int vh), .val (.ref bl), .val (.ref bh), .val (.ref b1), .val (.ref b2), .unset, .unset, .unset, .unset] [(.ref bh), (.int (0 : Int32)), (.int vl), (.ref bl), (.int (0 : Int32)), (.int vd), (.ref rg), (.ref rg)]))
      refine Go.step (fun t k => XS.iload X15.here hx rfl (hb hby at_141) rfl k) ?_
      show Go _ _ _ _ _ _ _ (T15.setTop (mkF m 143 #[.val (.int fl), .val (.long qa), .second, .val (.long qb), .second, .val (.int vd), .val (.int (0 : Int32)), .val (.int vl), .val (.int (0 : Int32)), .val (.int vh), .val (.ref bl), .val (.ref bh), .val (.ref b1), .val (.ref b2), .unset, .unset, .unset, .unset] [(.int vh), (.ref bh), (.int (0 : Int32)), (.int vl), (.ref bl), (.int (0 : Int32)), (.int vd), (.ref rg), (.ref rg)]))
      obtain ⟨_, _, ⟨T16, L16, k16, n16⟩, -, X16, ⟨Lc16, hQ16, l16, y16, z16⟩, st16⟩ := X15.specialBack hx (y := (⟨"com/example/rootkeep/rootkeep/KeyRange", "<init>", "(ZZLjava/lang/Object;ZZLjava/lang/Object;Z)V"⟩ : MethodName)) rfl hown (mvT hZ (hw _ (List.mem_of_getElem? (i := 39) rfl))) (mvT hZ (hw _ (List.mem_of_getElem? (i := 40) rfl))) (mvT hZ (hw _ (List.mem_of_getElem? (i := 41) rfl))) (by decide) (backOf (W := 1) (rm7_00 l Z a0 hw [] rg vd (0 : Int32) bl vl (0 : Int32) bh vh h15 n0 Z15 F_descending_rg F_fromStart_rg F_lo_rg F_loInclusive_rg F_toEnd_rg F_hi_rg F_hiInclusive_rg E_rg g_rg (own_01 hvd) (Or.inl rfl) (own_01 hvl) (Or.inl rfl) (own_01 hvh)) hZ (hw _ (List.mem_of_getElem? (i := 41) rfl)) (hw _ (List.mem_of_getElem? (i := 38) rfl)) (by decide) (by decide)) (g := (mkF m 143 #[.val (.int fl), .val (.long qa), .second, .val (.long qb), .second, .val (.int vd), .val (.int (0 : Int32)), .val (.int vl), .val (.int (0 : Int32)), .val (.int vh), .val (.ref bl), .val (.ref bh), .val (.ref b1), .val (.ref b2), .unset, .unset, .unset, .unset] [(.int vh), (.ref bh), (.int (0 : Int32)), (.int vl), (.ref bl), (.int (0 : Int32)), (.int vd), (.ref rg), (.ref rg)])) rfl (by rw [hml]; rfl) (Steps.refl _) (a := rg) (argsL := [(.int vd), (.int (0 : Int32)), (.ref bl), (.int vl), (.int (0 : Int32)), (.ref bh), (.int vh)]) (rest := [(.ref rg)]) (lenOf pd_0_2 rfl) rfl (by show 2 * 0 + _ ≤ _; exact Nat.le_of_eq rfl) (hb hby at_143) (fun _ _ => ⟨rfl, e15, (by decide : 5 + 0 ≤ _), (by decide : 11 + 0 ≤ _)⟩)
      dsimp only [Pt.U, Pt.locs, Pt.cells, Pt.slots] at X16 l16 y16 z16 st16 hQ16
      subst l16 y16 z16
      obtain ⟨rfl, N16q, K16q, o16_F_descending_rg, o16_F_fromStart_rg, o16_F_lo_rg, o16_F_loInclusive_rg, o16_F_toEnd_rg, o16_F_hi_rg, o16_F_hiInclusive_rg⟩ := hQ16
      have N16 := Fr.app N14 N16q
      replace old := Old.keep old K16q (allS g_rg all0)
      replace E_bl := E_bl.keep K16q
      replace F_value_bl := F_value_bl.keep K16q (ninS ne_bl_rg nin0)
      replace E_bh := E_bh.keep K16q
      replace F_value_bh := F_value_bh.keep K16q (ninS ne_bh_rg nin0)
      replace E_b1 := E_b1.keep K16q
      replace F_value_b1 := F_value_b1.keep K16q (ninS ne_b1_rg nin0)
      replace E_b2 := E_b2.keep K16q
      replace F_value_b2 := F_value_b2.keep K16q (ninS ne_b2_rg nin0)
      replace E_rg := E_rg.keep K16q
      have Z16 := Nat.le_trans Z15 K16q.1
      have F_descending_rg := o16_F_descending_rg
      have F_fromStart_rg := o16_F_fromStart_rg
      have F_lo_rg := o16_F_lo_rg
      have F_loInclusive_rg := o16_F_loInclusive_rg
      have F_toEnd_rg := o16_F_toEnd_rg
      have F_hi_rg := o16_F_hi_rg
      have F_hiInclusive_rg := o16_F_hiInclusive_rg
      refine Go.step (fun t k => st16.trans k) ?_
      show Go _ _ _ _ _ _ _ (T16.setTop (mkF m 146 #[.val (.int fl), .val (.long qa), .second, .val (.long qb), .second, .val (.int vd), .val (.int (0 : Int32)), .val (.int vl), .val (.int (0 : Int32)), .val (.int vh), .val (.ref bl), .val (.ref bh), .val (.ref b1), .val (.ref b2), .unset, .unset, .unset, .unset] [(.ref rg)]))
      refine Go.step (fun t k => XS.astore X16.here hx rfl (hb hby at_146) rfl rfl (l' := #[.val (.int fl), .val (.long qa), .second, .val (.long qb), .second, .val (.int vd), .val (.int (0 : Int32)), .val (.int vl), .val (.int (0 : Int32)), .val (.int vh), .val (.ref bl), .val (.ref bh), .val (.ref b1), .val (.ref b2), .val (.ref rg), .unset, .unset, .unset]) rfl k) ?_
      show Go _ _ _ _ _ _ _ (T16.setTop (mkF m 148 #[.val (.int fl), .val (.long qa), .second, .val (.long qb), .second, .val (.int vd), .val (.int (0 : Int32)), .val (.int vl), .val (.int (0 : Int32)), .val (.int vh), .val (.ref bl), .val (.ref bh), .val (.ref b1), .val (.ref b2), .val (.ref rg), .unset, .unset, .unset] []))
      refine Go.step (fun t k => XS.aload X16.here hx rfl (hb hby at_148) rfl rfl k) ?_
      show Go _ _ _ _ _ _ _ (T16.setTop (mkF m 150 #[.val (.int fl), .val (.long qa), .second, .val (.long qb), .second, .val (.int vd), .val (.int (0 : Int32)), .val (.int vl), .val (.int (0 : Int32)), .val (.int vh), .val (.ref bl), .val (.ref bh), .val (.ref b1), .val (.ref b2), .val (.ref rg), .unset, .unset, .unset] [(.ref rg)]))
      obtain ⟨cq17, kq17, q17a, q17b, q17c⟩ := isOf hZ rfl E_rg
      obtain ⟨_, _, ⟨T17, L17, k17, n17⟩, -, X17, ⟨Lc17, hQ17, l17, y17, z17⟩, st17⟩ := X16.virtualBack hx (y := (⟨"com/example/rootkeep/rootkeep/KeyRange", "isWhole", "()Z"⟩ : MethodName)) (z := (⟨"com/example/rootkeep/rootkeep/KeyRange", "isWhole", "()Z"⟩ : MethodName)) hown (mvT hZ (hw _ (List.mem_of_getElem? (i := 62) rfl))) (mvT hZ (hw _ (List.mem_of_getElem? (i := 63) rfl))) (notFace_of_selects (args := #[]) (mvT hZ (hw _ (List.mem_of_getElem? (i := 65) rfl)))) (mvT hZ (hw _ (List.mem_of_getElem? (i := 65) rfl))) (mvT hZ (hw _ (List.mem_of_getElem? (i := 64) rfl))) (by decide) (backOf (W := 0) (rm9 l Z a0 hw [] rg (0 : Int32) (0 : Int32) T16.heap n0 Z16 F_fromStart_rg F_toEnd_rg) hZ (hw _ (List.mem_of_getElem? (i := 66) rfl)) (hw _ (List.mem_of_getElem? (i := 38) rfl)) (by decide) (by decide)) q17a q17c (g := (mkF m 150 #[.val (.int fl), .val (.long qa), .second, .val (.long qb), .second, .val (.int vd), .val (.int (0 : Int32)), .val (.int vl), .val (.int (0 : Int32)), .val (.int vh), .val (.ref bl), .val (.ref bh), .val (.ref b1), .val (.ref b2), .val (.ref rg), .unset, .unset, .unset] [(.ref rg)])) rfl (by rw [hml]; rfl) (Steps.refl _) (argsL := []) (rest := []) (lenOf pd_0_3 rfl) rfl (by show 2 * 0 + _ ≤ _; exact Nat.le_of_eq rfl) (hb hby at_150) (fun _ _ => ⟨rfl, rfl, (by decide : 5 + 0 ≤ _), (by decide : 11 + 0 ≤ _)⟩)
      dsimp only [Pt.U, Pt.locs, Pt.cells, Pt.slots] at X17 l17 y17 z17 st17 hQ17
      subst l17 y17 z17
      obtain ⟨z_17, rfl, N17q, K17q, o17_hz⟩ := hQ17
      have N17 := Fr.app N16 N17q
      refine Go.step (fun t k => st17.trans k) ?_
      show Go _ _ _ _ _ _ _ (T17.setTop (mkF m 153 #[.val (.int fl), .val (.long qa), .second, .val (.long qb), .second, .val (.int vd), .val (.int (0 : Int32)), .val (.int vl), .val (.int (0 : Int32)), .val (.int vh), .val (.ref bl), .val (.ref bh), .val (.ref b1), .val (.ref b2), .val (.ref rg), .unset, .unset, .unset] [(.int z_17)]))
      refine Go.step (fun t k => XS.istore X17.here hx rfl (hb hby at_153) rfl (l' := #[.val (.int fl), .val (.long qa), .second, .val (.long qb), .second, .val (.int vd), .val (.int (0 : Int32)), .val (.int vl), .val (.int (0 : Int32)), .val (.int vh), .val (.ref bl), .val (.ref bh), .val (.ref b1), .val (.ref b2), .val (.ref rg), .val (.int z_17), .unset, .unset]) rfl k) ?_
      show Go _ _ _ _ _ _ _ (T17.setTop (mkF m 155 #[.val (.int fl), .val (.long qa), .second, .val (.long qb), .second, .val (.int vd), .val (.int (0 : Int32)), .val (.int vl), .val (.int (0 : Int32)), .val (.int vh), .val (.ref bl), .val (.ref bh), .val (.ref b1), .val (.ref b2), .val (.ref rg), .val (.int z_17), .unset, .unset] []))
      refine Go.step (fun t k => XS.aload X17.here hx rfl (hb hby at_155) rfl rfl k) ?_
      show Go _ _ _ _ _ _ _ (T17.setTop (mkF m 157 #[.val (.int fl), .val (.long qa), .second, .val (.long qb), .second, .val (.int vd), .val (.int (0 : Int32)), .val (.int vl), .val (.int (0 : Int32)), .val (.int vh), .val (.ref bl), .val (.ref bh), .val (.ref b1), .val (.ref b2), .val (.ref rg), .val (.int z_17), .unset, .unset] [(.ref rg)]))
      refine Go.step (fun t k => XS.aload X17.here hx rfl (hb hby at_157) rfl rfl k) ?_
      show Go _ _ _ _ _ _ _ (T17.setTop (mkF m 159 #[.val (.int fl), .val (.long qa), .second, .val (.long qb), .second, .val (.int vd), .val (.int (0 : Int32)), .val (.int vl), .val (.int (0 : Int32)), .val (.int vh), .val (.ref bl), .val (.ref bh), .val (.ref b1), .val (.ref b2), .val (.ref rg), .val (.int z_17), .unset, .unset] [(.ref b1), (.ref rg)]))
      obtain ⟨cq18, kq18, q18a, q18b, q18c⟩ := isOf hZ K17q E_rg
      obtain ⟨_, _, ⟨T18, L18, k18, n18⟩, -, X18, ⟨Lc18, hQ18, l18, y18, z18⟩, st18⟩ := X17.virtualBack hx (y := (⟨"com/example/rootkeep/rootkeep/KeyRange", "tooLow", "(Ljava/lang/Object;)Z"⟩ : MethodName)) (z := (⟨"com/example/rootkeep/rootkeep/KeyRange", "tooLow", "(Ljava/lang/Object;)Z"⟩ : MethodName)) hown (mvT hZ (hw _ (List.mem_of_getElem? (i := 67) rfl))) (mvT hZ (hw _ (List.mem_of_getElem? (i := 68) rfl))) (notFace_of_selects (args := #[]) (mvT hZ (hw _ (List.mem_of_getElem? (i := 70) rfl)))) (mvT hZ (hw _ (List.mem_of_getElem? (i := 70) rfl))) (mvT hZ (hw _ (List.mem_of_getElem? (i := 69) rfl))) (by decide) (backOf (W := 0) (rm10_c l Z a0 hw [] rg b1 bl (-9223372036854775808 : Int64) ml T16.heap n0 Z16 F_fromStart_rg F_lo_rg F_value_b1 F_value_bl E_b1 E_bl (own_lo rfl o9_hz)) hZ (hw _ (List.mem_of_getElem? (i := 71) rfl)) (hw _ (List.mem_of_getElem? (i := 38) rfl)) (by decide) (by decide)) q18a q18c (g := (mkF m 159 #[.val (.int fl), .val (.long qa), .second, .val (.long qb), .second, .val (.int vd), .val (.int (0 : Int32)), .val (.int vl), .val (.int (0 : Int32)), .val (.int vh), .val (.ref bl), .val (.ref bh), .val (.ref b1), .val (.ref b2), .val (.ref rg), .val (.int z_17), .unset, .unset] [(.ref b1), (.ref rg)])) rfl (by rw [hml]; rfl) (Steps.refl _) (argsL := [(.ref b1)]) (rest := []) (lenOf pd_0_4 rfl) rfl (by show 2 * 0 + _ ≤ _; exact Nat.le_of_eq rfl) (hb hby at_159) (fun _ _ => ⟨rfl, K17q, (by decide : 5 + 0 ≤ _), (by decide : 11 + 0 ≤ _)⟩)
      dsimp only [Pt.U, Pt.locs, Pt.cells, Pt.slots] at X18 l18 y18 z18 st18 hQ18
      subst l18 y18 z18
      obtain ⟨rfl, N18q, K18q⟩ := hQ18
      have N18 := Fr.app N17 N18q
      refine Go.step (fun t k => st18.trans k) ?_
      show Go _ _ _ _ _ _ _ (T18.setTop (mkF m 162 #[.val (.int fl), .val (.long qa), .second, .val (.long qb), .second, .val (.int vd), .val (.int (0 : Int32)), .val (.int vl), .val (.int (0 : Int32)), .val (.int vh), .val (.ref bl), .val (.ref bh), .val (.ref b1), .val (.ref b2), .val (.ref rg), .val (.int z_17), .unset, .unset] [(.int (1 : Int32))]))
      refine Go.step (fun t k => XS.ifYes X18.here hx rfl (pc0 := 162) (pc' := 179) rfl (hb hby at_162) rfl ((if0 _ _).trans (feq (by decide : ¬ (1 : Int32) = (0 : Int32))).2) (by decide) (by decide) k) ?_
      show Go _ _ _ _ _ _ _ (T18.setTop (mkF m 179 #[.val (.int fl), .val (.long qa), .second, .val (.long qb), .second, .val (.int vd), .val (.int (0 : Int32)), .val (.int vl), .val (.int (0 : Int32)), .val (.int vh), .val (.ref bl), .val (.ref bh), .val (.ref b1), .val (.ref b2), .val (.ref rg), .val (.int z_17), .unset, .unset] []))
      refine Go.step (fun t k => XS.iconst X18.here hx rfl (hb hby at_179) k) ?_
      show Go _ _ _ _ _ _ _ (T18.setTop (mkF m 180 #[.val (.int fl), .val (.long qa), .second, .val (.long qb), .second, .val (.int vd), .val (.int (0 : Int32)), .val (.int vl), .val (.int (0 : Int32)), .val (.int vh), .val (.ref bl), .val (.ref bh), .val (.ref b1), .val (.ref b2), .val (.ref rg), .val (.int z_17), .unset, .unset] [(.int (0 : Int32))]))
      refine Go.step (fun t k => XS.istore X18.here hx rfl (hb hby at_180) rfl (l' := #[.val (.int fl), .val (.long qa), .second, .val (.long qb), .second, .val (.int vd), .val (.int (0 : Int32)), .val (.int vl), .val (.int (0 : Int32)), .val (.int vh), .val (.ref bl), .val (.ref bh), .val (.ref b1), .val (.ref b2), .val (.ref rg), .val (.int z_17), .val (.int (0 : Int32)), .unset]) rfl k) ?_
      show Go _ _ _ _ _ _ _ (T18.setTop (mkF m 182 #[.val (.int fl), .val (.long qa), .second, .val (.long qb), .second, .val (.int vd), .val (.int (0 : Int32)), .val (.int vl), .val (.int (0 : Int32)), .val (.int vh), .val (.ref bl), .val (.ref bh), .val (.ref b1), .val (.ref b2), .val (.ref rg), .val (.int z_17), .val (.int (0 : Int32)), .unset] []))
      refine Go.step (fun t k => XS.aload X18.here hx rfl (hb hby at_182) rfl rfl k) ?_
      show Go _ _ _ _ _ _ _ (T18.setTop (mkF m 184 #[.val (.int fl), .val (.long qa), .second, .val (.long qb), .second, .val (.int vd), .val (.int (0 : Int32)), .val (.int vl), .val (.int (0 : Int32)), .val (.int vh), .val (.ref bl), .val (.ref bh), .val (.ref b1), .val (.ref b2), .val (.ref rg), .val (.int z_17), .val (.int (0 : Int32)), .unset] [(.ref rg)]))
      obtain ⟨cq19, kq19, q19a, q19b, q19c⟩ := isOf hZ K18q E_rg
      obtain ⟨_, _, ⟨T19, L19, k19, n19⟩, -, X19, ⟨Lc19, hQ19, l19, y19, z19⟩, st19⟩ := X18.virtualBack hx (y := (⟨"com/example/rootkeep/rootkeep/KeyRange", "reversed", "()Lcom/example/rootkeep/rootkeep/KeyRange;"⟩ : MethodName)) (z := (⟨"com/example/rootkeep/rootkeep/KeyRange", "reversed", "()Lcom/example/rootkeep/rootkeep/KeyRange;"⟩ : MethodName)) hown (mvT hZ (hw _ (List.mem_of_getElem? (i := 94) rfl))) (mvT hZ (hw _ (List.mem_of_getElem? (i := 95) rfl))) (notFace_of_selects (args := #[]) (mvT hZ (hw _ (List.mem_of_getElem? (i := 97) rfl)))) (mvT hZ (hw _ (List.mem_of_getElem? (i := 97) rfl))) (mvT hZ (hw _ (List.mem_of_getElem? (i := 96) rfl))) (by decide) (backOf (W := 0) (rm15_00 l Z a0 hw [] rg vd (0 : Int32) bl vl (0 : Int32) bh vh T16.heap n0 Z16 F_descending_rg F_fromStart_rg F_lo_rg F_loInclusive_rg F_toEnd_rg F_hi_rg F_hiInclusive_rg E_rg (own_01 hvd) (Or.inl rfl) (own_01 hvl) (Or.inl rfl) (own_01 hvh)) hZ (hw _ (List.mem_of_getElem? (i := 98) rfl)) (hw _ (List.mem_of_getElem? (i := 38) rfl)) (by decide) (by decide)) q19a q19c (g := (mkF m 184 #[.val (.int fl), .val (.long qa), .second, .val (.long qb), .second, .val (.int vd), .val (.int (0 : Int32)), .val (.int vl), .val (.int (0 : Int32)), .val (.int vh), .val (.ref bl), .val (.ref bh), .val (.ref b1), .val (.ref b2), .val (.ref rg), .val (.int z_17), .val (.int (0 : Int32)), .unset] [(.ref rg)])) rfl (by rw [hml]; rfl) (Steps.refl _) (argsL := []) (rest := []) (lenOf pd_0_5 rfl) rfl (by show 2 * 0 + _ ≤ _; exact Nat.le_of_eq rfl) (hb hby at_184) (fun _ _ => ⟨rfl, K18q, (by decide : 5 + 1 ≤ _), (by decide : 11 + 7 ≤ _)⟩)
      dsimp only [Pt.U, Pt.locs, Pt.cells, Pt.slots] at X19 l19 y19 z19 st19 hQ19
      subst l19 y19 z19
      obtain ⟨br, rfl, N19q, K19q, o19_E_br, o19_F_fromStart_br, o19_F_toEnd_br⟩ := hQ19
      have N19 := Fr.app N18 N19q
      replace old := Old.keep old K19q all0
      replace E_bl := E_bl.keep K19q
      replace F_value_bl := F_value_bl.keep K19q nin0
      replace E_bh := E_bh.keep K19q
      replace F_value_bh := F_value_bh.keep K19q nin0
      replace E_b1 := E_b1.keep K19q
      replace F_value_b1 := F_value_b1.keep K19q nin0
      replace E_b2 := E_b2.keep K19q
      replace F_value_b2 := F_value_b2.keep K19q nin0
      replace E_rg := E_rg.keep K19q
      replace F_descending_rg := F_descending_rg.keep K19q nin0
      replace F_fromStart_rg := F_fromStart_rg.keep K19q nin0
      replace F_lo_rg := F_lo_rg.keep K19q nin0
      replace F_loInclusive_rg := F_loInclusive_rg.keep K19q nin0
      replace F_toEnd_rg := F_toEnd_rg.keep K19q nin0
      replace F_hi_rg := F_hi_rg.keep K19q nin0
      replace F_hiInclusive_rg := F_hiInclusive_rg.keep K19q nin0
      have Z19 := Nat.le_trans Z16 K19q.1
      have E_br := o19_E_br
      have F_fromStart_br := o19_F_fromStart_br
      have F_toEnd_br := o19_F_toEnd_br
      refine Go.step (fun t k => st19.trans k) ?_
      show Go _ _ _ _ _ _ _ (T19.setTop (mkF m 187 #[.val (.int fl), .val (.long qa), .second, .val (.long qb), .second, .val (.int vd), .val (.int (0 : Int32)), .val (.int vl), .val (.int (0 : Int32)), .val (.int vh), .val (.ref bl), .val (.ref bh), .val (.ref b1), .val (.ref b2), .val (.ref rg), .val (.int z_17), .val (.int (0 : Int32)), .unset] [(.ref br)]))
      obtain ⟨cq20, kq20, q20a, q20b, q20c⟩ := isOf hZ rfl E_br
      obtain ⟨_, _, ⟨T20, L20, k20, n20⟩, -, X20, ⟨Lc20, hQ20, l20, y20, z20⟩, st20⟩ := X19.virtualBack hx (y := (⟨"com/example/rootkeep/rootkeep/KeyRange", "isWhole", "()Z"⟩ : MethodName)) (z := (⟨"com/example/rootkeep/rootkeep/KeyRange", "isWhole", "()Z"⟩ : MethodName)) hown (mvT hZ (hw _ (List.mem_of_getElem? (i := 62) rfl))) (mvT hZ (hw _ (List.mem_of_getElem? (i := 63) rfl))) (notFace_of_selects (args := #[]) (mvT hZ (hw _ (List.mem_of_getElem? (i := 65) rfl)))) (mvT hZ (hw _ (List.mem_of_getElem? (i := 65) rfl))) (mvT hZ (hw _ (List.mem_of_getElem? (i := 64) rfl))) (by decide) (backOf (W := 0) (rm9 l Z a0 hw [] br (0 : Int32) (0 : Int32) T19.heap n0 Z19 F_fromStart_br F_toEnd_br) hZ (hw _ (List.mem_of_getElem? (i := 66) rfl)) (hw _ (List.mem_of_getElem? (i := 38) rfl)) (by decide) (by decide)) q20a q20c (g := (mkF m 187 #[.val (.int fl), .val (.long qa), .second, .val (.long qb), .second, .val (.int vd), .val (.int (0 : Int32)), .val (.int vl), .val (.int (0 : Int32)), .val (.int vh), .val (.ref bl), .val (.ref bh), .val (.ref b1), .val (.ref b2), .val (.ref rg), .val (.int z_17), .val (.int (0 : Int32)), .unset] [(.ref br)])) rfl (by rw [hml]; rfl) (Steps.refl _) (argsL := []) (rest := []) (lenOf pd_0_3 rfl) rfl (by show 2 * 0 + _ ≤ _; exact Nat.le_of_eq rfl) (hb hby at_187) (fun _ _ => ⟨rfl, rfl, (by decide : 6 + 0 ≤ _), (by decide : 18 + 0 ≤ _)⟩)
      dsimp only [Pt.U, Pt.locs, Pt.cells, Pt.slots] at X20 l20 y20 z20 st20 hQ20
      subst l20 y20 z20
      obtain ⟨z_20, rfl, N20q, K20q, o20_hz⟩ := hQ20
      have N20 := Fr.app N19 N20q
      refine Go.step (fun t k => st20.trans k) ?_
      show Go _ _ _ _ _ _ _ (T20.setTop (mkF m 190 #[.val (.int fl), .val (.long qa), .second, .val (.long qb), .second, .val (.int vd), .val (.int (0 : Int32)), .val (.int vl), .val (.int (0 : Int32)), .val (.int vh), .val (.ref bl), .val (.ref bh), .val (.ref b1), .val (.ref b2), .val (.ref rg), .val (.int z_17), .val (.int (0 : Int32)), .unset] [(.int z_20)]))
      refine Go.step (fun t k => XS.istore X20.here hx rfl (hb hby at_190) rfl (l' := #[.val (.int fl), .val (.long qa), .second, .val (.long qb), .second, .val (.int vd), .val (.int (0 : Int32)), .val (.int vl), .val (.int (0 : Int32)), .val (.int vh), .val (.ref bl), .val (.ref bh), .val (.ref b1), .val (.ref b2), .val (.ref rg), .val (.int z_17), .val (.int (0 : Int32)), .val (.int z_20)]) rfl k) ?_
      show Go _ _ _ _ _ _ _ (T20.setTop (mkF m 192 #[.val (.int fl), .val (.long qa), .second, .val (.long qb), .second, .val (.int vd), .val (.int (0 : Int32)), .val (.int vl), .val (.int (0 : Int32)), .val (.int vh), .val (.ref bl), .val (.ref bh), .val (.ref b1), .val (.ref b2), .val (.ref rg), .val (.int z_17), .val (.int (0 : Int32)), .val (.int z_20)] []))
      refine Go.step (fun t k => XS.iload X20.here hx rfl (hb hby at_192) rfl k) ?_
      show Go _ _ _ _ _ _ _ (T20.setTop (mkF m 194 #[.val (.int fl), .val (.long qa), .second, .val (.long qb), .second, .val (.int vd), .val (.int (0 : Int32)), .val (.int vl), .val (.int (0 : Int32)), .val (.int vh), .val (.ref bl), .val (.ref bh), .val (.ref b1), .val (.ref b2), .val (.ref rg), .val (.int z_17), .val (.int (0 : Int32)), .val (.int z_20)] [(.int z_17)]))
      refine Go.step (fun t k => XS.iload X20.here hx rfl (hb hby at_194) rfl k) ?_
      show Go _ _ _ _ _ _ _ (T20.setTop (mkF m 196 #[.val (.int fl), .val (.long qa), .second, .val (.long qb), .second, .val (.int vd), .val (.int (0 : Int32)), .val (.int vl), .val (.int (0 : Int32)), .val (.int vh), .val (.ref bl), .val (.ref bh), .val (.ref b1), .val (.ref b2), .val (.ref rg), .val (.int z_17), .val (.int (0 : Int32)), .val (.int z_20)] [(.int (0 : Int32)), (.int z_17)]))
      refine Go.step (fun t k => XS.icmpNo X20.here hx rfl (hb hby at_196) rfl (teq (o17_hz.trans (by decide) : z_17 = (0 : Int32))).2 k) ?_
      show Go _ _ _ _ _ _ _ (T20.setTop (mkF m 199 #[.val (.int fl), .val (.long qa), .second, .val (.long qb), .second, .val (.int vd), .val (.int (0 : Int32)), .val (.int vl), .val (.int (0 : Int32)), .val (.int vh), .val (.ref bl), .val (.ref bh), .val (.ref b1), .val (.ref b2), .val (.ref rg), .val (.int z_17), .val (.int (0 : Int32)), .val (.int z_20)] []))
      refine Go.step (fun t k => XS.iload X20.here hx rfl (hb hby at_199) rfl k) ?_
      show Go _ _ _ _ _ _ _ (T20.setTop (mkF m 201 #[.val (.int fl), .val (.long qa), .second, .val (.long qb), .second, .val (.int vd), .val (.int (0 : Int32)), .val (.int vl), .val (.int (0 : Int32)), .val (.int vh), .val (.ref bl), .val (.ref bh), .val (.ref b1), .val (.ref b2), .val (.ref rg), .val (.int z_17), .val (.int (0 : Int32)), .val (.int z_20)] [(.int z_20)]))
      refine Go.step (fun t k => XS.iload X20.here hx rfl (hb hby at_201) rfl k) ?_
      show Go _ _ _ _ _ _ _ (T20.setTop (mkF m 203 #[.val (.int fl), .val (.long qa), .second, .val (.long qb), .second, .val (.int vd), .val (.int (0 : Int32)), .val (.int vl), .val (.int (0 : Int32)), .val (.int vh), .val (.ref bl), .val (.ref bh), .val (.ref b1), .val (.ref b2), .val (.ref rg), .val (.int z_17), .val (.int (0 : Int32)), .val (.int z_20)] [(.int z_17), (.int z_20)]))
      refine Go.step (fun t k => XS.icmpNo X20.here hx rfl (hb hby at_203) rfl (teq (o20_hz.trans o17_hz.symm : z_20 = z_17)).2 k) ?_
      show Go _ _ _ _ _ _ _ (T20.setTop (mkF m 206 #[.val (.int fl), .val (.long qa), .second, .val (.long qb), .second, .val (.int vd), .val (.int (0 : Int32)), .val (.int vl), .val (.int (0 : Int32)), .val (.int vh), .val (.ref bl), .val (.ref bh), .val (.ref b1), .val (.ref b2), .val (.ref rg), .val (.int z_17), .val (.int (0 : Int32)), .val (.int z_20)] []))
      refine Go.step (fun t k => XS.iconst X20.here hx rfl (hb hby at_206) k) ?_
      show Go _ _ _ _ _ _ _ (T20.setTop (mkF m 207 #[.val (.int fl), .val (.long qa), .second, .val (.long qb), .second, .val (.int vd), .val (.int (0 : Int32)), .val (.int vl), .val (.int (0 : Int32)), .val (.int vh), .val (.ref bl), .val (.ref bh), .val (.ref b1), .val (.ref b2), .val (.ref rg), .val (.int z_17), .val (.int (0 : Int32)), .val (.int z_20)] [(.int (1 : Int32))]))
      refine Go.step (fun t k => XS.goto X20.here hx rfl (pc0 := 207) (pc' := 211) rfl (hb hby at_207) (by decide) (by decide) k) ?_
      show Go _ _ _ _ _ _ _ (T20.setTop (mkF m 211 #[.val (.int fl), .val (.long qa), .second, .val (.long qb), .second, .val (.int vd), .val (.int (0 : Int32)), .val (.int vl), .val (.int (0 : Int32)), .val (.int vh), .val (.ref bl), .val (.ref bh), .val (.ref b1), .val (.ref b2), .val (.ref rg), .val (.int z_17), .val (.int (0 : Int32)), .val (.int z_20)] [(.int (1 : Int32))]))
      refine Go.retN X20 Bd.notSynchronized hx (t := .boolean) Bd.returns (by simp) (hb hby at_211) (by decide) (by decide) (1 : Int32) rfl ?_
      rw [K20q]
      exact ⟨rfl, N20⟩
    · refine Go.step (fun t k => XS.ifNo X0.here hx rfl (hb hby at_43) rfl ((if0 _ _).trans (feq hc43_6).1) k) ?_
      show Go _ _ _ _ _ _ _ (s₁.setTop (mkF m 46 #[.val (.int fl), .val (.long qa), .second, .val (.long qb), .second, .val (.int vd), .val (.int (0 : Int32)), .val (.int vl), .unset, .unset, .unset, .unset, .unset, .unset, .unset, .unset, .unset, .unset] []))
      refine Go.step (fun t k => XS.iconst X0.here hx rfl (hb hby at_46) k) ?_
      show Go _ _ _ _ _ _ _ (s₁.setTop (mkF m 47 #[.val (.int fl), .val (.long qa), .second, .val (.long qb), .second, .val (.int vd), .val (.int (0 : Int32)), .val (.int vl), .unset, .unset, .unset, .unset, .unset, .unset, .unset, .unset, .unset, .unset] [(.int (1 : Int32))]))
      refine Go.step (fun t k => XS.goto X0.here hx rfl (pc0 := 47) (pc' := 51) rfl (hb hby at_47) (by decide) (by decide) k) ?_
      show Go _ _ _ _ _ _ _ (s₁.setTop (mkF m 51 #[.val (.int fl), .val (.long qa), .second, .val (.long qb), .second, .val (.int vd), .val (.int (0 : Int32)), .val (.int vl), .unset, .unset, .unset, .unset, .unset, .unset, .unset, .unset, .unset, .unset] [(.int (1 : Int32))]))
      refine Go.step (fun t k => XS.istore X0.here hx rfl (hb hby at_51) rfl (l' := #[.val (.int fl), .val (.long qa), .second, .val (.long qb), .second, .val (.int vd), .val (.int (0 : Int32)), .val (.int vl), .val (.int (1 : Int32)), .unset, .unset, .unset, .unset, .unset, .unset, .unset, .unset, .unset]) rfl k) ?_
      show Go _ _ _ _ _ _ _ (s₁.setTop (mkF m 53 #[.val (.int fl), .val (.long qa), .second, .val (.long qb), .second, .val (.int vd), .val (.int (0 : Int32)), .val (.int vl), .val (.int (1 : Int32)), .unset, .unset, .unset, .unset, .unset, .unset, .unset, .unset, .unset] []))
      refine Go.step (fun t k => XS.iloadN X0.here hx rfl (hb hby at_53) rfl k) ?_
      show Go _ _ _ _ _ _ _ (s₁.setTop (mkF m 54 #[.val (.int fl), .val (.long qa), .second, .val (.long qb), .second, .val (.int vd), .val (.int (0 : Int32)), .val (.int vl), .val (.int (1 : Int32)), .unset, .unset, .unset, .unset, .unset, .unset, .unset, .unset, .unset] [(.int fl)]))
      refine Go.step (fun t k => XS.bipush X0.here hx rfl (hb hby at_54) k) ?_
      show Go _ _ _ _ _ _ _ (s₁.setTop (mkF m 56 #[.val (.int fl), .val (.long qa), .second, .val (.long qb), .second, .val (.int vd), .val (.int (0 : Int32)), .val (.int vl), .val (.int (1 : Int32)), .unset, .unset, .unset, .unset, .unset, .unset, .unset, .unset, .unset] [(.int (16 : Int32)), (.int fl)]))
      refine Go.step (fun t k => XS.iand X0.here hx rfl (hb hby at_56) rfl k) ?_
      show Go _ _ _ _ _ _ _ (s₁.setTop (mkF m 57 #[.val (.int fl), .val (.long qa), .second, .val (.long qb), .second, .val (.int vd), .val (.int (0 : Int32)), .val (.int vl), .val (.int (1 : Int32)), .unset, .unset, .unset, .unset, .unset, .unset, .unset, .unset, .unset] [(.int (fl &&& (16 : Int32)))]))
      -- joined again at pc 65
      obtain ⟨vh, hvh⟩ : ∃ z : Int32, z = (if (fl &&& (16 : Int32)) = (0 : Int32) then (0 : Int32) else (1 : Int32)) := ⟨_, rfl⟩
      have st21 : ∀ t, Steps p.tables e below (s₁.setTop (mkF m 65 #[.val (.int fl), .val (.long qa), .second, .val (.long qb), .second, .val (.int vd), .val (.int (0 : Int32)), .val (.int vl), .val (.int (1 : Int32)), .unset, .unset, .unset, .unset, .unset, .unset, .unset, .unset, .unset] [(.int vh)])) t → Steps p.tables e below (s₁.setTop (mkF m 57 #[.val (.int fl), .val (.long qa), .second, .val (.long qb), .second, .val (.int vd), .val (.int (0 : Int32)), .val (.int vl), .val (.int (1 : Int32)), .unset, .unset, .unset, .unset, .unset, .unset, .unset, .unset, .unset] [(.int (fl &&& (16 : Int32)))])) t := by
        intro t kt
        by_cases hd57_22 : (fl &&& (16 : Int32)) = (0 : Int32)
        · refine XS.ifYes X0.here hx rfl (pc0 := 57) (pc' := 64) rfl (hb hby at_57) rfl ((if0 _ _).trans (teq hd57_22).1) (by decide) (by decide) ?_
          show Steps p.tables e below (s₁.setTop (mkF m 64 #[.val (.int fl), .val (.long qa), .second, .val (.long qb), .second, .val (.int vd), .val (.int (0 : Int32)), .val (.int vl), .val (.int (1 : Int32)), .unset, .unset, .unset, .unset, .unset, .unset, .unset, .unset, .unset] [])) _
          refine XS.iconst X0.here hx rfl (hb hby at_64) ?_
          show Steps p.tables e below (s₁.setTop (mkF m 65 #[.val (.int fl), .val (.long qa), .second, .val (.long qb), .second, .val (.int vd), .val (.int (0 : Int32)), .val (.int vl), .val (.int (1 : Int32)), .unset, .unset, .unset, .unset, .unset, .unset, .unset, .unset, .unset] [(.int (0 : Int32))])) _
          have qvh : vh = (0 : Int32) := by rw [hvh]; simp only [if_pos hd57_22]
          rw [qvh] at kt
          exact kt
        · refine XS.ifNo X0.here hx rfl (hb hby at_57) rfl ((if0 _ _).trans (feq hd57_22).1) ?_
          show Steps p.tables e below (s₁.setTop (mkF m 60 #[.val (.int fl), .val (.long qa), .second, .val (.long qb), .second, .val (.int vd), .val (.int (0 : Int32)), .val (.int vl), .val (.int (1 : Int32)), .unset, .unset, .unset, .unset, .unset, .unset, .unset, .unset, .unset] [])) _
          refine XS.iconst X0.here hx rfl (hb hby at_60) ?_
          show Steps p.tables e below (s₁.setTop (mkF m 61 #[.val (.int fl), .val (.long qa), .second, .val (.long qb), .second, .val (.int vd), .val (.int (0 : Int32)), .val (.int vl), .val (.int (1 : Int32)), .unset, .unset, .unset, .unset, .unset, .unset, .unset, .unset, .unset] [(.int (1 : Int32))])) _
          refine XS.goto X0.here hx rfl (pc0 := 61) (pc' := 65) rfl (hb hby at_61) (by decide) (by decide) ?_
          show Steps p.tables e below (s₁.setTop (mkF m 65 #[.val (.int fl), .val (.long qa), .second, .val (.long qb), .second, .val (.int vd), .val (.int (0 : Int32)), .val (.int vl), .val (.int (1 : Int32)), .unset, .unset, .unset, .unset, .unset, .unset, .unset, .unset, .unset] [(.int (1 : Int32))])) _
          have qvh : vh = (1 : Int32) := by rw [hvh]; simp only [if_neg hd57_22]
          rw [qvh] at kt
          exact kt
      refine Go.step st21 ?_
      show Go _ _ _ _ _ _ _ (s₁.setTop (mkF m 65 #[.val (.int fl), .val (.long qa), .second, .val (.long qb), .second, .val (.int vd), .val (.int (0 : Int32)), .val (.int vl), .val (.int (1 : Int32)), .unset, .unset, .unset, .unset, .unset, .unset, .unset, .unset, .unset] [(.int vh)]))
      refine Go.step (fun t k => XS.istore X0.here hx rfl (hb hby at_65) rfl (l' := #[.val (.int fl), .val (.long qa), .second, .val (.long qb), .second, .val (.int vd), .val (.int (0 : Int32)), .val (.int vl), .val (.int (1 : Int32)), .val (.int vh), .unset, .unset, .unset, .unset, .unset, .unset, .unset, .unset]) rfl k) ?_
      show Go _ _ _ _ _ _ _ (s₁.setTop (mkF m 67 #[.val (.int fl), .val (.long qa), .second, .val (.long qb), .second, .val (.int vd), .val (.int (0 : Int32)), .val (.int vl), .val (.int (1 : Int32)), .val (.int vh), .unset, .unset, .unset, .unset, .unset, .unset, .unset, .unset] []))
      refine Go.step (fun t k => XS.iload X0.here hx rfl (hb hby at_67) rfl k) ?_
      show Go _ _ _ _ _ _ _ (s₁.setTop (mkF m 69 #[.val (.int fl), .val (.long qa), .second, .val (.long qb), .second, .val (.int vd), .val (.int (0 : Int32)), .val (.int vl), .val (.int (1 : Int32)), .val (.int vh), .unset, .unset, .unset, .unset, .unset, .unset, .unset, .unset] [(.int (0 : Int32))]))
      refine Go.step (fun t k => XS.ifYes X0.here hx rfl (pc0 := 69) (pc' := 76) rfl (hb hby at_69) rfl ((if0 _ _).trans (teq (by decide : (0 : Int32) = (0 : Int32))).1) (by decide) (by decide) k) ?_
      show Go _ _ _ _ _ _ _ (s₁.setTop (mkF m 76 #[.val (.int fl), .val (.long qa), .second, .val (.long qb), .second, .val (.int vd), .val (.int (0 : Int32)), .val (.int vl), .val (.int (1 : Int32)), .val (.int vh), .unset, .unset, .unset, .unset, .unset, .unset, .unset, .unset] []))
      refine Go.step (fun t k => XS.lloadN X0.here hx rfl (hb hby at_76) rfl k) ?_
      show Go _ _ _ _ _ _ _ (s₁.setTop (mkF m 77 #[.val (.int fl), .val (.long qa), .second, .val (.long qb), .second, .val (.int vd), .val (.int (0 : Int32)), .val (.int vl), .val (.int (1 : Int32)), .val (.int vh), .unset, .unset, .unset, .unset, .unset, .unset, .unset, .unset] [(.long qa)]))
      refine Go.step (fun t k => X0.ldc2Long hx hown (mvT hZ (hw _ (List.mem_of_getElem? (i := 0) rfl))) (g := (mkF m 77 #[.val (.int fl), .val (.long qa), .second, .val (.long qb), .second, .val (.int vd), .val (.int (0 : Int32)), .val (.int vl), .val (.int (1 : Int32)), .val (.int vh), .unset, .unset, .unset, .unset, .unset, .unset, .unset, .unset] [(.long qa)])) rfl (hb hby at_77) _ k) ?_
      show Go _ _ _ _ _ _ _ (s₁.setTop (mkF m 80 #[.val (.int fl), .val (.long qa), .second, .val (.long qb), .second, .val (.int vd), .val (.int (0 : Int32)), .val (.int vl), .val (.int (1 : Int32)), .val (.int vh), .unset, .unset, .unset, .unset, .unset, .unset, .unset, .unset] [(.long (-9223372036854775807 : Int64)), (.long qa)]))
      obtain ⟨_, _, ⟨T23, L23, k23, n23⟩, -, X23, ⟨Lc23, hQ23, l23, y23, z23⟩, st23⟩ := Jvm.LawKit.callS X0 hx (y := (⟨"java/lang/Math", "max", "(JJ)J"⟩ : MethodName)) hown (mvT hZ (hw _ (List.mem_of_getElem? (i := 1) rfl))) (mvT hZ (hw _ (List.mem_of_getElem? (i := 2) rfl))) (mvT hZ (hw _ (List.mem_of_getElem? (i := 3) rfl))) (mvT hZ (hw _ (List.mem_of_getElem? (i := 4) rfl))) (by decide) (backOf (W := 0) (rm1 l Z a0 hw [] qa (-9223372036854775807 : Int64) h0 n0 Z0) hZ (hw _ (List.mem_of_getElem? (i := 4) rfl)) (hw _ (List.mem_of_getElem? (i := 3) rfl)) (by decide) (by decide)) (g := (mkF m 80 #[.val (.int fl), .val (.long qa), .second, .val (.long qb), .second, .val (.int vd), .val (.int (0 : Int32)), .val (.int vl), .val (.int (1 : Int32)), .val (.int vh), .unset, .unset, .unset, .unset, .unset, .unset, .unset, .unset] [(.long (-9223372036854775807 : Int64)), (.long qa)])) rfl (by rw [hml]; rfl) (argsL := [(.long qa), (.long (-9223372036854775807 : Int64))]) (rest := []) (lenOf pd_0_0 rfl) rfl (by show 2 * 0 + _ ≤ _; exact Nat.le_of_eq rfl) (hb hby at_80) (fun _ _ => ⟨rfl, e0, (by decide : 0 + 0 ≤ _), (by decide : 0 + 0 ≤ _)⟩)
      dsimp only [Pt.U, Pt.locs, Pt.cells, Pt.slots] at X23 l23 y23 z23 st23 hQ23
      subst l23 y23 z23
      obtain ⟨ml, rfl, N23q, K23q, o23_hz⟩ := hQ23
      have N23 := Fr.app N0 N23q
      refine Go.step st23 ?_
      show Go _ _ _ _ _ _ _ (T23.setTop (mkF m 83 #[.val (.int fl), .val (.long qa), .second, .val (.long qb), .second, .val (.int vd), .val (.int (0 : Int32)), .val (.int vl), .val (.int (1 : Int32)), .val (.int vh), .unset, .unset, .unset, .unset, .unset, .unset, .unset, .unset] [(.long ml)]))
      obtain ⟨_, _, ⟨T24, L24, k24, n24⟩, -, X24, ⟨Lc24, hQ24, l24, y24, z24⟩, st24⟩ := Jvm.LawKit.callS X23 hx (y := (⟨"java/lang/Long", "valueOf", "(J)Ljava/lang/Long;"⟩ : MethodName)) hown (mvT hZ (hw _ (List.mem_of_getElem? (i := 5) rfl))) (mvT hZ (hw _ (List.mem_of_getElem? (i := 6) rfl))) (mvT hZ (hw _ (List.mem_of_getElem? (i := 7) rfl))) (mvT hZ (hw _ (List.mem_of_getElem? (i := 8) rfl))) (by decide) (backOf (W := 0) (rm2 l Z a0 hw [] ml ca h0 n0 Z0 old hsta hca) hZ (hw _ (List.mem_of_getElem? (i := 8) rfl)) (hw _ (List.mem_of_getElem? (i := 7) rfl)) (by decide) (by decide)) (g := (mkF m 83 #[.val (.int fl), .val (.long qa), .second, .val (.long qb), .second, .val (.int vd), .val (.int (0 : Int32)), .val (.int vl), .val (.int (1 : Int32)), .val (.int vh), .unset, .unset, .unset, .unset, .unset, .unset, .unset, .unset] [(.long ml)])) rfl (by rw [hml]; rfl) (argsL := [(.long ml)]) (rest := []) (lenOf pd_0_1 rfl) rfl (by show 2 * 0 + _ ≤ _; exact Nat.le_of_eq rfl) (hb hby at_83) (fun _ _ => ⟨rfl, K23q, (by decide : 0 + 1 ≤ _), (by decide : 0 + 1 ≤ _)⟩)
      dsimp only [Pt.U, Pt.locs, Pt.cells, Pt.slots] at X24 l24 y24 z24 st24 hQ24
      subst l24 y24 z24
      obtain ⟨bl, rfl, N24q, K24q, o24_E_bl, o24_F_value_bl⟩ := hQ24
      have N24 := Fr.app N23 N24q
      replace old := Old.keep old K24q all0
      have Z24 := Nat.le_trans Z0 K24q.1
      have E_bl := o24_E_bl
      have F_value_bl := o24_F_value_bl
      refine Go.step st24 ?_
      show Go _ _ _ _ _ _ _ (T24.setTop (mkF m 86 #[.val (.int fl), .val (.long qa), .second, .val (.long qb), .second, .val (.int vd), .val (.int (0 : Int32)), .val (.int vl), .val (.int (1 : Int32)), .val (.int vh), .unset, .unset, .unset, .unset, .unset, .unset, .unset, .unset] [(.ref bl)]))
      refine Go.step (fun t k => XS.astore X24.here hx rfl (hb hby at_86) rfl rfl (l' := #[.val (.int fl), .val (.long qa), .second, .val (.long qb), .second, .val (.int vd), .val (.int (0 : Int32)), .val (.int vl), .val (.int (1 : Int32)), .val (.int vh), .val (.ref bl), .unset, .unset, .unset, .unset, .unset, .unset, .unset]) rfl k) ?_
      show Go _ _ _ _ _ _ _ (T24.setTop (mkF m 88 #[.val (.int fl), .val (.long qa), .second, .val (.long qb), .second, .val (.int vd), .val (.int (0 : Int32)), .val (.int vl), .val (.int (1 : Int32)), .val (.int vh), .val (.ref bl), .unset, .unset, .unset, .unset, .unset, .unset, .unset] []))
      refine Go.step (fun t k => XS.iload X24.here hx rfl (hb hby at_88) rfl k) ?_
      show Go _ _ _ _ _ _ _ (T24.setTop (mkF m 90 #[.val (.int fl), .val (.long qa), .second, .val (.long qb), .second, .val (.int vd), .val (.int (0 : Int32)), .val (.int vl), .val (.int (1 : Int32)), .val (.int vh), .val (.ref bl), .unset, .unset, .unset, .unset, .unset, .unset, .unset] [(.int (1 : Int32))]))
      refine Go.step (fun t k => XS.ifNo X24.here hx rfl (hb hby at_90) rfl ((if0 _ _).trans (feq (by decide : ¬ (1 : Int32) = (0 : Int32))).1) k) ?_
      show Go _ _ _ _ _ _ _ (T24.setTop (mkF m 93 #[.val (.int fl), .val (.long qa), .second, .val (.long qb), .second, .val (.int vd), .val (.int (0 : Int32)), .val (.int vl), .val (.int (1 : Int32)), .val (.int vh), .val (.ref bl), .unset, .unset, .unset, .unset, .unset, .unset, .unset] []))
      refine Go.step (fun t k => XS.aconstNull X24.here hx rfl (hb hby at_93) k) ?_
      show Go _ _ _ _ _ _ _ (T24.setTop (mkF m 94 #[.val (.int fl), .val (.long qa), .second, .val (.long qb), .second, .val (.int vd), .val (.int (0 : Int32)), .val (.int vl), .val (.int (1 : Int32)), .val (.int vh), .val (.ref bl), .unset, .unset, .unset, .unset, .unset, .unset, .unset] [.null]))
      refine Go.step (fun t k => XS.goto X24.here hx rfl (pc0 := 94) (pc' := 107) rfl (hb hby at_94) (by decide) (by decide) k) ?_
      show Go _ _ _ _ _ _ _ (T24.setTop (mkF m 107 #[.val (.int fl), .val (.long qa), .second, .val (.long qb), .second, .val (.int vd), .val (.int (0 : Int32)), .val (.int vl), .val (.int (1 : Int32)), .val (.int vh), .val (.ref bl), .unset, .unset, .unset, .unset, .unset, .unset, .unset] [.null]))
      refine Go.step (fun t k => XS.astore X24.here hx rfl (hb hby at_107) rfl rfl (l' := #[.val (.int fl), .val (.long qa), .second, .val (.long qb), .second, .val (.int vd), .val (.int (0 : Int32)), .val (.int vl), .val (.int (1 : Int32)), .val (.int vh), .val (.ref bl), .val .null, .unset, .unset, .unset, .unset, .unset, .unset]) rfl k) ?_
      show Go _ _ _ _ _ _ _ (T24.setTop (mkF m 109 #[.val (.int fl), .val (.long qa), .second, .val (.long qb), .second, .val (.int vd), .val (.int (0 : Int32)), .val (.int vl), .val (.int (1 : Int32)), .val (.int vh), .val (.ref bl), .val .null, .unset, .unset, .unset, .unset, .unset, .unset] []))
      refine Go.step (fun t k => X24.ldc2Long hx hown (mvT hZ (hw _ (List.mem_of_getElem? (i := 34) rfl))) (g := (mkF m 109 #[.val (.int fl), .val (.long qa), .second, .val (.long qb), .second, .val (.int vd), .val (.int (0 : Int32)), .val (.int vl), .val (.int (1 : Int32)), .val (.int vh), .val (.ref bl), .val .null, .unset, .unset, .unset, .unset, .unset, .unset] [])) rfl (hb hby at_109) _ k) ?_
      show Go _ _ _ _ _ _ _ (T24.setTop (mkF m 112 #[.val (.int fl), .val (.long qa), .second, .val (.long qb), .second, .val (.int vd), .val (.int (0 : Int32)), .val (.int vl), .val (.int (1 : Int32)), .val (.int vh), .val (.ref bl), .val .null, .unset, .unset, .unset, .unset, .unset, .unset] [(.long (-9223372036854775808 : Int64))]))
      obtain ⟨_, _, ⟨T25, L25, k25, n25⟩, -, X25, ⟨Lc25, hQ25, l25, y25, z25⟩, st25⟩ := Jvm.LawKit.callS X24 hx (y := (⟨"java/lang/Long", "valueOf", "(J)Ljava/lang/Long;"⟩ : MethodName)) hown (mvT hZ (hw _ (List.mem_of_getElem? (i := 5) rfl))) (mvT hZ (hw _ (List.mem_of_getElem? (i := 6) rfl))) (mvT hZ (hw _ (List.mem_of_getElem? (i := 7) rfl))) (mvT hZ (hw _ (List.mem_of_getElem? (i := 8) rfl))) (by decide) (backOf (W := 0) (rm2 l Z a0 hw [] (-9223372036854775808 : Int64) ca T24.heap n0 Z24 old hsta hca) hZ (hw _ (List.mem_of_getElem? (i := 8) rfl)) (hw _ (List.mem_of_getElem? (i := 7) rfl)) (by decide) (by decide)) (g := (mkF m 112 #[.val (.int fl), .val (.long qa), .second, .val (.long qb), .second, .val (.int vd), .val (.int (0 : Int32)), .val (.int vl), .val (.int (1 : Int32)), .val (.int vh), .val (.ref bl), .val .null, .unset, .unset, .unset, .unset, .unset, .unset] [(.long (-9223372036854775808 : Int64))])) rfl (by rw [hml]; rfl) (argsL := [(.long (-9223372036854775808 : Int64))]) (rest := []) (lenOf pd_0_1 rfl) rfl (by show 2 * 0 + _ ≤ _; exact Nat.le_of_eq rfl) (hb hby at_112) (fun _ _ => ⟨rfl, rfl, (by decide : 1 + 1 ≤ _), (by decide : 1 + 1 ≤ _)⟩)
      dsimp only [Pt.U, Pt.locs, Pt.cells, Pt.slots] at X25 l25 y25 z25 st25 hQ25
      subst l25 y25 z25
      obtain ⟨b1, rfl, N25q, K25q, o25_E_b1, o25_F_value_b1⟩ := hQ25
      have N25 := Fr.app N24 N25q
      replace old := Old.keep old K25q all0
      replace E_bl := E_bl.keep K25q
      replace F_value_bl := F_value_bl.keep K25q nin0
      have Z25 := Nat.le_trans Z24 K25q.1
      have E_b1 := o25_E_b1
      have F_value_b1 := o25_F_value_b1
      refine Go.step st25 ?_
      show Go _ _ _ _ _ _ _ (T25.setTop (mkF m 115 #[.val (.int fl), .val (.long qa), .second, .val (.long qb), .second, .val (.int vd), .val (.int (0 : Int32)), .val (.int vl), .val (.int (1 : Int32)), .val (.int vh), .val (.ref bl), .val .null, .unset, .unset, .unset, .unset, .unset, .unset] [(.ref b1)]))
      refine Go.step (fun t k => XS.astore X25.here hx rfl (hb hby at_115) rfl rfl (l' := #[.val (.int fl), .val (.long qa), .second, .val (.long qb), .second, .val (.int vd), .val (.int (0 : Int32)), .val (.int vl), .val (.int (1 : Int32)), .val (.int vh), .val (.ref bl), .val .null, .val (.ref b1), .unset, .unset, .unset, .unset, .unset]) rfl k) ?_
      show Go _ _ _ _ _ _ _ (T25.setTop (mkF m 117 #[.val (.int fl), .val (.long qa), .second, .val (.long qb), .second, .val (.int vd), .val (.int (0 : Int32)), .val (.int vl), .val (.int (1 : Int32)), .val (.int vh), .val (.ref bl), .val .null, .val (.ref b1), .unset, .unset, .unset, .unset, .unset] []))
      refine Go.step (fun t k => X25.ldc2Long hx hown (mvT hZ (hw _ (List.mem_of_getElem? (i := 35) rfl))) (g := (mkF m 117 #[.val (.int fl), .val (.long qa), .second, .val (.long qb), .second, .val (.int vd), .val (.int (0 : Int32)), .val (.int vl), .val (.int (1 : Int32)), .val (.int vh), .val (.ref bl), .val .null, .val (.ref b1), .unset, .unset, .unset, .unset, .unset] [])) rfl (hb hby at_117) _ k) ?_
      show Go _ _ _ _ _ _ _ (T25.setTop (mkF m 120 #[.val (.int fl), .val (.long qa), .second, .val (.long qb), .second, .val (.int vd), .val (.int (0 : Int32)), .val (.int vl), .val (.int (1 : Int32)), .val (.int vh), .val (.ref bl), .val .null, .val (.ref b1), .unset, .unset, .unset, .unset, .unset] [(.long (9223372036854775807 : Int64))]))
      obtain ⟨_, _, ⟨T26, L26, k26, n26⟩, -, X26, ⟨Lc26, hQ26, l26, y26, z26⟩, st26⟩ := Jvm.LawKit.callS X25 hx (y := (⟨"java/lang/Long", "valueOf", "(J)Ljava/lang/Long;"⟩ : MethodName)) hown (mvT hZ (hw _ (List.mem_of_getElem? (i := 5) rfl))) (mvT hZ (hw _ (List.mem_of_getElem? (i := 6) rfl))) (mvT hZ (hw _ (List.mem_of_getElem? (i := 7) rfl))) (mvT hZ (hw _ (List.mem_of_getElem? (i := 8) rfl))) (by decide) (backOf (W := 0) (rm2 l Z a0 hw [] (9223372036854775807 : Int64) ca T25.heap n0 Z25 old hsta hca) hZ (hw _ (List.mem_of_getElem? (i := 8) rfl)) (hw _ (List.mem_of_getElem? (i := 7) rfl)) (by decide) (by decide)) (g := (mkF m 120 #[.val (.int fl), .val (.long qa), .second, .val (.long qb), .second, .val (.int vd), .val (.int (0 : Int32)), .val (.int vl), .val (.int (1 : Int32)), .val (.int vh), .val (.ref bl), .val .null, .val (.ref b1), .unset, .unset, .unset, .unset, .unset] [(.long (9223372036854775807 : Int64))])) rfl (by rw [hml]; rfl) (argsL := [(.long (9223372036854775807 : Int64))]) (rest := []) (lenOf pd_0_1 rfl) rfl (by show 2 * 0 + _ ≤ _; exact Nat.le_of_eq rfl) (hb hby at_120) (fun _ _ => ⟨rfl, rfl, (by decide : 2 + 1 ≤ _), (by decide : 2 + 1 ≤ _)⟩)
      dsimp only [Pt.U, Pt.locs, Pt.cells, Pt.slots] at X26 l26 y26 z26 st26 hQ26
      subst l26 y26 z26
      obtain ⟨b2, rfl, N26q, K26q, o26_E_b2, o26_F_value_b2⟩ := hQ26
      have N26 := Fr.app N25 N26q
      replace old := Old.keep old K26q all0
      replace E_bl := E_bl.keep K26q
      replace F_value_bl := F_value_bl.keep K26q nin0
      replace E_b1 := E_b1.keep K26q
      replace F_value_b1 := F_value_b1.keep K26q nin0
      have Z26 := Nat.le_trans Z25 K26q.1
      have E_b2 := o26_E_b2
      have F_value_b2 := o26_F_value_b2
      refine Go.step st26 ?_
      show Go _ _ _ _ _ _ _ (T26.setTop (mkF m 123 #[.val (.int fl), .val (.long qa), .second, .val (.long qb), .second, .val (.int vd), .val (.int (0 : Int32)), .val (.int vl), .val (.int (1 : Int32)), .val (.int vh), .val (.ref bl), .val .null, .val (.ref b1), .unset, .unset, .unset, .unset, .unset] [(.ref b2)]))
      refine Go.step (fun t k => XS.astore X26.here hx rfl (hb hby at_123) rfl rfl (l' := #[.val (.int fl), .val (.long qa), .second, .val (.long qb), .second, .val (.int vd), .val (.int (0 : Int32)), .val (.int vl), .val (.int (1 : Int32)), .val (.int vh), .val (.ref bl), .val .null, .val (.ref b1), .val (.ref b2), .unset, .unset, .unset, .unset]) rfl k) ?_
      show Go _ _ _ _ _ _ _ (T26.setTop (mkF m 125 #[.val (.int fl), .val (.long qa), .second, .val (.long qb), .second, .val (.int vd), .val (.int (0 : Int32)), .val (.int vl), .val (.int (1 : Int32)), .val (.int vh), .val (.ref bl), .val .null, .val (.ref b1), .val (.ref b2), .unset, .unset, .unset, .unset] []))
      obtain ⟨T27, h27, X27, e27, E27, A27, D27, -, st27⟩ := newO X26 hx hZ hown (hw _ (List.mem_of_getElem? (i := 36) rfl)) (hw _ (List.mem_of_getElem? (i := 37) rfl)) (hw _ (List.mem_of_getElem? (i := 38) rfl)) rfl (g := (mkF m 125 #[.val (.int fl), .val (.long qa), .second, .val (.long qb), .second, .val (.int vd), .val (.int (0 : Int32)), .val (.int vl), .val (.int (1 : Int32)), .val (.int vh), .val (.ref bl), .val .null, .val (.ref b1), .val (.ref b2), .unset, .unset, .unset, .unset] [])) rfl (hb hby at_125) (by decide) (by decide)
      obtain ⟨rg, gz27⟩ : ∃ z, z = T26.heap.size := ⟨_, rfl⟩
      have ne_bl_rg : bl ≠ rg := Nat.ne_of_lt (Nat.lt_of_lt_of_le E_bl.lt (Nat.le_of_eq gz27.symm))
      have ne_b1_rg : b1 ≠ rg := Nat.ne_of_lt (Nat.lt_of_lt_of_le E_b1.lt (Nat.le_of_eq gz27.symm))
      have ne_b2_rg : b2 ≠ rg := Nat.ne_of_lt (Nat.lt_of_lt_of_le E_b2.lt (Nat.le_of_eq gz27.symm))
      have g_rg : n0 ≤ rg := Nat.le_trans Z26 (Nat.le_of_eq gz27.symm)
      rw [← gz27] at A27 D27 st27
      replace old := Old.ext old E27
      replace E_bl := E_bl.ext E27
      replace F_value_bl := F_value_bl.ext E27
      replace E_b1 := E_b1.ext E27
      replace F_value_b1 := F_value_b1.ext E27
      replace E_b2 := E_b2.ext E27
      replace F_value_b2 := F_value_b2.ext E27
      have Z27 := Nat.le_trans Z26 E27.1
      have E_rg := A27
      have F_descending_rg : Fld Z h27 rg "com/example/rootkeep/rootkeep/KeyRange" "descending" "Z" (.int (0 : Int32)) := D27 (Or.inr (hw _ (List.mem_of_getElem? (i := 49) rfl))) (ty := .boolean) (by decide)
      have F_fromStart_rg : Fld Z h27 rg "com/example/rootkeep/rootkeep/KeyRange" "fromStart" "Z" (.int (0 : Int32)) := D27 (Or.inr (hw _ (List.mem_of_getElem? (i := 51) rfl))) (ty := .boolean) (by decide)
      have F_lo_rg : Fld Z h27 rg "com/example/rootkeep/rootkeep/KeyRange" "lo" "Ljava/lang/Object;" .null := D27 (Or.inr (hw _ (List.mem_of_getElem? (i := 53) rfl))) (ty := (.object "java/lang/Object")) (by decide)
      have F_loInclusive_rg : Fld Z h27 rg "com/example/rootkeep/rootkeep/KeyRange" "loInclusive" "Z" (.int (0 : Int32)) := D27 (Or.inr (hw _ (List.mem_of_getElem? (i := 55) rfl))) (ty := .boolean) (by decide)
      have F_toEnd_rg : Fld Z h27 rg "com/example/rootkeep/rootkeep/KeyRange" "toEnd" "Z" (.int (0 : Int32)) := D27 (Or.inr (hw _ (List.mem_of_getElem? (i := 57) rfl))) (ty := .boolean) (by decide)
      have F_hi_rg : Fld Z h27 rg "com/example/rootkeep/rootkeep/KeyRange" "hi" "Ljava/lang/Object;" .null := D27 (Or.inr (hw _ (List.mem_of_getElem? (i := 59) rfl))) (ty := (.object "java/lang/Object")) (by decide)
      have F_hiInclusive_rg : Fld Z h27 rg "com/example/rootkeep/rootkeep/KeyRange" "hiInclusive" "Z" (.int (0 : Int32)) := D27 (Or.inr (hw _ (List.mem_of_getElem? (i := 61) rfl))) (ty := .boolean) (by decide)
      refine Go.step st27 ?_
      show Go _ _ _ _ _ _ _ (T27.setTop (mkF m 128 #[.val (.int fl), .val (.long qa), .second, .val (.long qb), .second, .val (.int vd), .val (.int (0 : Int32)), .val (.int vl), .val (.int (1 : Int32)), .val (.int vh), .val (.ref bl), .val .null, .val (.ref b1), .val (.ref b2), .unset, .unset, .unset, .unset] [(.ref rg)]))
      refine Go.step (fun t k => XS.dup X27.here hx rfl (hb hby at_128) rfl rfl k) ?_
      show Go _ _ _ _ _ _ _ (T27.setTop (mkF m 129 #[.val (.int fl), .val (.long qa), .second, .val (.long qb), .second, .val (.int vd), .val (.int (0 : Int32)), .val (.int vl), .val (.int (1 : Int32)), .val (.int vh), .val (.ref bl), .val .null, .val (.ref b1), .val (.ref b2), .unset, .unset, .unset, .unset] [(.ref rg), (.ref rg)]))
      refine Go.step (fun t k => XS.iload X27.here hx rfl (hb hby at_129) rfl k) ?_
      show Go _ _ _ _ _ _ _ (T27.setTop (mkF m 131 #[.val (.int fl), .val (.long qa), .second, .val (.long qb), .second, .val (.int vd), .val (.int (0 : Int32)), .val (.int vl), .val (.int (1 : Int32)), .val (.int vh), .val (.ref bl), .val .null, .val (.ref b1), .val (.ref b2), .unset, .unset, .unset, .unset] [(.int vd), (.ref rg), (.ref rg)]))
      refine Go.step (fun t k => XS.iload X27.here hx rfl (hb hby at_131) rfl k) ?_
      show Go _ _ _ _ _ _ _ (T27.setTop (mkF m 133 #[.val (.int fl), .val (.long qa), .second, .val (.long qb), .second, .val (.int vd), .val (.int (0 : Int32)), .val (.int vl), .val (.int (1 : Int32)), .val (.int vh), .val (.ref bl), .val .null, .val (.ref b1), .val (.ref b2), .unset, .unset, .unset, .unset] [(.int (0 : Int32)), (.int vd), (.ref rg), (.ref rg)]))
      refine Go.step (fun t k => XS.aload X27.here hx rfl (hb hby at_133) rfl rfl k) ?_
      show Go _ _ _ _ _ _ _ (T27.setTop (mkF m 135 #[.val (.int fl), .val (.long qa), .second, .val (.long qb), .second, .val (.int vd), .val (.int (0 : Int32)), .val (.int vl), .val (.int (1 : Int32)), .val (.int vh), .val (.ref bl), .val .null, .val (.ref b1), .val (.ref b2), .unset, .unset, .unset, .unset] [(.ref bl), (.int (0 : Int32)), (.int vd), (.ref rg), (.ref rg)]))
      refine Go.step (fun t k => XS.iload X27.here hx rfl (hb hby at_135) rfl k) ?_
      show Go _ _ _ _ _ _ _ (T27.setTop (mkF m 137 #[.val (.int fl), .val (.long qa), .second, .val (.long qb), .second, .val (.int vd), .val (.int (0 : Int32)), .val (.int vl), .val (.int (1 : Int32)), .val (.int vh), .val (.ref bl), .val .null, .val (.ref b1), .val (.ref b2), .unset, .unset, .unset, .unset] [(.int vl), (.ref bl), (.int (0 : Int32)), (.int vd), (.ref rg), (.ref rg)]))
      refine Go.step (fun t k => XS.iload X27.here hx rfl (hb hby at_137) rfl k) ?_
      show Go _ _ _ _ _ _ _ (T27.setTop (mkF m 139 #[.val (.int fl), .val (.long qa), .second, .val (.long qb), .second, .val (.int vd), .val (.int (0 : Int32)), .val (.int vl), .val (.int (1 : Int32)), .val (.int vh), .val (.ref bl), .val .null, .val (.ref b1), .val (.ref b2), .unset, .unset, .unset, .unset] [(.int (1 : Int32)), (.int vl), (.ref bl), (.int (0 : Int32)), (.int vd), (.ref rg), (.ref rg)]))
      refine Go.step (fun t k => XS.aload X27.here hx rfl (hb hby at_139) rfl rfl k) ?_
      show Go _ _ _ _ _ _ _ (T27.setTop (mkF m 141 #[.val (.int fl), .val (.long qa), .second, .val (.long qb), .second, .val (.int vd), .val (.int (0 : Int32)), .val (.int vl), .val (.int (1 : Int32)), .val (.int vh), .val (.ref bl), .val .null, .val (.ref b1), .val (.ref b2), .unset, .unset, .unset, .unset] [.null, (.int (1 : Int32)), (.int vl), (.ref bl), (.int (0 : Int32)), (.int vd), (.ref rg), (.ref rg)]))
      refine Go.step (fun t k => XS.iload X27.here hx rfl (hb hby at_141) rfl k) ?_
      show Go _ _ _ _ _ _ _ (T27.setTop (mkF m 143 #[.val (.int fl), .val (.long qa), .second, .val (.long qb), .second, .val (.int vd), .val (.int (0 : Int32)), .val (.int vl), .val (.int (1 : Int32)), .val (.int vh), .val (.ref bl), .val .null, .val (.ref b1), .val (.ref b2), .unset, .unset, .unset, .unset] [(.int vh), .null, (.int (1 : Int32)), (.int vl), (.ref bl), (.int (0 : Int32)), (.int vd), (.ref rg), (.ref rg)]))
      obtain ⟨_, _, ⟨T28, L28, k28, n28⟩, -, X28, ⟨Lc28, hQ28, l28, y28, z28⟩, st28⟩ := X27.specialBack hx (y := (⟨"com/example/rootkeep/rootkeep/KeyRange", "<init>", "(ZZLjava/lang/Object;ZZLjava/lang/Object;Z)V"⟩ : MethodName)) rfl hown (mvT hZ (hw _ (List.mem_of_getElem? (i := 39) rfl))) (mvT hZ (hw _ (List.mem_of_getElem? (i := 40) rfl))) (mvT hZ (hw _ (List.mem_of_getElem? (i := 41) rfl))) (by decide) (backOf (W := 1) (rm7_01 l Z a0 hw [] rg vd (0 : Int32) bl vl (1 : Int32) vh h27 n0 Z27 F_descending_rg F_fromStart_rg F_lo_rg F_loInclusive_rg F_toEnd_rg F_hi_rg F_hiInclusive_rg E_rg g_rg (own_01 hvd) (Or.inl rfl) (own_01 hvl) (Or.inr rfl) (own_01 hvh)) hZ (hw _ (List.mem_of_getElem? (i := 41) rfl)) (hw _ (List.mem_of_getElem? (i := 38) rfl)) (by decide) (by decide)) (g := (mkF m 143 #[.val (.int fl), .val (.long qa), .second, .val (.long qb), .second, .val (.int vd), .val (.int (0 : Int32)), .val (.int vl), .val (.int (1 : Int32)), .val (.int vh), .val (.ref bl), .val .null, .val (.ref b1), .val (.ref b2), .unset, .unset, .unset, .unset] [(.int vh), .null, (.int (1 : Int32)), (.int vl), (.ref bl), (.int (0 : Int32)), (.int vd), (.ref rg), (.ref rg)])) rfl (by rw [hml]; rfl) (Steps.refl _) (a := rg) (argsL := [(.int vd), (.int (0 : Int32)), (.ref bl), (.int vl), (.int (1 : Int32)), .null, (.int vh)]) (rest := [(.ref rg)]) (lenOf pd_0_2 rfl) rfl (by show 2 * 0 + _ ≤ _; exact Nat.le_of_eq rfl) (hb hby at_143) (fun _ _ => ⟨rfl, e27, (by decide : 4 + 0 ≤ _), (by decide : 10 + 0 ≤ _)⟩)
      dsimp only [Pt.U, Pt.locs, Pt.cells, Pt.slots] at X28 l28 y28 z28 st28 hQ28
      subst l28 y28 z28
      obtain ⟨rfl, N28q, K28q, o28_F_descending_rg, o28_F_fromStart_rg, o28_F_lo_rg, o28_F_loInclusive_rg, o28_F_toEnd_rg, o28_F_hi_rg, o28_F_hiInclusive_rg⟩ := hQ28
      have N28 := Fr.app N26 N28q
      replace old := Old.keep old K28q (allS g_rg all0)
      replace E_bl := E_bl.keep K28q
      replace F_value_bl := F_value_bl.keep K28q (ninS ne_bl_rg nin0)
      replace E_b1 := E_b1.keep K28q
      replace F_value_b1 := F_value_b1.keep K28q (ninS ne_b1_rg nin0)
      replace E_b2 := E_b2.keep K28q
      replace F_value_b2 := F_value_b2.keep K28q (ninS ne_b2_rg nin0)
      replace E_rg := E_rg.keep K28q
      have Z28 := Nat.le_trans Z27 K28q.1
      have F_descending_rg := o28_F_descending_rg
      have F_fromStart_rg := o28_F_fromStart_rg
      have F_lo_rg := o28_F_lo_rg
      have F_loInclusive_rg := o28_F_loInclusive_rg
      have F_toEnd_rg := o28_F_toEnd_rg
      have F_hi_rg := o28_F_hi_rg
      have F_hiInclusive_rg := o28_F_hiInclusive_rg
      refine Go.step (fun t k => st28.trans k) ?_
      show Go _ _ _ _ _ _ _ (T28.setTop (mkF m 146 #[.val (.int fl), .val (.long qa), .second, .val (.long qb), .second, .val (.int vd), .val (.int (0 : Int32)), .val (.int vl), .val (.int (1 : Int32)), .val (.int vh), .val (.ref bl), .val .null, .val (.ref b1), .val (.ref b2), .unset, .unset, .unset, .unset] [(.ref rg)]))
      refine Go.step (fun t k => XS.astore X28.here hx rfl (hb hby at_146) rfl rfl (l' := #[.val (.int fl), .val (.long qa), .second, .val (.long qb), .second, .val (.int vd), .val (.int (0 : Int32)), .val (.int vl), .val (.int (1 : Int32)), .val (.int vh), .val (.ref bl), .val .null, .val (.ref b1), .val (.ref b2), .val (.ref rg), .unset, .unset, .unset]) rfl k) ?_
      show Go _ _ _ _ _ _ _ (T28.setTop (mkF m 148 #[.val (.int fl), .val (.long qa), .second, .val (.long qb), .second, .val (.int vd), .val (.int (0 : Int32)), .val (.int vl), .val (.int (1 : Int32)), .val (.int vh), .val (.ref bl), .val .null, .val (.ref b1), .val (.ref b2), .val (.ref rg), .unset, .unset, .unset] []))
      refine Go.step (fun t k => XS.aload X28.here hx rfl (hb hby at_148) rfl rfl k) ?_
      show Go _ _ _ _ _ _ _ (T28.setTop (mkF m 150 #[.val (.int fl), .val (.long qa), .second, .val (.long qb), .second, .val (.int vd), .val (.int (0 : Int32)), .val (.int vl), .val (.int (1 : Int32)), .val (.int vh), .val (.ref bl), .val .null, .val (.ref b1), .val (.ref b2), .val (.ref rg), .unset, .unset, .unset] [(.ref rg)]))
      obtain ⟨cq29, kq29, q29a, q29b, q29c⟩ := isOf hZ rfl E_rg
      obtain ⟨_, _, ⟨T29, L29, k29, n29⟩, -, X29, ⟨Lc29, hQ29, l29, y29, z29⟩, st29⟩ := X28.virtualBack hx (y := (⟨"com/example/rootkeep/rootkeep/KeyRange", "isWhole", "()Z"⟩ : MethodName)) (z := (⟨"com/example/rootkeep/rootkeep/KeyRange", "isWhole", "()Z"⟩ : MethodName)) hown (mvT hZ (hw _ (List.mem_of_getElem? (i := 62) rfl))) (mvT hZ (hw _ (List.mem_of_getElem? (i := 63) rfl))) (notFace_of_selects (args := #[]) (mvT hZ (hw _ (List.mem_of_getElem? (i := 65) rfl)))) (mvT hZ (hw _ (List.mem_of_getElem? (i := 65) rfl))) (mvT hZ (hw _ (List.mem_of_getElem? (i := 64) rfl))) (by decide) (backOf (W := 0) (rm9 l Z a0 hw [] rg (0 : Int32) (1 : Int32) T28.heap n0 Z28 F_fromStart_rg F_toEnd_rg) hZ (hw _ (List.mem_of_getElem? (i := 66) rfl)) (hw _ (List.mem_of_getElem? (i := 38) rfl)) (by decide) (by decide)) q29a q29c (g := (mkF m 150 #[.val (.int fl), .val (.long qa), .second, .val (.long qb), .second, .val (.int vd), .val (.int (0 : Int32)), .val (.int vl), .val (.int (1 : Int32)), .val (.int vh), .val (.ref bl), .val .null, .val (.ref b1), .val (.ref b2), .val (.ref rg), .unset, .unset, .unset] [(.ref rg)])) rfl (by rw [hml]; rfl) (Steps.refl _) (argsL := []) (rest := []) (lenOf pd_0_3 rfl) rfl (by show 2 * 0 + _ ≤ _; exact Nat.le_of_eq rfl) (hb hby at_150) (fun _ _ => ⟨rfl, rfl, (by decide : 4 + 0 ≤ _), (by decide : 10 + 0 ≤ _)⟩)
      dsimp only [Pt.U, Pt.locs, Pt.cells, Pt.slots] at X29 l29 y29 z29 st29 hQ29
      subst l29 y29 z29
      obtain ⟨z_29, rfl, N29q, K29q, o29_hz⟩ := hQ29
      have N29 := Fr.app N28 N29q
      refine Go.step (fun t k => st29.trans k) ?_
      show Go _ _ _ _ _ _ _ (T29.setTop (mkF m 153 #[.val (.int fl), .val (.long qa), .second, .val (.long qb), .second, .val (.int vd), .val (.int (0 : Int32)), .val (.int vl), .val (.int (1 : Int32)), .val (.int vh), .val (.ref bl), .val .null, .val (.ref b1), .val (.ref b2), .val (.ref rg), .unset, .unset, .unset] [(.int z_29)]))
      refine Go.step (fun t k => XS.istore X29.here hx rfl (hb hby at_153) rfl (l' := #[.val (.int fl), .val (.long qa), .second, .val (.long qb), .second, .val (.int vd), .val (.int (0 : Int32)), .val (.int vl), .val (.int (1 : Int32)), .val (.int vh), .val (.ref bl), .val .null, .val (.ref b1), .val (.ref b2), .val (.ref rg), .val (.int z_29), .unset, .unset]) rfl k) ?_
      show Go _ _ _ _ _ _ _ (T29.setTop (mkF m 155 #[.val (.int fl), .val (.long qa), .second, .val (.long qb), .second, .val (.int vd), .val (.int (0 : Int32)), .val (.int vl), .val (.int (1 : Int32)), .val (.int vh), .val (.ref bl), .val .null, .val (.ref b1), .val (.ref b2), .val (.ref rg), .val (.int z_29), .unset, .unset] []))
      refine Go.step (fun t k => XS.aload X29.here hx rfl (hb hby at_155) rfl rfl k) ?_
      show Go _ _ _ _ _ _ _ (T29.setTop (mkF m 157 #[.val (.int fl), .val (.long qa), .second, .val (.long qb), .second, .val (.int vd), .val (.int (0 : Int32)), .val (.int vl), .val (.int (1 : Int32)), .val (.int vh), .val (.ref bl), .val .null, .val (.ref b1), .val (.ref b2), .val (.ref rg), .val (.int z_29), .unset, .unset] [(.ref rg)]))
      refine Go.step (fun t k => XS.aload X29.here hx rfl (hb hby at_157) rfl rfl k) ?_
      show Go _ _ _ _ _ _ _ (T29.setTop (mkF m 159 #[.val (.int fl), .val (.long qa), .second, .val (.long qb), .second, .val (.int vd), .val (.int (0 : Int32)), .val (.int vl), .val (.int (1 : Int32)), .val (.int vh), .val (.ref bl), .val .null, .val (.ref b1), .val (.ref b2), .val (.ref rg), .val (.int z_29), .unset, .unset] [(.ref b1), (.ref rg)]))
      obtain ⟨cq30, kq30, q30a, q30b, q30c⟩ := isOf hZ K29q E_rg
      obtain ⟨_, _, ⟨T30, L30, k30, n30⟩, -, X30, ⟨Lc30, hQ30, l30, y30, z30⟩, st30⟩ := X29.virtualBack hx (y := (⟨"com/example/rootkeep/rootkeep/KeyRange", "tooLow", "(Ljava/lang/Object;)Z"⟩ : MethodName)) (z := (⟨"com/example/rootkeep/rootkeep/KeyRange", "tooLow", "(Ljava/lang/Object;)Z"⟩ : MethodName)) hown (mvT hZ (hw _ (List.mem_of_getElem? (i := 67) rfl))) (mvT hZ (hw _ (List.mem_of_getElem? (i := 68) rfl))) (notFace_of_selects (args := #[]) (mvT hZ (hw _ (List.mem_of_getElem? (i := 70) rfl)))) (mvT hZ (hw _ (List.mem_of_getElem? (i := 70) rfl))) (mvT hZ (hw _ (List.mem_of_getElem? (i := 69) rfl))) (by decide) (backOf (W := 0) (rm10_c l Z a0 hw [] rg b1 bl (-9223372036854775808 : Int64) ml T28.heap n0 Z28 F_fromStart_rg F_lo_rg F_value_b1 F_value_bl E_b1 E_bl (own_lo rfl o23_hz)) hZ (hw _ (List.mem_of_getElem? (i := 71) rfl)) (hw _ (List.mem_of_getElem? (i := 38) rfl)) (by decide) (by decide)) q30a q30c (g := (mkF m 159 #[.val (.int fl), .val (.long qa), .second, .val (.long qb), .second, .val (.int vd), .val (.int (0 : Int32)), .val (.int vl), .val (.int (1 : Int32)), .val (.int vh), .val (.ref bl), .val .null, .val (.ref b1), .val (.ref b2), .val (.ref rg), .val (.int z_29), .unset, .unset] [(.ref b1), (.ref rg)])) rfl (by rw [hml]; rfl) (Steps.refl _) (argsL := [(.ref b1)]) (rest := []) (lenOf pd_0_4 rfl) rfl (by show 2 * 0 + _ ≤ _; exact Nat.le_of_eq rfl) (hb hby at_159) (fun _ _ => ⟨rfl, K29q, (by decide : 4 + 0 ≤ _), (by decide : 10 + 0 ≤ _)⟩)
      dsimp only [Pt.U, Pt.locs, Pt.cells, Pt.slots] at X30 l30 y30 z30 st30 hQ30
      subst l30 y30 z30
      obtain ⟨rfl, N30q, K30q⟩ := hQ30
      have N30 := Fr.app N29 N30q
      refine Go.step (fun t k => st30.trans k) ?_
      show Go _ _ _ _ _ _ _ (T30.setTop (mkF m 162 #[.val (.int fl), .val (.long qa), .second, .val (.long qb), .second, .val (.int vd), .val (.int (0 : Int32)), .val (.int vl), .val (.int (1 : Int32)), .val (.int vh), .val (.ref bl), .val .null, .val (.ref b1), .val (.ref b2), .val (.ref rg), .val (.int z_29), .unset, .unset] [(.int (1 : Int32))]))
      refine Go.step (fun t k => XS.ifYes X30.here hx rfl (pc0 := 162) (pc' := 179) rfl (hb hby at_162) rfl ((if0 _ _).trans (feq (by decide : ¬ (1 : Int32) = (0 : Int32))).2) (by decide) (by decide) k) ?_
      show Go _ _ _ _ _ _ _ (T30.setTop (mkF m 179 #[.val (.int fl), .val (.long qa), .second, .val (.long qb), .second, .val (.int vd), .val (.int (0 : Int32)), .val (.int vl), .val (.int (1 : Int32)), .val (.int vh), .val (.ref bl), .val .null, .val (.ref b1), .val (.ref b2), .val (.ref rg), .val (.int z_29), .unset, .unset] []))
      refine Go.step (fun t k => XS.iconst X30.here hx rfl (hb hby at_179) k) ?_
      show Go _ _ _ _ _ _ _ (T30.setTop (mkF m 180 #[.val (.int fl), .val (.long qa), .second, .val (.long qb), .second, .val (.int vd), .val (.int (0 : Int32)), .val (.int vl), .val (.int (1 : Int32)), .val (.int vh), .val (.ref bl), .val .null, .val (.ref b1), .val (.ref b2), .val (.ref rg), .val (.int z_29), .unset, .unset] [(.int (0 : Int32))]))
      refine Go.step (fun t k => XS.istore X30.here hx rfl (hb hby at_180) rfl (l' := #[.val (.int fl), .val (.long qa), .second, .val (.long qb), .second, .val (.int vd), .val (.int (0 : Int32)), .val (.int vl), .val (.int (1 : Int32)), .val (.int vh), .val (.ref bl), .val .null, .val (.ref b1), .val (.ref b2), .val (.ref rg), .val (.int z_29), .val (.int (0 : Int32)), .unset]) rfl k) ?_
      show Go _ _ _ _ _ _ _ (T30.setTop (mkF m 182 #[.val (.int fl), .val (.long qa), .second, .val (.long qb), .second, .val (.int vd), .val (.int (0 : Int32)), .val (.int vl), .val (.int (1 : Int32)), .val (.int vh), .val (.ref bl), .val .null, .val (.ref b1), .val (.ref b2), .val (.ref rg), .val (.int z_29), .val (.int (0 : Int32)), .unset] []))
      refine Go.step (fun t k => XS.aload X30.here hx rfl (hb hby at_182) rfl rfl k) ?_
      show Go _ _ _ _ _ _ _ (T30.setTop (mkF m 184 #[.val (.int fl), .val (.long qa), .second, .val (.long qb), .second, .val (.int vd), .val (.int (0 : Int32)), .val (.int vl), .val (.int (1 : Int32)), .val (.int vh), .val (.ref bl), .val .null, .val (.ref b1), .val (.ref b2), .val (.ref rg), .val (.int z_29), .val (.int (0 : Int32)), .unset] [(.ref rg)]))
      obtain ⟨cq31, kq31, q31a, q31b, q31c⟩ := isOf hZ K30q E_rg
      obtain ⟨_, _, ⟨T31, L31, k31, n31⟩, -, X31, ⟨Lc31, hQ31, l31, y31, z31⟩, st31⟩ := X30.virtualBack hx (y := (⟨"com/example/rootkeep/rootkeep/KeyRange", "reversed", "()Lcom/example/rootkeep/rootkeep/KeyRange;"⟩ : MethodName)) (z := (⟨"com/example/rootkeep/rootkeep/KeyRange", "reversed", "()Lcom/example/rootkeep/rootkeep/KeyRange;"⟩ : MethodName)) hown (mvT hZ (hw _ (List.mem_of_getElem? (i := 94) rfl))) (mvT hZ (hw _ (List.mem_of_getElem? (i := 95) rfl))) (notFace_of_selects (args := #[]) (mvT hZ (hw _ (List.mem_of_getElem? (i := 97) rfl)))) (mvT hZ (hw _ (List.mem_of_getElem? (i := 97) rfl))) (mvT hZ (hw _ (List.mem_of_getElem? (i := 96) rfl))) (by decide) (backOf (W := 0) (rm15_01 l Z a0 hw [] rg vd (0 : Int32) bl vl (1 : Int32) vh T28.heap n0 Z28 F_descending_rg F_fromStart_rg F_lo_rg F_loInclusive_rg F_toEnd_rg F_hi_rg F_hiInclusive_rg E_rg (own_01 hvd) (Or.inl rfl) (own_01 hvl) (Or.inr rfl) (own_01 hvh)) hZ (hw _ (List.mem_of_getElem? (i := 98) rfl)) (hw _ (List.mem_of_getElem? (i := 38) rfl)) (by decide) (by decide)) q31a q31c (g := (mkF m 184 #[.val (.int fl), .val (.long qa), .second, .val (.long qb), .second, .val (.int vd), .val (.int (0 : Int32)), .val (.int vl), .val (.int (1 : Int32)), .val (.int vh), .val (.ref bl), .val .null, .val (.ref b1), .val (.ref b2), .val (.ref rg), .val (.int z_29), .val (.int (0 : Int32)), .unset] [(.ref rg)])) rfl (by rw [hml]; rfl) (Steps.refl _) (argsL := []) (rest := []) (lenOf pd_0_5 rfl) rfl (by show 2 * 0 + _ ≤ _; exact Nat.le_of_eq rfl) (hb hby at_184) (fun _ _ => ⟨rfl, K30q, (by decide : 4 + 1 ≤ _), (by decide : 10 + 7 ≤ _)⟩)
      dsimp only [Pt.U, Pt.locs, Pt.cells, Pt.slots] at X31 l31 y31 z31 st31 hQ31
      subst l31 y31 z31
      obtain ⟨br, rfl, N31q, K31q, o31_E_br, o31_F_fromStart_br, o31_F_toEnd_br⟩ := hQ31
      have N31 := Fr.app N30 N31q
      replace old := Old.keep old K31q all0
      replace E_bl := E_bl.keep K31q
      replace F_value_bl := F_value_bl.keep K31q nin0
      replace E_b1 := E_b1.keep K31q
      replace F_value_b1 := F_value_b1.keep K31q nin0
      replace E_b2 := E_b2.keep K31q
      replace F_value_b2 := F_value_b2.keep K31q nin0
      replace E_rg := E_rg.keep K31q
      replace F_descending_rg := F_descending_rg.keep K31q nin0
      replace F_fromStart_rg := F_fromStart_rg.keep K31q nin0
      replace F_lo_rg := F_lo_rg.keep K31q nin0
      replace F_loInclusive_rg := F_loInclusive_rg.keep K31q nin0
      replace F_toEnd_rg := F_toEnd_rg.keep K31q nin0
      replace F_hi_rg := F_hi_rg.keep K31q nin0
      replace F_hiInclusive_rg := F_hiInclusive_rg.keep K31q nin0
      have Z31 := Nat.le_trans Z28 K31q.1
      have E_br := o31_E_br
      have F_fromStart_br := o31_F_fromStart_br
      have F_toEnd_br := o31_F_toEnd_br
      refine Go.step (fun t k => st31.trans k) ?_
      show Go _ _ _ _ _ _ _ (T31.setTop (mkF m 187 #[.val (.int fl), .val (.long qa), .second, .val (.long qb), .second, .val (.int vd), .val (.int (0 : Int32)), .val (.int vl), .val (.int (1 : Int32)), .val (.int vh), .val (.ref bl), .val .null, .val (.ref b1), .val (.ref b2), .val (.ref rg), .val (.int z_29), .val (.int (0 : Int32)), .unset] [(.ref br)]))
      obtain ⟨cq32, kq32, q32a, q32b, q32c⟩ := isOf hZ rfl E_br
      obtain ⟨_, _, ⟨T32, L32, k32, n32⟩, -, X32, ⟨Lc32, hQ32, l32, y32, z32⟩, st32⟩ := X31.virtualBack hx (y := (⟨"com/example/rootkeep/rootkeep/KeyRange", "isWhole", "()Z"⟩ : MethodName)) (z := (⟨"com/example/rootkeep/rootkeep/KeyRange", "isWhole", "()Z"⟩ : MethodName)) hown (mvT hZ (hw _ (List.mem_of_getElem? (i := 62) rfl))) (mvT hZ (hw _ (List.mem_of_getElem? (i := 63) rfl))) (notFace_of_selects (args := #[]) (mvT hZ (hw _ (List.mem_of_getElem? (i := 65) rfl)))) (mvT hZ (hw _ (List.mem_of_getElem? (i := 65) rfl))) (mvT hZ (hw _ (List.mem_of_getElem? (i := 64) rfl))) (by decide) (backOf (W := 0) (rm9 l Z a0 hw [] br (0 : Int32) (1 : Int32) T31.heap n0 Z31 F_fromStart_br F_toEnd_br) hZ (hw _ (List.mem_of_getElem? (i := 66) rfl)) (hw _ (List.mem_of_getElem? (i := 38) rfl)) (by decide) (by decide)) q32a q32c (g := (mkF m 187 #[.val (.int fl), .val (.long qa), .second, .val (.long qb), .second, .val (.int vd), .val (.int (0 : Int32)), .val (.int vl), .val (.int (1 : Int32)), .val (.int vh), .val (.ref bl), .val .null, .val (.ref b1), .val (.ref b2), .val (.ref rg), .val (.int z_29), .val (.int (0 : Int32)), .unset] [(.ref br)])) rfl (by rw [hml]; rfl) (Steps.refl _) (argsL := []) (rest := []) (lenOf pd_0_3 rfl) rfl (by show 2 * 0 + _ ≤ _; exact Nat.le_of_eq rfl) (hb hby at_187) (fun _ _ => ⟨rfl, rfl, (by decide : 5 + 0 ≤ _), (by decide : 17 + 0 ≤ _)⟩)
      dsimp only [Pt.U, Pt.locs, Pt.cells, Pt.slots] at X32 l32 y32 z32 st32 hQ32
      subst l32 y32 z32
      obtain ⟨z_32, rfl, N32q, K32q, o32_hz⟩ := hQ32
      have N32 := Fr.app N31 N32q
      refine Go.step (fun t k => st32.trans k) ?_
      show Go _ _ _ _ _ _ _ (T32.setTop (mkF m 190 #[.val (.int fl), .val (.long qa), .second, .val (.long qb), .second, .val (.int vd), .val (.int (0 : Int32)), .val (.int vl), .val (.int (1 : Int32)), .val (.int vh), .val (.ref bl), .val .null, .val (.ref b1), .val (.ref b2), .val (.ref rg), .val (.int z_29), .val (.int (0 : Int32)), .unset] [(.int z_32)]))
      refine Go.step (fun t k => XS.istore X32.here hx rfl (hb hby at_190) rfl (l' := #[.val (.int fl), .val (.long qa), .second, .val (.long qb), .second, .val (.int vd), .val (.int (0 : Int32)), .val (.int vl), .val (.int (1 : Int32)), .val (.int vh), .val (.ref bl), .val .null, .val (.ref b1), .val (.ref b2), .val (.ref rg), .val (.int z_29), .val (.int (0 : Int32)), .val (.int z_32)]) rfl k) ?_
      show Go _ _ _ _ _ _ _ (T32.setTop (mkF m 192 #[.val (.int fl), .val (.long qa), .second, .val (.long qb), .second, .val (.int vd), .val (.int (0 : Int32)), .val (.int vl), .val (.int (1 : Int32)), .val (.int vh), .val (.ref bl), .val .null, .val (.ref b1), .val (.ref b2), .val (.ref rg), .val (.int z_29), .val (.int (0 : Int32)), .val (.int z_32)] []))
      refine Go.step (fun t k => XS.iload X32.here hx rfl (hb hby at_192) rfl k) ?_
      show Go _ _ _ _ _ _ _ (T32.setTop (mkF m 194 #[.val (.int fl), .val (.long qa), .second, .val (.long qb), .second, .val (.int vd), .val (.int (0 : Int32)), .val (.int vl), .val (.int (1 : Int32)), .val (.int vh), .val (.ref bl), .val .null, .val (.ref b1), .val (.ref b2), .val (.ref rg), .val (.int z_29), .val (.int (0 : Int32)), .val (.int z_32)] [(.int z_29)]))
      refine Go.step (fun t k => XS.iload X32.here hx rfl (hb hby at_194) rfl k) ?_
      show Go _ _ _ _ _ _ _ (T32.setTop (mkF m 196 #[.val (.int fl), .val (.long qa), .second, .val (.long qb), .second, .val (.int vd), .val (.int (0 : Int32)), .val (.int vl), .val (.int (1 : Int32)), .val (.int vh), .val (.ref bl), .val .null, .val (.ref b1), .val (.ref b2), .val (.ref rg), .val (.int z_29), .val (.int (0 : Int32)), .val (.int z_32)] [(.int (0 : Int32)), (.int z_29)]))
      refine Go.step (fun t k => XS.icmpNo X32.here hx rfl (hb hby at_196) rfl (teq (o29_hz.trans (by decide) : z_29 = (0 : Int32))).2 k) ?_
      show Go _ _ _ _ _ _ _ (T32.setTop (mkF m 199 #[.val (.int fl), .val (.long qa), .second, .val (.long qb), .second, .val (.int vd), .val (.int (0 : Int32)), .val (.int vl), .val (.int (1 : Int32)), .val (.int vh), .val (.ref bl), .val .null, .val (.ref b1), .val (.ref b2), .val (.ref rg), .val (.int z_29), .val (.int (0 : Int32)), .val (.int z_32)] []))
      refine Go.step (fun t k => XS.iload X32.here hx rfl (hb hby at_199) rfl k) ?_
      show Go _ _ _ _ _ _ _ (T32.setTop (mkF m 201 #[.val (.int fl), .val (.long qa), .second, .val (.long qb), .second, .val (.int vd), .val (.int (0 : Int32)), .val (.int vl), .val (.int (1 : Int32)), .val (.int vh), .val (.ref bl), .val .null, .val (.ref b1), .val (.ref b2), .val (.ref rg), .val (.int z_29), .val (.int (0 : Int32)), .val (.int z_32)] [(.int z_32)]))
      refine Go.step (fun t k => XS.iload X32.here hx rfl (hb hby at_201) rfl k) ?_
      show Go _ _ _ _ _ _ _ (T32.setTop (mkF m 203 #[.val (.int fl), .val (.long qa), .second, .val (.long qb), .second, .val (.int vd), .val (.int (0 : Int32)), .val (.int vl), .val (.int (1 : Int32)), .val (.int vh), .val (.ref bl), .val .null, .val (.ref b1), .val (.ref b2), .val (.ref rg), .val (.int z_29), .val (.int (0 : Int32)), .val (.int z_32)] [(.int z_29), (.int z_32)]))
      refine Go.step (fun t k => XS.icmpNo X32.here hx rfl (hb hby at_203) rfl (teq (o32_hz.trans o29_hz.symm : z_32 = z_29)).2 k) ?_
      show Go _ _ _ _ _ _ _ (T32.setTop (mkF m 206 #[.val (.int fl), .val (.long qa), .second, .val (.long qb), .second, .val (.int vd), .val (.int (0 : Int32)), .val (.int vl), .val (.int (1 : Int32)), .val (.int vh), .val (.ref bl), .val .null, .val (.ref b1), .val (.ref b2), .val (.ref rg), .val (.int z_29), .val (.int (0 : Int32)), .val (.int z_32)] []))
      refine Go.step (fun t k => XS.iconst X32.here hx rfl (hb hby at_206) k) ?_
      show Go _ _ _ _ _ _ _ (T32.setTop (mkF m 207 #[.val (.int fl), .val (.long qa), .second, .val (.long qb), .second, .val (.int vd), .val (.int (0 : Int32)), .val (.int vl), .val (.int (1 : Int32)), .val (.int vh), .val (.ref bl), .val .null, .val (.ref b1), .val (.ref b2), .val (.ref rg), .val (.int z_29), .val (.int (0 : Int32)), .val (.int z_32)] [(.int (1 : Int32))]))
      refine Go.step (fun t k => XS.goto X32.here hx rfl (pc0 := 207) (pc' := 211) rfl (hb hby at_207) (by decide) (by decide) k) ?_
      show Go _ _ _ _ _ _ _ (T32.setTop (mkF m 211 #[.val (.int fl), .val (.long qa), .second, .val (.long qb), .second, .val (.int vd), .val (.int (0 : Int32)), .val (.int vl), .val (.int (1 : Int32)), .val (.int vh), .val (.ref bl), .val .null, .val (.ref b1), .val (.ref b2), .val (.ref rg), .val (.int z_29), .val (.int (0 : Int32)), .val (.int z_32)] [(.int (1 : Int32))]))
      refine Go.retN X32 Bd.notSynchronized hx (t := .boolean) Bd.returns (by simp) (hb hby at_211) (by decide) (by decide) (1 : Int32) rfl ?_
      rw [K32q]
      exact ⟨rfl, N32⟩
  · refine Go.step (fun t k => XS.ifNo X0.here hx rfl (hb hby at_16) rfl ((if0 _ _).trans (feq hc16_3).1) k) ?_
    show Go _ _ _ _ _ _ _ (s₁.setTop (mkF m 19 #[.val (.int fl), .val (.long qa), .second, .val (.long qb), .second, .val (.int vd), .unset, .unset, .unset, .unset, .unset, .unset, .unset, .unset, .unset, .unset, .unset, .unset] []))
    refine Go.step (fun t k => XS.iconst X0.here hx rfl (hb hby at_19) k) ?_
    show Go _ _ _ _ _ _ _ (s₁.setTop (mkF m 20 #[.val (.int fl), .val (.long qa), .second, .val (.long qb), .second, .val (.int vd), .unset, .unset, .unset, .unset, .unset, .unset, .unset, .unset, .unset, .unset, .unset, .unset] [(.int (1 : Int32))]))
    refine Go.step (fun t k => XS.goto X0.here hx rfl (pc0 := 20) (pc' := 24) rfl (hb hby at_20) (by decide) (by decide) k) ?_
    show Go _ _ _ _ _ _ _ (s₁.setTop (mkF m 24 #[.val (.int fl), .val (.long qa), .second, .val (.long qb), .second, .val (.int vd), .unset, .unset, .unset, .unset, .unset, .unset, .unset, .unset, .unset, .unset, .unset, .unset] [(.int (1 : Int32))]))
    refine Go.step (fun t k => XS.istore X0.here hx rfl (hb hby at_24) rfl (l' := #[.val (.int fl), .val (.long qa), .second, .val (.long qb), .second, .val (.int vd), .val (.int (1 : Int32)), .unset, .unset, .unset, .unset, .unset, .unset, .unset, .unset, .unset, .unset, .unset]) rfl k) ?_
    show Go _ _ _ _ _ _ _ (s₁.setTop (mkF m 26 #[.val (.int fl), .val (.long qa), .second, .val (.long qb), .second, .val (.int vd), .val (.int (1 : Int32)), .unset, .unset, .unset, .unset, .unset, .unset, .unset, .unset, .unset, .unset, .unset] []))
    refine Go.step (fun t k => XS.iloadN X0.here hx rfl (hb hby at_26) rfl k) ?_
    show Go _ _ _ _ _ _ _ (s₁.setTop (mkF m 27 #[.val (.int fl), .val (.long qa), .second, .val (.long qb), .second, .val (.int vd), .val (.int (1 : Int32)), .unset, .unset, .unset, .unset, .unset, .unset, .unset, .unset, .unset, .unset, .unset] [(.int fl)]))
    refine Go.step (fun t k => XS.iconst X0.here hx rfl (hb hby at_27) k) ?_
    show Go _ _ _ _ _ _ _ (s₁.setTop (mkF m 28 #[.val (.int fl), .val (.long qa), .second, .val (.long qb), .second, .val (.int vd), .val (.int (1 : Int32)), .unset, .unset, .unset, .unset, .unset, .unset, .unset, .unset, .unset, .unset, .unset] [(.int (4 : Int32)), (.int fl)]))
    refine Go.step (fun t k => XS.iand X0.here hx rfl (hb hby at_28) rfl k) ?_
    show Go _ _ _ _ _ _ _ (s₁.setTop (mkF m 29 #[.val (.int fl), .val (.long qa), .second, .val (.long qb), .second, .val (.int vd), .val (.int (1 : Int32)), .unset, .unset, .unset, .unset, .unset, .unset, .unset, .unset, .unset, .unset, .unset] [(.int (fl &&& (4 : Int32)))]))
    -- joined again at pc 37
    obtain ⟨vl, hvl⟩ : ∃ z : Int32, z = (if (fl &&& (4 : Int32)) = (0 : Int32) then (0 : Int32) else (1 : Int32)) := ⟨_, rfl⟩
    have st33 : ∀ t, Steps p.tables e below (s₁.setTop (mkF m 37 #[.val (.int fl), .val (.long qa), .second, .val (.long qb), .second, .val (.int vd), .val (.int (1 : Int32)), .unset, .unset, .unset, .unset, .unset, .unset, .unset, .unset, .unset, .unset, .unset] [(.int vl)])) t → Steps p.tables e below (s₁.setTop (mkF m 29 #[.val (.int fl), .val (.long qa), .second, .val (.long qb), .second, .val (.int vd), .val (.int (1 : Int32)), .unset, .unset, .unset, .unset, .unset, .unset, .unset, .unset, .unset, .unset, .unset] [(.int (fl &&& (4 : Int32)))])) t := by
      intro t kt
      by_cases hd29_34 : (fl &&& (4 : Int32)) = (0 : Int32)
      · refine XS.ifYes X0.here hx rfl (pc0 := 29) (pc' := 36) rfl (hb hby at_29) rfl ((if0 _ _).trans (teq hd29_34).1) (by decide) (by decide) ?_
        show Steps p.tables e below (s₁.setTop (mkF m 36 #[.val (.int fl), .val (.long qa), .second, .val (.long qb), .second, .val (.int vd), .val (.int (1 : Int32)), .unset, .unset, .unset, .unset, .unset, .unset, .unset, .unset, .unset, .unset, .unset] [])) _
        refine XS.iconst X0.here hx rfl (hb hby at_36) ?_
        show Steps p.tables e below (s₁.setTop (mkF m 37 #[.val (.int fl), .val (.long qa), .second, .val (.long qb), .second, .val (.int vd), .val (.int (1 : Int32)), .unset, .unset, .unset, .unset, .unset, .unset, .unset, .unset, .unset, .unset, .unset] [(.int (0 : Int32))])) _
        have qvl : vl = (0 : Int32) := by rw [hvl]; simp only [if_pos hd29_34]
        rw [qvl] at kt
        exact kt
      · refine XS.ifNo X0.here hx rfl (hb hby at_29) rfl ((if0 _ _).trans (feq hd29_34).1) ?_
        show Steps p.tables e below (s₁.setTop (mkF m 32 #[.val (.int fl), .val (.long qa), .second, .val (.long qb), .second, .val (.int vd), .val (.int (1 : Int32)), .unset, .unset, .unset, .unset, .unset, .unset, .unset, .unset, .unset, .unset, .unset] [])) _
        refine XS.iconst X0.here hx rfl (hb hby at_32) ?_
        show Steps p.tables e below (s₁.setTop (mkF m 33 #[.val (.int fl), .val (.long qa), .second, .val (.long qb), .second, .val (.int vd), .val (.int (1 : Int32)), .unset, .unset, .unset, .unset, .unset, .unset, .unset, .unset, .unset, .unset, .unset] [(.int (1 : Int32))])) _
        refine XS.goto X0.here hx rfl (pc0 := 33) (pc' := 37) rfl (hb hby at_33) (by decide) (by decide) ?_
        show Steps p.tables e below (s₁.setTop (mkF m 37 #[.val (.int fl), .val (.long qa), .second, .val (.long qb), .second, .val (.int vd), .val (.int (1 : Int32)), .unset, .unset, .unset, .unset, .unset, .unset, .unset, .unset, .unset, .unset, .unset] [(.int (1 : Int32))])) _
        have qvl : vl = (1 : Int32) := by rw [hvl]; simp only [if_neg hd29_34]
        rw [qvl] at kt
        exact kt
    refine Go.step st33 ?_
    show Go _ _ _ _ _ _ _ (s₁.setTop (mkF m 37 #[.val (.int fl), .val (.long qa), .second, .val (.long qb), .second, .val (.int vd), .val (.int (1 : Int32)), .unset, .unset, .unset, .unset, .unset, .unset, .unset, .unset, .unset, .unset, .unset] [(.int vl)]))
    refine Go.step (fun t k => XS.istore X0.here hx rfl (hb hby at_37) rfl (l' := #[.val (.int fl), .val (.long qa), .second, .val (.long qb), .second, .val (.int vd), .val (.int (1 : Int32)), .val (.int vl), .unset, .unset, .unset, .unset, .unset, .unset, .unset, .unset, .unset, .unset]) rfl k) ?_
    show Go _ _ _ _ _ _ _ (s₁.setTop (mkF m 39 #[.val (.int fl), .val (.long qa), .second, .val (.long qb), .second, .val (.int vd), .val (.int (1 : Int32)), .val (.int vl), .unset, .unset, .unset, .unset, .unset, .unset, .unset, .unset, .unset, .unset] []))
    refine Go.step (fun t k => XS.iloadN X0.here hx rfl (hb hby at_39) rfl k) ?_
    show Go _ _ _ _ _ _ _ (s₁.setTop (mkF m 40 #[.val (.int fl), .val (.long qa), .second, .val (.long qb), .second, .val (.int vd), .val (.int (1 : Int32)), .val (.int vl), .unset, .unset, .unset, .unset, .unset, .unset, .unset, .unset, .unset, .unset] [(.int fl)]))
    refine Go.step (fun t k => XS.bipush X0.here hx rfl (hb hby at_40) k) ?_
    show Go _ _ _ _ _ _ _ (s₁.setTop (mkF m 42 #[.val (.int fl), .val (.long qa), .second, .val (.long qb), .second, .val (.int vd), .val (.int (1 : Int32)), .val (.int vl), .unset, .unset, .unset, .unset, .unset, .unset, .unset, .unset, .unset, .unset] [(.int (8 : Int32)), (.int fl)]))
    refine Go.step (fun t k => XS.iand X0.here hx rfl (hb hby at_42) rfl k) ?_
    show Go _ _ _ _ _ _ _ (s₁.setTop (mkF m 43 #[.val (.int fl), .val (.long qa), .second, .val (.long qb), .second, .val (.int vd), .val (.int (1 : Int32)), .val (.int vl), .unset, .unset, .unset, .unset, .unset, .unset, .unset, .unset, .unset, .unset] [(.int (fl &&& (8 : Int32)))]))
    by_cases hc43_35 : (fl &&& (8 : Int32)) = (0 : Int32)
    · refine Go.step (fun t k => XS.ifYes X0.here hx rfl (pc0 := 43) (pc' := 50) rfl (hb hby at_43) rfl ((if0 _ _).trans (teq hc43_35).1) (by decide) (by decide) k) ?_
      show Go _ _ _ _ _ _ _ (s₁.setTop (mkF m 50 #[.val (.int fl), .val (.long qa), .second, .val (.long qb), .second, .val (.int vd), .val (.int (1 : Int32)), .val (.int vl), .unset, .unset, .unset, .unset, .unset, .unset, .unset, .unset, .unset, .unset] []))
      refine Go.step (fun t k => XS.iconst X0.here hx rfl (hb hby at_50) k) ?_
      show Go _ _ _ _ _ _ _ (s₁.setTop (mkF m 51 #[.val (.int fl), .val (.long qa), .second, .val (.long qb), .second, .val (.int vd), .val (.int (1 : Int32)), .val (.int vl), .unset, .unset, .unset, .unset, .unset, .unset, .unset, .unset, .unset, .unset] [(.int (0 : Int32))]))
      refine Go.step (fun t k => XS.istore X0.here hx rfl (hb hby at_51) rfl (l' := #[.val (.int fl), .val (.long qa), .second, .val (.long qb), .second, .val (.int vd), .val (.int (1 : Int32)), .val (.int vl), .val (.int (0 : Int32)), .unset, .unset, .unset, .unset, .unset, .unset, .unset, .unset, .unset]) rfl k) ?_
      show Go _ _ _ _ _ _ _ (s₁.setTop (mkF m 53 #[.val (.int fl), .val (.long qa), .second, .val (.long qb), .second, .val (.int vd), .val (.int (1 : Int32)), .val (.int vl), .val (.int (0 : Int32)), .unset, .unset, .unset, .unset, .unset, .unset, .unset, .unset, .unset] []))
      refine Go.step (fun t k => XS.iloadN X0.here hx rfl (hb hby at_53) rfl k) ?_
      show Go _ _ _ _ _ _ _ (s₁.setTop (mkF m 54 #[.val (.int fl), .val (.long qa), .second, .val (.long qb), .second, .val (.int vd), .val (.int (1 : Int32)), .val (.int vl), .val (.int (0 : Int32)), .unset, .unset, .unset, .unset, .unset, .unset, .unset, .unset, .unset] [(.int fl)]))
      refine Go.step (fun t k => XS.bipush X0.here hx rfl (hb hby at_54) k) ?_
      show Go _ _ _ _ _ _ _ (s₁.setTop (mkF m 56 #[.val (.int fl), .val (.long qa), .second, .val (.long qb), .second, .val (.int vd), .val (.int (1 : Int32)), .val (.int vl), .val (.int (0 : Int32)), .unset, .unset, .unset, .unset, .unset, .unset, .unset, .unset, .unset] [(.int (16 : Int32)), (.int fl)]))
      refine Go.step (fun t k => XS.iand X0.here hx rfl (hb hby at_56) rfl k) ?_
      show Go _ _ _ _ _ _ _ (s₁.setTop (mkF m 57 #[.val (.int fl), .val (.long qa), .second, .val (.long qb), .second, .val (.int vd), .val (.int (1 : Int32)), .val (.int vl), .val (.int (0 : Int32)), .unset, .unset, .unset, .unset, .unset, .unset, .unset, .unset, .unset] [(.int (fl &&& (16 : Int32)))]))
      -- joined again at pc 65
      obtain ⟨vh, hvh⟩ : ∃ z : Int32, z = (if (fl &&& (16 : Int32)) = (0 : Int32) then (0 : Int32) else (1 : Int32)) := ⟨_, rfl⟩
      have st36 : ∀ t, Steps p.tables e below (s₁.setTop (mkF m 65 #[.val (.int fl), .val (.long qa), .second, .val (.long qb), .second, .val (.int vd), .val (.int (1 : Int32)), .val (.int vl), .val (.int (0 : Int32)), .unset, .unset, .unset, .unset, .unset, .unset, .unset, .unset, .unset] [(.int vh)])) t → Steps p.tables e below (s₁.setTop (mkF m 57 #[.val (.int fl), .val (.long qa), .second, .val (.long qb), .second, .val (.int vd), .val (.int (1 : Int32)), .val (.int vl), .val (.int (0 : Int32)), .unset, .unset, .unset, .unset, .unset, .unset, .unset, .unset, .unset] [(.int (fl &&& (16 : Int32)))])) t := by
        intro t kt
        by_cases hd57_37 : (fl &&& (16 : Int32)) = (0 : Int32)
        · refine XS.ifYes X0.here hx rfl (pc0 := 57) (pc' := 64) rfl (hb hby at_57) rfl ((if0 _ _).trans (teq hd57_37).1) (by decide) (by decide) ?_
          show Steps p.tables e below (s₁.setTop (mkF m 64 #[.val (.int fl), .val (.long qa), .second, .val (.long qb), .second, .val (.int vd), .val (.int (1 : Int32)), .val (.int vl), .val (.int (0 : Int32)), .unset, .unset, .unset, .unset, .unset, .unset, .unset, .unset, .unset] [])) _
          refine XS.iconst X0.here hx rfl (hb hby at_64) ?_
          show Steps p.tables e below (s₁.setTop (mkF m 65 #[.val (.int fl), .val (.long qa), .second, .val (.long qb), .second, .val (.int vd), .val (.int (1 : Int32)), .val (.int vl), .val (.int (0 : Int32)), .unset, .unset, .unset, .unset, .unset, .unset, .unset, .unset, .unset] [(.int (0 : Int32))])) _
          have qvh : vh = (0 : Int32) := by rw [hvh]; simp only [if_pos hd57_37]
          rw [qvh] at kt
          exact kt
        · refine XS.ifNo X0.here hx rfl (hb hby at_57) rfl ((if0 _ _).trans (feq hd57_37).1) ?_
          show Steps p.tables e below (s₁.setTop (mkF m 60 #[.val (.int fl), .val (.long qa), .second, .val (.long qb), .second, .val (.int vd), .val (.int (1 : Int32)), .val (.int vl), .val (.int (0 : Int32)), .unset, .unset, .unset, .unset, .unset, .unset, .unset, .unset, .unset] [])) _
          refine XS.iconst X0.here hx rfl (hb hby at_60) ?_
          show Steps p.tables e below (s₁.setTop (mkF m 61 #[.val (.int fl), .val (.long qa), .second, .val (.long qb), .second, .val (.int vd), .val (.int (1 : Int32)), .val (.int vl), .val (.int (0 : Int32)), .unset, .unset, .unset, .unset, .unset, .unset, .unset, .unset, .unset] [(.int (1 : Int32))])) _
          refine XS.goto X0.here hx rfl (pc0 := 61) (pc' := 65) rfl (hb hby at_61) (by decide) (by decide) ?_
          show Steps p.tables e below (s₁.setTop (mkF m 65 #[.val (.int fl), .val (.long qa), .second, .val (.long qb), .second, .val (.int vd), .val (.int (1 : Int32)), .val (.int vl), .val (.int (0 : Int32)), .unset, .unset, .unset, .unset, .unset, .unset, .unset, .unset, .unset] [(.int (1 : Int32))])) _
          have qvh : vh = (1 : Int32) := by rw [hvh]; simp only [if_neg hd57_37]
          rw [qvh] at kt
          exact kt
      refine Go.step st36 ?_
      show Go _ _ _ _ _ _ _ (s₁.setTop (mkF m 65 #[.val (.int fl), .val (.long qa), .second, .val (.long qb), .second, .val (.int vd), .val (.int (1 : Int32)), .val (.int vl), .val (.int (0 : Int32)), .unset, .unset, .unset, .unset, .unset, .unset, .unset, .unset, .unset] [(.int vh)]))
      refine Go.step (fun t k => XS.istore X0.here hx rfl (hb hby at_65) rfl (l' := #[.val (.int fl), .val (.long qa), .second, .val (.long qb), .second, .val (.int vd), .val (.int (1 : Int32)), .val (.int vl), .val (.int (0 : Int32)), .val (.int vh), .unset, .unset, .unset, .unset, .unset, .unset, .unset, .unset]) rfl k) ?_
      show Go _ _ _ _ _ _ _ (s₁.setTop (mkF m 67 #[.val (.int fl), .val (.long qa), .second, .val (.long qb), .second, .val (.int vd), .val (.int (1 : Int32)), .val (.int vl), .val (.int (0 : Int32)), .val (.int vh), .unset, .unset, .unset, .unset, .unset, .unset, .unset, .unset] []))
      refine Go.step (fun t k => XS.iload X0.here hx rfl (hb hby at_67) rfl k) ?_
      show Go _ _ _ _ _ _ _ (s₁.setTop (mkF m 69 #[.val (.int fl), .val (.long qa), .second, .val (.long qb), .second, .val (.int vd), .val (.int (1 : Int32)), .val (.int vl), .val (.int (0 : Int32)), .val (.int vh), .unset, .unset, .unset, .unset, .unset, .unset, .unset, .unset] [(.int (1 : Int32))]))
      refine Go.step (fun t k => XS.ifNo X0.here hx rfl (hb hby at_69) rfl ((if0 _ _).trans (feq (by decide : ¬ (1 : Int32) = (0 : Int32))).1) k) ?_
      show Go _ _ _ _ _ _ _ (s₁.setTop (mkF m 72 #[.val (.int fl), .val (.long qa), .second, .val (.long qb), .second, .val (.int vd), .val (.int (1 : Int32)), .val (.int vl), .val (.int (0 : Int32)), .val (.int vh), .unset, .unset, .unset, .unset, .unset, .unset, .unset, .unset] []))
      refine Go.step (fun t k => XS.aconstNull X0.here hx rfl (hb hby at_72) k) ?_
      show Go _ _ _ _ _ _ _ (s₁.setTop (mkF m 73 #[.val (.int fl), .val (.long qa), .second, .val (.long qb), .second, .val (.int vd), .val (.int (1 : Int32)), .val (.int vl), .val (.int (0 : Int32)), .val (.int vh), .unset, .unset, .unset, .unset, .unset, .unset, .unset, .unset] [.null]))
      refine Go.step (fun t k => XS.goto X0.here hx rfl (pc0 := 73) (pc' := 86) rfl (hb hby at_73) (by decide) (by decide) k) ?_
      show Go _ _ _ _ _ _ _ (s₁.setTop (mkF m 86 #[.val (.int fl), .val (.long qa), .second, .val (.long qb), .second, .val (.int vd), .val (.int (1 : Int32)), .val (.int vl), .val (.int (0 : Int32)), .val (.int vh), .unset, .unset, .unset, .unset, .unset, .unset, .unset, .unset] [.null]))
      refine Go.step (fun t k => XS.astore X0.here hx rfl (hb hby at_86) rfl rfl (l' := #[.val (.int fl), .val (.long qa), .second, .val (.long qb), .second, .val (.int vd), .val (.int (1 : Int32)), .val (.int vl), .val (.int (0 : Int32)), .val (.int vh), .val .null, .unset, .unset, .unset, .unset, .unset, .unset, .unset]) rfl k) ?_
      show Go _ _ _ _ _ _ _ (s₁.setTop (mkF m 88 #[.val (.int fl), .val (.long qa), .second, .val (.long qb), .second, .val (.int vd), .val (.int (1 : Int32)), .val (.int vl), .val (.int (0 : Int32)), .val (.int vh), .val .null, .unset, .unset, .unset, .unset, .unset, .unset, .unset] []))
      refine Go.step (fun t k => XS.iload X0.here hx rfl (hb hby at_88) rfl k) ?_
      show Go _ _ _ _ _ _ _ (s₁.setTop (mkF m 90 #[.val (.int fl), .val (.long qa), .second, .val (.long qb), .second, .val (.int vd), .val (.int (1 : Int32)), .val (.int vl), .val (.int (0 : Int32)), .val (.int vh), .val .null, .unset, .unset, .unset, .unset, .unset, .unset, .unset] [(.int (0 : Int32))]))
      refine Go.step (fun t k => XS.ifYes X0.here hx rfl (pc0 := 90) (pc' := 97) rfl (hb hby at_90) rfl ((if0 _ _).trans (teq (by decide : (0 : Int32) = (0 : Int32))).1) (by decide) (by decide) k) ?_
      show Go _ _ _ _ _ _ _ (s₁.setTop (mkF m 97 #[.val (.int fl), .val (.long qa), .second, .val (.long qb), .second, .val (.int vd), .val (.int (1 : Int32)), .val (.int vl), .val (.int (0 : Int32)), .val (.int vh), .val .null, .unset, .unset, .unset, .unset, .unset, .unset, .unset] []))
      refine Go.step (fun t k => XS.lloadN X0.here hx rfl (hb hby at_97) rfl k) ?_
      show Go _ _ _ _ _ _ _ (s₁.setTop (mkF m 98 #[.val (.int fl), .val (.long qa), .second, .val (.long qb), .second, .val (.int vd), .val (.int (1 : Int32)), .val (.int vl), .val (.int (0 : Int32)), .val (.int vh), .val .null, .unset, .unset, .unset, .unset, .unset, .unset, .unset] [(.long qb)]))
      refine Go.step (fun t k => X0.ldc2Long hx hown (mvT hZ (hw _ (List.mem_of_getElem? (i := 13) rfl))) (g := (mkF m 98 #[.val (.int fl), .val (.long qa), .second, .val (.long qb), .second, .val (.int vd), .val (.int (1 : Int32)), .val (.int vl), .val (.int (0 : Int32)), .val (.int vh), .val .null, .unset, .unset, .unset, .unset, .unset, .unset, .unset] [(.long qb)])) rfl (hb hby at_98) _ k) ?_
      show Go _ _ _ _ _ _ _ (s₁.setTop (mkF m 101 #[.val (.int fl), .val (.long qa), .second, .val (.long qb), .second, .val (.int vd), .val (.int (1 : Int32)), .val (.int vl), .val (.int (0 : Int32)), .val (.int vh), .val .null, .unset, .unset, .unset, .unset, .unset, .unset, .unset] [(.long (9223372036854775806 : Int64)), (.long qb)]))
      obtain ⟨_, _, ⟨T38, L38, k38, n38⟩, -, X38, ⟨Lc38, hQ38, l38, y38, z38⟩, st38⟩ := Jvm.LawKit.callS X0 hx (y := (⟨"java/lang/Math", "min", "(JJ)J"⟩ : MethodName)) hown (mvT hZ (hw _ (List.mem_of_getElem? (i := 14) rfl))) (mvT hZ (hw _ (List.mem_of_getElem? (i := 15) rfl))) (mvT hZ (hw _ (List.mem_of_getElem? (i := 3) rfl))) (mvT hZ (hw _ (List.mem_of_getElem? (i := 16) rfl))) (by decide) (backOf (W := 0) (rm3 l Z a0 hw [] qb (9223372036854775806 : Int64) h0 n0 Z0) hZ (hw _ (List.mem_of_getElem? (i := 16) rfl)) (hw _ (List.mem_of_getElem? (i := 3) rfl)) (by decide) (by decide)) (g := (mkF m 101 #[.val (.int fl), .val (.long qa), .second, .val (.long qb), .second, .val (.int vd), .val (.int (1 : Int32)), .val (.int vl), .val (.int (0 : Int32)), .val (.int vh), .val .null, .unset, .unset, .unset, .unset, .unset, .unset, .unset] [(.long (9223372036854775806 : Int64)), (.long qb)])) rfl (by rw [hml]; rfl) (argsL := [(.long qb), (.long (9223372036854775806 : Int64))]) (rest := []) (lenOf pd_0_0 rfl) rfl (by show 2 * 0 + _ ≤ _; exact Nat.le_of_eq rfl) (hb hby at_101) (fun _ _ => ⟨rfl, e0, (by decide : 0 + 0 ≤ _), (by decide : 0 + 0 ≤ _)⟩)
      dsimp only [Pt.U, Pt.locs, Pt.cells, Pt.slots] at X38 l38 y38 z38 st38 hQ38
      subst l38 y38 z38
      obtain ⟨mh, rfl, N38q, K38q, o38_hz⟩ := hQ38
      have N38 := Fr.app N0 N38q
      refine Go.step st38 ?_
      show Go _ _ _ _ _ _ _ (T38.setTop (mkF m 104 #[.val (.int fl), .val (.long qa), .second, .val (.long qb), .second, .val (.int vd), .val (.int (1 : Int32)), .val (.int vl), .val (.int (0 : Int32)), .val (.int vh), .val .null, .unset, .unset, .unset, .unset, .unset, .unset, .unset] [(.long mh)]))
      obtain ⟨_, _, ⟨T39, L39, k39, n39⟩, -, X39, ⟨Lc39, hQ39, l39, y39, z39⟩, st39⟩ := Jvm.LawKit.callS X38 hx (y := (⟨"java/lang/Long", "valueOf", "(J)Ljava/lang/Long;"⟩ : MethodName)) hown (mvT hZ (hw _ (List.mem_of_getElem? (i := 5) rfl))) (mvT hZ (hw _ (List.mem_of_getElem? (i := 6) rfl))) (mvT hZ (hw _ (List.mem_of_getElem? (i := 7) rfl))) (mvT hZ (hw _ (List.mem_of_getElem? (i := 8) rfl))) (by decide) (backOf (W := 0) (rm2 l Z a0 hw [] mh ca h0 n0 Z0 old hsta hca) hZ (hw _ (List.mem_of_getElem? (i := 8) rfl)) (hw _ (List.mem_of_getElem? (i := 7) rfl)) (by decide) (by decide)) (g := (mkF m 104 #[.val (.int fl), .val (.long qa), .second, .val (.long qb), .second, .val (.int vd), .val (.int (1 : Int32)), .val (.int vl), .val (.int (0 : Int32)), .val (.int vh), .val .null, .unset, .unset, .unset, .unset, .unset, .unset, .unset] [(.long mh)])) rfl (by rw [hml]; rfl) (argsL := [(.long mh)]) (rest := []) (lenOf pd_0_1 rfl) rfl (by show 2 * 0 + _ ≤ _; exact Nat.le_of_eq rfl) (hb hby at_104) (fun _ _ => ⟨rfl, K38q, (by decide : 0 + 1 ≤ _), (by decide : 0 + 1 ≤ _)⟩)
      dsimp only [Pt.U, Pt.locs, Pt.cells, Pt.slots] at X39 l39 y39 z39 st39 hQ39
      subst l39 y39 z39
      obtain ⟨bh, rfl, N39q, K39q, o39_E_bh, o39_F_value_bh⟩ := hQ39
      have N39 := Fr.app N38 N39q
      replace old := Old.keep old K39q all0
      have Z39 := Nat.le_trans Z0 K39q.1
      have E_bh := o39_E_bh
      have F_value_bh := o39_F_value_bh
      refine Go.step st39 ?_
      show Go _ _ _ _ _ _ _ (T39.setTop (mkF m 107 #[.val (.int fl), .val (.long qa), .second, .val (.long qb), .second, .val (.int vd), .val (.int (1 : Int32)), .val (.int vl), .val (.int (0 : Int32)), .val (.int vh), .val .null, .unset, .unset, .unset, .unset, .unset, .unset, .unset] [(.ref bh)]))
      refine Go.step (fun t k => XS.astore X39.here hx rfl (hb hby at_107) rfl rfl (l' := #[.val (.int fl), .val (.long qa), .second, .val (.long qb), .second, .val (.int vd), .val (.int (1 : Int32)), .val (.int vl), .val (.int (0 : Int32)), .val (.int vh), .val .null, .val (.ref bh), .unset, .unset, .unset, .unset, .unset, .unset]) rfl k) ?_
      show Go _ _ _ _ _ _ _ (T39.setTop (mkF m 109 #[.val (.int fl), .val (.long qa), .second, .val (.long qb), .second, .val (.int vd), .val (.int (1 : Int32)), .val (.int vl), .val (.int (0 : Int32)), .val (.int vh), .val .null, .val (.ref bh), .unset, .unset, .unset, .unset, .unset, .unset] []))
      refine Go.step (fun t k => X39.ldc2Long hx hown (mvT hZ (hw _ (List.mem_of_getElem? (i := 34) rfl))) (g := (mkF m 109 #[.val (.int fl), .val (.long qa), .second, .val (.long qb), .second, .val (.int vd), .val (.int (1 : Int32)), .val (.int vl), .val (.int (0 : Int32)), .val (.int vh), .val .null, .val (.ref bh), .unset, .unset, .unset, .unset, .unset, .unset] [])) rfl (hb hby at_109) _ k) ?_
      show Go _ _ _ _ _ _ _ (T39.setTop (mkF m 112 #[.val (.int fl), .val (.long qa), .second, .val (.long qb), .second, .val (.int vd), .val (.int (1 : Int32)), .val (.int vl), .val (.int (0 : Int32)), .val (.int vh), .val .null, .val (.ref bh), .unset, .unset, .unset, .unset, .unset, .unset] [(.long (-9223372036854775808 : Int64))]))
      obtain ⟨_, _, ⟨T40, L40, k40, n40⟩, -, X40, ⟨Lc40, hQ40, l40, y40, z40⟩, st40⟩ := Jvm.LawKit.callS X39 hx (y := (⟨"java/lang/Long", "valueOf", "(J)Ljava/lang/Long;"⟩ : MethodName)) hown (mvT hZ (hw _ (List.mem_of_getElem? (i := 5) rfl))) (mvT hZ (hw _ (List.mem_of_getElem? (i := 6) rfl))) (mvT hZ (hw _ (List.mem_of_getElem? (i := 7) rfl))) (mvT hZ (hw _ (List.mem_of_getElem? (i := 8) rfl))) (by decide) (backOf (W := 0) (rm2 l Z a0 hw [] (-9223372036854775808 : Int64) ca T39.heap n0 Z39 old hsta hca) hZ (hw _ (List.mem_of_getElem? (i := 8) rfl)) (hw _ (List.mem_of_getElem? (i := 7) rfl)) (by decide) (by decide)) (g := (mkF m 112 #[.val (.int fl), .val (.long qa), .second, .val (.long qb), .second, .val (.int vd), .val (.int (1 : Int32)), .val (.int vl), .val (.int (0 : Int32)), .val (.int vh), .val .null, .val (.ref bh), .unset, .unset, .unset, .unset, .unset, .unset] [(.long (-9223372036854775808 : Int64))])) rfl (by rw [hml]; rfl) (argsL := [(.long (-9223372036854775808 : Int64))]) (rest := []) (lenOf pd_0_1 rfl) rfl (by show 2 * 0 + _ ≤ _; exact Nat.le_of_eq rfl) (hb hby at_112) (fun _ _ => ⟨rfl, rfl, (by decide : 1 + 1 ≤ _), (by decide : 1 + 1 ≤ _)⟩)
      dsimp only [Pt.U, Pt.locs, Pt.cells, Pt.slots] at X40 l40 y40 z40 st40 hQ40
      subst l40 y40 z40
      obtain ⟨b1, rfl, N40q, K40q, o40_E_b1, o40_F_value_b1⟩ := hQ40
      have N40 := Fr.app N39 N40q
      replace old := Old.keep old K40q all0
      replace E_bh := E_bh.keep K40q
      replace F_value_bh := F_value_bh.keep K40q nin0
      have Z40 := Nat.le_trans Z39 K40q.1
      have E_b1 := o40_E_b1
      have F_value_b1 := o40_F_value_b1
      refine Go.step st40 ?_
      show Go _ _ _ _ _ _ _ (T40.setTop (mkF m 115 #[.val (.int fl), .val (.long qa), .second, .val (.long qb), .second, .val (.int vd), .val (.int (1 : Int32)), .val (.int vl), .val (.int (0 : Int32)), .val (.int vh), .val .null, .val (.ref bh), .unset, .unset, .unset, .unset, .unset, .unset] [(.ref b1)]))
      refine Go.step (fun t k => XS.astore X40.here hx rfl (hb hby at_115) rfl rfl (l' := #[.val (.int fl), .val (.long qa), .second, .val (.long qb), .second, .val (.int vd), .val (.int (1 : Int32)), .val (.int vl), .val (.int (0 : Int32)), .val (.int vh), .val .null, .val (.ref bh), .val (.ref b1), .unset, .unset, .unset, .unset, .unset]) rfl k) ?_
      show Go _ _ _ _ _ _ _ (T40.setTop (mkF m 117 #[.val (.int fl), .val (.long qa), .second, .val (.long qb), .second, .val (.int vd), .val (.int (1 : Int32)), .val (.int vl), .val (.int (0 : Int32)), .val (.int vh), .val .null, .val (.ref bh), .val (.ref b1), .unset, .unset, .unset, .unset, .unset] []))
      refine Go.step (fun t k => X40.ldc2Long hx hown (mvT hZ (hw _ (List.mem_of_getElem? (i := 35) rfl))) (g := (mkF m 117 #[.val (.int fl), .val (.long qa), .second, .val (.long qb), .second, .val (.int vd), .val (.int (1 : Int32)), .val (.int vl), .val (.int (0 : Int32)), .val (.int vh), .val .null, .val (.ref bh), .val (.ref b1), .unset, .unset, .unset, .unset, .unset] [])) rfl (hb hby at_117) _ k) ?_
      show Go _ _ _ _ _ _ _ (T40.setTop (mkF m 120 #[.val (.int fl), .val (.long qa), .second, .val (.long qb), .second, .val (.int vd), .val (.int (1 : Int32)), .val (.int vl), .val (.int (0 : Int32)), .val (.int vh), .val .null, .val (.ref bh), .val (.ref b1), .unset, .unset, .unset, .unset, .unset] [(.long (9223372036854775807 : Int64))]))
      obtain ⟨_, _, ⟨T41, L41, k41, n41⟩, -, X41, ⟨Lc41, hQ41, l41, y41, z41⟩, st41⟩ := Jvm.LawKit.callS X40 hx (y := (⟨"java/lang/Long", "valueOf", "(J)Ljava/lang/Long;"⟩ : MethodName)) hown (mvT hZ (hw _ (List.mem_of_getElem? (i := 5) rfl))) (mvT hZ (hw _ (List.mem_of_getElem? (i := 6) rfl))) (mvT hZ (hw _ (List.mem_of_getElem? (i := 7) rfl))) (mvT hZ (hw _ (List.mem_of_getElem? (i := 8) rfl))) (by decide) (backOf (W := 0) (rm2 l Z a0 hw [] (9223372036854775807 : Int64) ca T40.heap n0 Z40 old hsta hca) hZ (hw _ (List.mem_of_getElem? (i := 8) rfl)) (hw _ (List.mem_of_getElem? (i := 7) rfl)) (by decide) (by decide)) (g := (mkF m 120 #[.val (.int fl), .val (.long qa), .second, .val (.long qb), .second, .val (.int vd), .val (.int (1 : Int32)), .val (.int vl), .val (.int (0 : Int32)), .val (.int vh), .val .null, .val (.ref bh), .val (.ref b1), .unset, .unset, .unset, .unset, .unset] [(.long (9223372036854775807 : Int64))])) rfl (by rw [hml]; rfl) (argsL := [(.long (9223372036854775807 : Int64))]) (rest := []) (lenOf pd_0_1 rfl) rfl (by show 2 * 0 + _ ≤ _; exact Nat.le_of_eq rfl) (hb hby at_120) (fun _ _ => ⟨rfl, rfl, (by decide : 2 + 1 ≤ _), (by decide : 2 + 1 ≤ _)⟩)
      dsimp only [Pt.U, Pt.locs, Pt.cells, Pt.slots] at X41 l41 y41 z41 st41 hQ41
      subst l41 y41 z41
      obtain ⟨b2, rfl, N41q, K41q, o41_E_b2, o41_F_value_b2⟩ := hQ41
      have N41 := Fr.app N40 N41q
      replace old := Old.keep old K41q all0
      replace E_bh := E_bh.keep K41q
      replace F_value_bh := F_value_bh.keep K41q nin0
      replace E_b1 := E_b1.keep K41q
      replace F_value_b1 := F_value_b1.keep K41q nin0
      have Z41 := Nat.le_trans Z40 K41q.1
      have E_b2 := o41_E_b2
      have F_value_b2 := o41_F_value_b2
      refine Go.step st41 ?_
      show Go _ _ _ _ _ _ _ (T41.setTop (mkF m 123 #[.val (.int fl), .val (.long qa), .second, .val (.long qb), .second, .val (.int vd), .val (.int (1 : Int32)), .val (.int vl), .val (.int (0 : Int32)), .val (.int vh), .val .null, .val (.ref bh), .val (.ref b1), .unset, .unset, .unset, .unset, .unset] [(.ref b2)]))
      refine Go.step (fun t k => XS.astore X41.here hx rfl (hb hby at_123) rfl rfl (l' := #[.val (.int fl), .val (.long qa), .second, .val (.long qb), .second, .val (.int vd), .val (.int (1 : Int32)), .val (.int vl), .val (.int (0 : Int32)), .val (.int vh), .val .null, .val (.ref bh), .val (.ref b1), .val (.ref b2), .unset, .unset, .unset, .unset]) rfl k) ?_
      show Go _ _ _ _ _ _ _ (T41.setTop (mkF m 125 #[.val (.int fl), .val (.long qa), .second, .val (.long qb), .second, .val (.int vd), .val (.int (1 : Int32)), .val (.int vl), .val (.int (0 : Int32)), .val (.int vh), .val .null, .val (.ref bh), .val (.ref b1), .val (.ref b2), .unset, .unset, .unset, .unset] []))
      obtain ⟨T42, h42, X42, e42, E42, A42, D42, -, st42⟩ := newO X41 hx hZ hown (hw _ (List.mem_of_getElem? (i := 36) rfl)) (hw _ (List.mem_of_getElem? (i := 37) rfl)) (hw _ (List.mem_of_getElem? (i := 38) rfl)) rfl (g := (mkF m 125 #[.val (.int fl), .val (.long qa), .second, .val (.long qb), .second, .val (.int vd), .val (.int (1 : Int32)), .val (.int vl), .val (.int (0 : Int32)), .val (.int vh), .val .null, .val (.ref bh), .val (.ref b1), .val (.ref b2), .unset, .unset, .unset, .unset] [])) rfl (hb hby at_125) (by decide) (by decide)
      obtain ⟨rg, gz42⟩ : ∃ z, z = T41.heap.size := ⟨_, rfl⟩
      have ne_bh_rg : bh ≠ rg := Nat.ne_of_lt (Nat.lt_of_lt_of_le E_bh.lt (Nat.le_of_eq gz42.symm))
      have ne_b1_rg : b1 ≠ rg := Nat.ne_of_lt (Nat.lt_of_lt_of_le E_b1.lt (Nat.le_of_eq gz42.symm))
      have ne_b2_rg : b2 ≠ rg := Nat.ne_of_lt (Nat.lt_of_lt_of_le E_b2.lt (Nat.le_of_eq gz42.symm))
      have g_rg : n0 ≤ rg := Nat.le_trans Z41 (Nat.le_of_eq gz42.symm)
      rw [← gz42] at A42 D42 st42
      replace old := Old.ext old E42
      replace E_bh := E_bh.ext E42
      replace F_value_bh := F_value_bh.ext E42
      replace E_b1 := E_b1.ext E42
      replace F_value_b1 := F_value_b1.ext E42
      replace E_b2 := E_b2.ext E42
      replace F_value_b2 := F_value_b2.ext E42
      have Z42 := Nat.le_trans Z41 E42.1
      have E_rg := A42
      have F_descending_rg : Fld Z h42 rg "com/example/rootkeep/rootkeep/KeyRange" "descending" "Z" (.int (0 : Int32)) := D42 (Or.inr (hw _ (List.mem_of_getElem? (i := 49) rfl))) (ty := .boolean) (by decide)
      have F_fromStart_rg : Fld Z h42 rg "com/example/rootkeep/rootkeep/KeyRange" "fromStart" "Z" (.int (0 : Int32)) := D42 (Or.inr (hw _ (List.mem_of_getElem? (i := 51) rfl))) (ty := .boolean) (by decide)
      have F_lo_rg : Fld Z h42 rg "com/example/rootkeep/rootkeep/KeyRange" "lo" "Ljava/lang/Object;" .null := D42 (Or.inr (hw _ (List.mem_of_getElem? (i := 53) rfl))) (ty := (.object "java/lang/Object")) (by decide)
      have F_loInclusive_rg : Fld Z h42 rg "com/example/rootkeep/rootkeep/KeyRange" "loInclusive" "Z" (.int (0 : Int32)) := D42 (Or.inr (hw _ (List.mem_of_getElem? (i := 55) rfl))) (ty := .boolean) (by decide)
      have F_toEnd_rg : Fld Z h42 rg "com/example/rootkeep/rootkeep/KeyRange" "toEnd" "Z" (.int (0 : Int32)) := D42 (Or.inr (hw _ (List.mem_of_getElem? (i := 57) rfl))) (ty := .boolean) (by decide)
      have F_hi_rg : Fld Z h42 rg "com/example/rootkeep/rootkeep/KeyRange" "hi" "Ljava/lang/Object;" .null := D42 (Or.inr (hw _ (List.mem_of_getElem? (i := 59) rfl))) (ty := (.object "java/lang/Object")) (by decide)
      have F_hiInclusive_rg : Fld Z h42 rg "com/example/rootkeep/rootkeep/KeyRange" "hiInclusive" "Z" (.int (0 : Int32)) := D42 (Or.inr (hw _ (List.mem_of_getElem? (i := 61) rfl))) (ty := .boolean) (by decide)
      refine Go.step st42 ?_
      show Go _ _ _ _ _ _ _ (T42.setTop (mkF m 128 #[.val (.int fl), .val (.long qa), .second, .val (.long qb), .second, .val (.int vd), .val (.int (1 : Int32)), .val (.int vl), .val (.int (0 : Int32)), .val (.int vh), .val .null, .val (.ref bh), .val (.ref b1), .val (.ref b2), .unset, .unset, .unset, .unset] [(.ref rg)]))
      refine Go.step (fun t k => XS.dup X42.here hx rfl (hb hby at_128) rfl rfl k) ?_
      show Go _ _ _ _ _ _ _ (T42.setTop (mkF m 129 #[.val (.int fl), .val (.long qa), .second, .val (.long qb), .second, .val (.int vd), .val (.int (1 : Int32)), .val (.int vl), .val (.int (0 : Int32)), .val (.int vh), .val .null, .val (.ref bh), .val (.ref b1), .val (.ref b2), .unset, .unset, .unset, .unset] [(.ref rg), (.ref rg)]))
      refine Go.step (fun t k => XS.iload X42.here hx rfl (hb hby at_129) rfl k) ?_
      show Go _ _ _ _ _ _ _ (T42.setTop (mkF m 131 #[.val (.int fl), .val (.long qa), .second, .val (.long qb), .second, .val (.int vd), .val (.int (1 : Int32)), .val (.int vl), .val (.int (0 : Int32)), .val (.int vh), .val .null, .val (.ref bh), .val (.ref b1), .val (.ref b2), .unset, .unset, .unset, .unset] [(.int vd), (.ref rg), (.ref rg)]))
      refine Go.step (fun t k => XS.iload X42.here hx rfl (hb hby at_131) rfl k) ?_
      show Go _ _ _ _ _ _ _ (T42.setTop (mkF m 133 #[.val (.int fl), .val (.long qa), .second, .val (.long qb), .second, .val (.int vd), .val (.int (1 : Int32)), .val (.int vl), .val (.int (0 : Int32)), .val (.int vh), .val .null, .val (.ref bh), .val (.ref b1), .val (.ref b2), .unset, .unset, .unset, .unset] [(.int (1 : Int32)), (.int vd), (.ref rg), (.ref rg)]))
      refine Go.step (fun t k => XS.aload X42.here hx rfl (hb hby at_133) rfl rfl k) ?_
      show Go _ _ _ _ _ _ _ (T42.setTop (mkF m 135 #[.val (.int fl), .val (.long qa), .second, .val (.long qb), .second, .val (.int vd), .val (.int (1 : Int32)), .val (.int vl), .val (.int (0 : Int32)), .val (.int vh), .val .null, .val (.ref bh), .val (.ref b1), .val (.ref b2), .unset, .unset, .unset, .unset] [.null, (.int (1 : Int32)), (.int vd), (.ref rg), (.ref rg)]))
      refine Go.step (fun t k => XS.iload X42.here hx rfl (hb hby at_135) rfl k) ?_
      show Go _ _ _ _ _ _ _ (T42.setTop (mkF m 137 #[.val (.int fl), .val (.long qa), .second, .val (.long qb), .second, .val (.int vd), .val (.int (1 : Int32)), .val (.int vl), .val (.int (0 : Int32)), .val (.int vh), .val .null, .val (.ref bh), .val (.ref b1), .val (.ref b2), .unset, .unset, .unset, .unset] [(.int vl), .null, (.int (1 : Int32)), (.int vd), (.ref rg), (.ref rg)]))
      refine Go.step (fun t k => XS.iload X42.here hx rfl (hb hby at_137) rfl k) ?_
      show Go _ _ _ _ _ _ _ (T42.setTop (mkF m 139 #[.val (.int fl), .val (.long qa), .second, .val (.long qb), .second, .val (.int vd), .val (.int (1 : Int32)), .val (.int vl), .val (.int (0 : Int32)), .val (.int vh), .val .null, .val (.ref bh), .val (.ref b1), .val (.ref b2), .unset, .unset, .unset, .unset] [(.int (0 : Int32)), (.int vl), .null, (.int (1 : Int32)), (.int vd), (.ref rg), (.ref rg)]))
      refine Go.step (fun t k => XS.aload X42.here hx rfl (hb hby at_139) rfl rfl k) ?_
      show Go _ _ _ _ _ _ _ (T42.setTop (mkF m 141 #[.val (.int fl), .val (.long qa), .second, .val (.long qb), .second, .val (.int vd), .val (.int (1 : Int32)), .val (.int vl), .val (.int (0 : Int32)), .val (.int vh), .val .null, .val (.ref bh), .val (.ref b1), .val (.ref b2), .unset, .unset, .unset, .unset] [(.ref bh), (.int (0 : Int32)), (.int vl), .null, (.int (1 : Int32)), (.int vd), (.ref rg), (.ref rg)]))
      refine Go.step (fun t k => XS.iload X42.here hx rfl (hb hby at_141) rfl k) ?_
      show Go _ _ _ _ _ _ _ (T42.setTop (mkF m 143 #[.val (.int fl), .val (.long qa), .second, .val (.long qb), .second, .val (.int vd), .val (.int (1 : Int32)), .val (.int vl), .val (.int (0 : Int32)), .val (.int vh), .val .null, .val (.ref bh), .val (.ref b1), .val (.ref b2), .unset, .unset, .unset, .unset] [(.int vh), (.ref bh), (.int (0 : Int32)), (.int vl), .null, (.int (1 : Int32)), (.int vd), (.ref rg), (.ref rg)]))
      obtain ⟨_, _, ⟨T43, L43, k43, n43⟩, -, X43, ⟨Lc43, hQ43, l43, y43, z43⟩, st43⟩ := X42.specialBack hx (y := (⟨"com/example/rootkeep/rootkeep/KeyRange", "<init>", "(ZZLjava/lang/Object;ZZLjava/lang/Object;Z)V"⟩ : MethodName)) rfl hown (mvT hZ (hw _ (List.mem_of_getElem? (i := 39) rfl))) (mvT hZ (hw _ (List.mem_of_getElem? (i := 40) rfl))) (mvT hZ (hw _ (List.mem_of_getElem? (i := 41) rfl))) (by decide) (backOf (W := 1) (rm7_10 l Z a0 hw [] rg vd (1 : Int32) vl (0 : Int32) bh vh h42 n0 Z42 F_descending_rg F_fromStart_rg F_lo_rg F_loInclusive_rg F_toEnd_rg F_hi_rg F_hiInclusive_rg E_rg g_rg (own_01 hvd) (Or.inr rfl) (own_01 hvl) (Or.inl rfl) (own_01 hvh)) hZ (hw _ (List.mem_of_getElem? (i := 41) rfl)) (hw _ (List.mem_of_getElem? (i := 38) rfl)) (by decide) (by decide)) (g := (mkF m 143 #[.val (.int fl), .val (.long qa), .second, .val (.long qb), .second, .val (.int vd), .val (.int (1 : Int32)), .val (.int vl), .val (.int (0 : Int32)), .val (.int vh), .val .null, .val (.ref bh), .val (.ref b1), .val (.ref b2), .unset, .unset, .unset, .unset] [(.int vh), (.ref bh), (.int (0 : Int32)), (.int vl), .null, (.int (1 : Int32)), (.int vd), (.ref rg), (.ref rg)])) rfl (by rw [hml]; rfl) (Steps.refl _) (a := rg) (argsL := [(.int vd), (.int (1 : Int32)), .null, (.int vl), (.int (0 : Int32)), (.ref bh), (.int vh)]) (rest := [(.ref rg)]) (lenOf pd_0_2 rfl) rfl (by show 2 * 0 + _ ≤ _; exact Nat.le_of_eq rfl) (hb hby at_143) (fun _ _ => ⟨rfl, e42, (by decide : 4 + 0 ≤ _), (by decide : 10 + 0 ≤ _)⟩)
      dsimp only [Pt.U, Pt.locs, Pt.cells, Pt.slots] at X43 l43 y43 z43 st43 hQ43
      subst l43 y43 z43
      obtain ⟨rfl, N43q, K43q, o43_F_descending_rg, o43_F_fromStart_rg, o43_F_lo_rg, o43_F_loInclusive_rg, o43_F_toEnd_rg, o43_F_hi_rg, o43_F_hiInclusive_rg⟩ := hQ43
      have N43 := Fr.app N41 N43q
      replace old := Old.keep old K43q (allS g_rg all0)
      replace E_bh := E_bh.keep K43q
      replace F_value_bh := F_value_bh.keep K43q (ninS ne_bh_rg nin0)
      replace E_b1 := E_b1.keep K43q
      replace F_value_b1 := F_value_b1.keep K43q (ninS ne_b1_rg nin0)
      replace E_b2 := E_b2.keep K43q
      replace F_value_b2 := F_value_b2.keep K43q (ninS ne_b2_rg nin0)
      replace E_rg := E_rg.keep K43q
      have Z43 := Nat.le_trans Z42 K43q.1
      have F_descending_rg := o43_F_descending_rg
      have F_fromStart_rg := o43_F_fromStart_rg
      have F_lo_rg := o43_F_lo_rg
      have F_loInclusive_rg := o43_F_loInclusive_rg
      have F_toEnd_rg := o43_F_toEnd_rg
      have F_hi_rg := o43_F_hi_rg
      have F_hiInclusive_rg := o43_F_hiInclusive_rg
      refine Go.step (fun t k => st43.trans k) ?_
      show Go _ _ _ _ _ _ _ (T43.setTop (mkF m 146 #[.val (.int fl), .val (.long qa), .second, .val (.long qb), .second, .val (.int vd), .val (.int (1 : Int32)), .val (.int vl), .val (.int (0 : Int32)), .val (.int vh), .val .null, .val (.ref bh), .val (.ref b1), .val (.ref b2), .unset, .unset, .unset, .unset] [(.ref rg)]))
      refine Go.step (fun t k => XS.astore X43.here hx rfl (hb hby at_146) rfl rfl (l' := #[.val (.int fl), .val (.long qa), .second, .val (.long qb), .second, .val (.int vd), .val (.int (1 : Int32)), .val (.int vl), .val (.int (0 : Int32)), .val (.int vh), .val .null, .val (.ref bh), .val (.ref b1), .val (.ref b2), .val (.ref rg), .unset, .unset, .unset]) rfl k) ?_
      show Go _ _ _ _ _ _ _ (T43.setTop (mkF m 148 #[.val (.int fl), .val (.long qa), .second, .val (.long qb), .second, .val (.int vd), .val (.int (1 : Int32)), .val (.int vl), .val (.int (0 : Int32)), .val (.int vh), .val .null, .val (.ref bh), .val (.ref b1), .val (.ref b2), .val (.ref rg), .unset, .unset, .unset] []))
      refine Go.step (fun t k => XS.aload X43.here hx rfl (hb hby at_148) rfl rfl k) ?_
      show Go _ _ _ _ _ _ _ (T43.setTop (mkF m 150 #[.val (.int fl), .val (.long qa), .second, .val (.long qb), .second, .val (.int vd), .val (.int (1 : Int32)), .val (.int vl), .val (.int (0 : Int32)), .val (.int vh), .val .null, .val (.ref bh), .val (.ref b1), .val (.ref b2), .val (.ref rg), .unset, .unset, .unset] [(.ref rg)]))
      obtain ⟨cq44, kq44, q44a, q44b, q44c⟩ := isOf hZ rfl E_rg
      obtain ⟨_, _, ⟨T44, L44, k44, n44⟩, -, X44, ⟨Lc44, hQ44, l44, y44, z44⟩, st44⟩ := X43.virtualBack hx (y := (⟨"com/example/rootkeep/rootkeep/KeyRange", "isWhole", "()Z"⟩ : MethodName)) (z := (⟨"com/example/rootkeep/rootkeep/KeyRange", "isWhole", "()Z"⟩ : MethodName)) hown (mvT hZ (hw _ (List.mem_of_getElem? (i := 62) rfl))) (mvT hZ (hw _ (List.mem_of_getElem? (i := 63) rfl))) (notFace_of_selects (args := #[]) (mvT hZ (hw _ (List.mem_of_getElem? (i := 65) rfl)))) (mvT hZ (hw _ (List.mem_of_getElem? (i := 65) rfl))) (mvT hZ (hw _ (List.mem_of_getElem? (i := 64) rfl))) (by decide) (backOf (W := 0) (rm9 l Z a0 hw [] rg (1 : Int32) (0 : Int32) T43.heap n0 Z43 F_fromStart_rg F_toEnd_rg) hZ (hw _ (List.mem_of_getElem? (i := 66) rfl)) (hw _ (List.mem_of_getElem? (i := 38) rfl)) (by decide) (by decide)) q44a q44c (g := (mkF m 150 #[.val (.int fl), .val (.long qa), .second, .val (.long qb), .second, .val (.int vd), .val (.int (1 : Int32)), .val (.int vl), .val (.int (0 : Int32)), .val (.int vh), .val .null, .val (.ref bh), .val (.ref b1), .val (.ref b2), .val (.ref rg), .unset, .unset, .unset] [(.ref rg)])) rfl (by rw [hml]; rfl) (Steps.refl _) (argsL := []) (rest := []) (lenOf pd_0_3 rfl) rfl (by show 2 * 0 + _ ≤ _; exact Nat.le_of_eq rfl) (hb hby at_150) (fun _ _ => ⟨rfl, rfl, (by decide : 4 + 0 ≤ _), (by decide : 10 + 0 ≤ _)⟩)
      dsimp only [Pt.U, Pt.locs, Pt.cells, Pt.slots] at X44 l44 y44 z44 st44 hQ44
      subst l44 y44 z44
      obtain ⟨z_44, rfl, N44q, K44q, o44_hz⟩ := hQ44
      have N44 := Fr.app N43 N44q
      refine Go.step (fun t k => st44.trans k) ?_
      show Go _ _ _ _ _ _ _ (T44.setTop (mkF m 153 #[.val (.int fl), .val (.long qa), .second, .val (.long qb), .second, .val (.int vd), .val (.int (1 : Int32)), .val (.int vl), .val (.int (0 : Int32)), .val (.int vh), .val .null, .val (.ref bh), .val (.ref b1), .val (.ref b2), .val (.ref rg), .unset, .unset, .unset] [(.int z_44)]))
      refine Go.step (fun t k => XS.istore X44.here hx rfl (hb hby at_153) rfl (l' := #[.val (.int fl), .val (.long qa), .second, .val (.long qb), .second, .val (.int vd), .val (.int (1 : Int32)), .val (.int vl), .val (.int (0 : Int32)), .val (.int vh), .val .null, .val (.ref bh), .val (.ref b1), .val (.ref b2), .val (.ref rg), .val (.int z_44), .unset, .unset]) rfl k) ?_
      show Go _ _ _ _ _ _ _ (T44.setTop (mkF m 155 #[.val (.int fl), .val (.long qa), .second, .val (.long qb), .second, .val (.int vd), .val (.int (1 : Int32)), .val (.int vl), .val (.int (0 : Int32)), .val (.int vh), .val .null, .val (.ref bh), .val (.ref b1), .val (.ref b2), .val (.ref rg), .val (.int z_44), .unset, .unset] []))
      refine Go.step (fun t k => XS.aload X44.here hx rfl (hb hby at_155) rfl rfl k) ?_
      show Go _ _ _ _ _ _ _ (T44.setTop (mkF m 157 #[.val (.int fl), .val (.long qa), .second, .val (.long qb), .second, .val (.int vd), .val (.int (1 : Int32)), .val (.int vl), .val (.int (0 : Int32)), .val (.int vh), .val .null, .val (.ref bh), .val (.ref b1), .val (.ref b2), .val (.ref rg), .val (.int z_44), .unset, .unset] [(.ref rg)]))
      refine Go.step (fun t k => XS.aload X44.here hx rfl (hb hby at_157) rfl rfl k) ?_
      show Go _ _ _ _ _ _ _ (T44.setTop (mkF m 159 #[.val (.int fl), .val (.long qa), .second, .val (.long qb), .second, .val (.int vd), .val (.int (1 : Int32)), .val (.int vl), .val (.int (0 : Int32)), .val (.int vh), .val .null, .val (.ref bh), .val (.ref b1), .val (.ref b2), .val (.ref rg), .val (.int z_44), .unset, .unset] [(.ref b1), (.ref rg)]))
      obtain ⟨cq45, kq45, q45a, q45b, q45c⟩ := isOf hZ K44q E_rg
      obtain ⟨_, _, ⟨T45, L45, k45, n45⟩, -, X45, ⟨Lc45, hQ45, l45, y45, z45⟩, st45⟩ := X44.virtualBack hx (y := (⟨"com/example/rootkeep/rootkeep/KeyRange", "tooLow", "(Ljava/lang/Object;)Z"⟩ : MethodName)) (z := (⟨"com/example/rootkeep/rootkeep/KeyRange", "tooLow", "(Ljava/lang/Object;)Z"⟩ : MethodName)) hown (mvT hZ (hw _ (List.mem_of_getElem? (i := 67) rfl))) (mvT hZ (hw _ (List.mem_of_getElem? (i := 68) rfl))) (notFace_of_selects (args := #[]) (mvT hZ (hw _ (List.mem_of_getElem? (i := 70) rfl)))) (mvT hZ (hw _ (List.mem_of_getElem? (i := 70) rfl))) (mvT hZ (hw _ (List.mem_of_getElem? (i := 69) rfl))) (by decide) (backOf (W := 0) (rm10_s l Z a0 hw [] rg b1 T43.heap n0 Z43 F_fromStart_rg) hZ (hw _ (List.mem_of_getElem? (i := 71) rfl)) (hw _ (List.mem_of_getElem? (i := 38) rfl)) (by decide) (by decide)) q45a q45c (g := (mkF m 159 #[.val (.int fl), .val (.long qa), .second, .val (.long qb), .second, .val (.int vd), .val (.int (1 : Int32)), .val (.int vl), .val (.int (0 : Int32)), .val (.int vh), .val .null, .val (.ref bh), .val (.ref b1), .val (.ref b2), .val (.ref rg), .val (.int z_44), .unset, .unset] [(.ref b1), (.ref rg)])) rfl (by rw [hml]; rfl) (Steps.refl _) (argsL := [(.ref b1)]) (rest := []) (lenOf pd_0_4 rfl) rfl (by show 2 * 0 + _ ≤ _; exact Nat.le_of_eq rfl) (hb hby at_159) (fun _ _ => ⟨rfl, K44q, (by decide : 4 + 0 ≤ _), (by decide : 10 + 0 ≤ _)⟩)
      dsimp only [Pt.U, Pt.locs, Pt.cells, Pt.slots] at X45 l45 y45 z45 st45 hQ45
      subst l45 y45 z45
      obtain ⟨rfl, N45q, K45q⟩ := hQ45
      have N45 := Fr.app N44 N45q
      refine Go.step (fun t k => st45.trans k) ?_
      show Go _ _ _ _ _ _ _ (T45.setTop (mkF m 162 #[.val (.int fl), .val (.long qa), .second, .val (.long qb), .second, .val (.int vd), .val (.int (1 : Int32)), .val (.int vl), .val (.int (0 : Int32)), .val (.int vh), .val .null, .val (.ref bh), .val (.ref b1), .val (.ref b2), .val (.ref rg), .val (.int z_44), .unset, .unset] [(.int (0 : Int32))]))
      refine Go.step (fun t k => XS.ifNo X45.here hx rfl (hb hby at_162) rfl ((if0 _ _).trans (teq (by decide : (0 : Int32) = (0 : Int32))).2) k) ?_
      show Go _ _ _ _ _ _ _ (T45.setTop (mkF m 165 #[.val (.int fl), .val (.long qa), .second, .val (.long qb), .second, .val (.int vd), .val (.int (1 : Int32)), .val (.int vl), .val (.int (0 : Int32)), .val (.int vh), .val .null, .val (.ref bh), .val (.ref b1), .val (.ref b2), .val (.ref rg), .val (.int z_44), .unset, .unset] []))
      refine Go.step (fun t k => XS.aload X45.here hx rfl (hb hby at_165) rfl rfl k) ?_
      show Go _ _ _ _ _ _ _ (T45.setTop (mkF m 167 #[.val (.int fl), .val (.long qa), .second, .val (.long qb), .second, .val (.int vd), .val (.int (1 : Int32)), .val (.int vl), .val (.int (0 : Int32)), .val (.int vh), .val .null, .val (.ref bh), .val (.ref b1), .val (.ref b2), .val (.ref rg), .val (.int z_44), .unset, .unset] [(.ref rg)]))
      refine Go.step (fun t k => XS.aload X45.here hx rfl (hb hby at_167) rfl rfl k) ?_
      show Go _ _ _ _ _ _ _ (T45.setTop (mkF m 169 #[.val (.int fl), .val (.long qa), .second, .val (.long qb), .second, .val (.int vd), .val (.int (1 : Int32)), .val (.int vl), .val (.int (0 : Int32)), .val (.int vh), .val .null, .val (.ref bh), .val (.ref b1), .val (.ref b2), .val (.ref rg), .val (.int z_44), .unset, .unset] [(.ref b2), (.ref rg)]))
      obtain ⟨cq46, kq46, q46a, q46b, q46c⟩ := isOf hZ K45q E_rg
      obtain ⟨_, _, ⟨T46, L46, k46, n46⟩, -, X46, ⟨Lc46, hQ46, l46, y46, z46⟩, st46⟩ := X45.virtualBack hx (y := (⟨"com/example/rootkeep/rootkeep/KeyRange", "tooHigh", "(Ljava/lang/Object;)Z"⟩ : MethodName)) (z := (⟨"com/example/rootkeep/rootkeep/KeyRange", "tooHigh", "(Ljava/lang/Object;)Z"⟩ : MethodName)) hown (mvT hZ (hw _ (List.mem_of_getElem? (i := 101) rfl))) (mvT hZ (hw _ (List.mem_of_getElem? (i := 102) rfl))) (notFace_of_selects (args := #[]) (mvT hZ (hw _ (List.mem_of_getElem? (i := 104) rfl)))) (mvT hZ (hw _ (List.mem_of_getElem? (i := 104) rfl))) (mvT hZ (hw _ (List.mem_of_getElem? (i := 103) rfl))) (by decide) (backOf (W := 0) (rm16_c l Z a0 hw [] rg b2 bh (9223372036854775807 : Int64) mh T43.heap n0 Z43 F_toEnd_rg F_hi_rg F_value_b2 F_value_bh E_b2 E_bh (own_hi rfl o38_hz)) hZ (hw _ (List.mem_of_getElem? (i := 105) rfl)) (hw _ (List.mem_of_getElem? (i := 38) rfl)) (by decide) (by decide)) q46a q46c (g := (mkF m 169 #[.val (.int fl), .val (.long qa), .second, .val (.long qb), .second, .val (.int vd), .val (.int (1 : Int32)), .val (.int vl), .val (.int (0 : Int32)), .val (.int vh), .val .null, .val (.ref bh), .val (.ref b1), .val (.ref b2), .val (.ref rg), .val (.int z_44), .unset, .unset] [(.ref b2), (.ref rg)])) rfl (by rw [hml]; rfl) (Steps.refl _) (argsL := [(.ref b2)]) (rest := []) (lenOf pd_0_4 rfl) rfl (by show 2 * 0 + _ ≤ _; exact Nat.le_of_eq rfl) (hb hby at_169) (fun _ _ => ⟨rfl, K45q, (by decide : 4 + 0 ≤ _), (by decide : 10 + 0 ≤ _)⟩)
      dsimp only [Pt.U, Pt.locs, Pt.cells, Pt.slots] at X46 l46 y46 z46 st46 hQ46
      subst l46 y46 z46
      obtain ⟨rfl, N46q, K46q⟩ := hQ46
      have N46 := Fr.app N45 N46q
      refine Go.step (fun t k => st46.trans k) ?_
      show Go _ _ _ _ _ _ _ (T46.setTop (mkF m 172 #[.val (.int fl), .val (.long qa), .second, .val (.long qb), .second, .val (.int vd), .val (.int (1 : Int32)), .val (.int vl), .val (.int (0 : Int32)), .val (.int vh), .val .null, .val (.ref bh), .val (.ref b1), .val (.ref b2), .val (.ref rg), .val (.int z_44), .unset, .unset] [(.int (1 : Int32))]))
      refine Go.step (fun t k => XS.ifYes X46.here hx rfl (pc0 := 172) (pc' := 179) rfl (hb hby at_172) rfl ((if0 _ _).trans (feq (by decide : ¬ (1 : Int32) = (0 : Int32))).2) (by decide) (by decide) k) ?_
      show Go _ _ _ _ _ _ _ (T46.setTop (mkF m 179 #[.val (.int fl), .val (.long qa), .second, .val (.long qb), .second, .val (.int vd), .val (.int (1 : Int32)), .val (.int vl), .val (.int (0 : Int32)), .val (.int vh), .val .null, .val (.ref bh), .val (.ref b1), .val (.ref b2), .val (.ref rg), .val (.int z_44), .unset, .unset] []))
      refine Go.step (fun t k => XS.iconst X46.here hx rfl (hb hby at_179) k) ?_
      show Go _ _ _ _ _ _ _ (T46.setTop (mkF m 180 #[.val (.int fl), .val (.long qa), .second, .val (.long qb), .second, .val (.int vd), .val (.int (1 : Int32)), .val (.int vl), .val (.int (0 : Int32)), .val (.int vh), .val .null, .val (.ref bh), .val (.ref b1), .val (.ref b2), .val (.ref rg), .val (.int z_44), .unset, .unset] [(.int (0 : Int32))]))
      refine Go.step (fun t k => XS.istore X46.here hx rfl (hb hby at_180) rfl (l' := #[.val (.int fl), .val (.long qa), .second, .val (.long qb), .second, .val (.int vd), .val (.int (1 : Int32)), .val (.int vl), .val (.int (0 : Int32)), .val (.int vh), .val .null, .val (.ref bh), .val (.ref b1), .val (.ref b2), .val (.ref rg), .val (.int z_44), .val (.int (0 : Int32)), .unset]) rfl k) ?_
      show Go _ _ _ _ _ _ _ (T46.setTop (mkF m 182 #[.val (.int fl), .val (.long qa), .second, .val (.long qb), .second, .val (.int vd), .val (.int (1 : Int32)), .val (.int vl), .val (.int (0 : Int32)), .val (.int vh), .val .null, .val (.ref bh), .val (.ref b1), .val (.ref b2), .val (.ref rg), .val (.int z_44), .val (.int (0 : Int32)), .unset] []))
      refine Go.step (fun t k => XS.aload X46.here hx rfl (hb hby at_182) rfl rfl k) ?_
      show Go _ _ _ _ _ _ _ (T46.setTop (mkF m 184 #[.val (.int fl), .val (.long qa), .second, .val (.long qb), .second, .val (.int vd), .val (.int (1 : Int32)), .val (.int vl), .val (.int (0 : Int32)), .val (.int vh), .val .null, .val (.ref bh), .val (.ref b1), .val (.ref b2), .val (.ref rg), .val (.int z_44), .val (.int (0 : Int32)), .unset] [(.ref rg)]))
      obtain ⟨cq47, kq47, q47a, q47b, q47c⟩ := isOf hZ K46q E_rg
      obtain ⟨_, _, ⟨T47, L47, k47, n47⟩, -, X47, ⟨Lc47, hQ47, l47, y47, z47⟩, st47⟩ := X46.virtualBack hx (y := (⟨"com/example/rootkeep/rootkeep/KeyRange", "reversed", "()Lcom/example/rootkeep/rootkeep/KeyRange;"⟩ : MethodName)) (z := (⟨"com/example/rootkeep/rootkeep/KeyRange", "reversed", "()Lcom/example/rootkeep/rootkeep/KeyRange;"⟩ : MethodName)) hown (mvT hZ (hw _ (List.mem_of_getElem? (i := 94) rfl))) (mvT hZ (hw _ (List.mem_of_getElem? (i := 95) rfl))) (notFace_of_selects (args := #[]) (mvT hZ (hw _ (List.mem_of_getElem? (i := 97) rfl)))) (mvT hZ (hw _ (List.mem_of_getElem? (i := 97) rfl))) (mvT hZ (hw _ (List.mem_of_getElem? (i := 96) rfl))) (by decide) (backOf (W := 0) (rm15_10 l Z a0 hw [] rg vd (1 : Int32) vl (0 : Int32) bh vh T43.heap n0 Z43 F_descending_rg F_fromStart_rg F_lo_rg F_loInclusive_rg F_toEnd_rg F_hi_rg F_hiInclusive_rg E_rg (own_01 hvd) (Or.inr rfl) (own_01 hvl) (Or.inl rfl) (own_01 hvh)) hZ (hw _ (List.mem_of_getElem? (i := 98) rfl)) (hw _ (List.mem_of_getElem? (i := 38) rfl)) (by decide) (by decide)) q47a q47c (g := (mkF m 184 #[.val (.int fl), .val (.long qa), .second, .val (.long qb), .second, .val (.int vd), .val (.int (1 : Int32)), .val (.int vl), .val (.int (0 : Int32)), .val (.int vh), .val .null, .val (.ref bh), .val (.ref b1), .val (.ref b2), .val (.ref rg), .val (.int z_44), .val (.int (0 : Int32)), .unset] [(.ref rg)])) rfl (by rw [hml]; rfl) (Steps.refl _) (argsL := []) (rest := []) (lenOf pd_0_5 rfl) rfl (by show 2 * 0 + _ ≤ _; exact Nat.le_of_eq rfl) (hb hby at_184) (fun _ _ => ⟨rfl, K46q, (by decide : 4 + 1 ≤ _), (by decide : 10 + 7 ≤ _)⟩)
      dsimp only [Pt.U, Pt.locs, Pt.cells, Pt.slots] at X47 l47 y47 z47 st47 hQ47
      subst l47 y47 z47
      obtain ⟨br, rfl, N47q, K47q, o47_E_br, o47_F_fromStart_br, o47_F_toEnd_br⟩ := hQ47
      have N47 := Fr.app N46 N47q
      replace old := Old.keep old K47q all0
      replace E_bh := E_bh.keep K47q
      replace F_value_bh := F_value_bh.keep K47q nin0
      replace E_b1 := E_b1.keep K47q
      replace F_value_b1 := F_value_b1.keep K47q nin0
      replace E_b2 := E_b2.keep K47q
      replace F_value_b2 := F_value_b2.keep K47q nin0
      replace E_rg := E_rg.keep K47q
      replace F_descending_rg := F_descending_rg.keep K47q nin0
      replace F_fromStart_rg := F_fromStart_rg.keep K47q nin0
      replace F_lo_rg := F_lo_rg.keep K47q nin0
      replace F_loInclusive_rg := F_loInclusive_rg.keep K47q nin0
      replace F_toEnd_rg := F_toEnd_rg.keep K47q nin0
      replace F_hi_rg := F_hi_rg.keep K47q nin0
      replace F_hiInclusive_rg := F_hiInclusive_rg.keep K47q nin0
      have Z47 := Nat.le_trans Z43 K47q.1
      have E_br := o47_E_br
      have F_fromStart_br := o47_F_fromStart_br
      have F_toEnd_br := o47_F_toEnd_br
      refine Go.step (fun t k => st47.trans k) ?_
      show Go _ _ _ _ _ _ _ (T47.setTop (mkF m 187 #[.val (.int fl), .val (.long qa), .second, .val (.long qb), .second, .val (.int vd), .val (.int (1 : Int32)), .val (.int vl), .val (.int (0 : Int32)), .val (.int vh), .val .null, .val (.ref bh), .val (.ref b1), .val (.ref b2), .val (.ref rg), .val (.int z_44), .val (.int (0 : Int32)), .unset] [(.ref br)]))
      obtain ⟨cq48, kq48, q48a, q48b, q48c⟩ := isOf hZ rfl E_br
      obtain ⟨_, _, ⟨T48, L48, k48, n48⟩, -, X48, ⟨Lc48, hQ48, l48, y48, z48⟩, st48⟩ := X47.virtualBack hx (y := (⟨"com/example/rootkeep/rootkeep/KeyRange", "isWhole", "()Z"⟩ : MethodName)) (z := (⟨"com/example/rootkeep/rootkeep/KeyRange", "isWhole", "()Z"⟩ : MethodName)) hown (mvT hZ (hw _ (List.mem_of_getElem? (i := 62) rfl))) (mvT hZ (hw _ (List.mem_of_getElem? (i := 63) rfl))) (notFace_of_selects (args := #[]) (mvT hZ (hw _ (List.mem_of_getElem? (i := 65) rfl)))) (mvT hZ (hw _ (List.mem_of_getElem? (i := 65) rfl))) (mvT hZ (hw _ (List.mem_of_getElem? (i := 64) rfl))) (by decide) (backOf (W := 0) (rm9 l Z a0 hw [] br (1 : Int32) (0 : Int32) T47.heap n0 Z47 F_fromStart_br F_toEnd_br) hZ (hw _ (List.mem_of_getElem? (i := 66) rfl)) (hw _ (List.mem_of_getElem? (i := 38) rfl)) (by decide) (by decide)) q48a q48c (g := (mkF m 187 #[.val (.int fl), .val (.long qa), .second, .val (.long qb), .second, .val (.int vd), .val (.int (1 : Int32)), .val (.int vl), .val (.int (0 : Int32)), .val (.int vh), .val .null, .val (.ref bh), .val (.ref b1), .val (.ref b2), .val (.ref rg), .val (.int z_44), .val (.int (0 : Int32)), .unset] [(.ref br)])) rfl (by rw [hml]; rfl) (Steps.refl _) (argsL := []) (rest := []) (lenOf pd_0_3 rfl) rfl (by show 2 * 0 + _ ≤ _; exact Nat.le_of_eq rfl) (hb hby at_187) (fun _ _ => ⟨rfl, rfl, (by decide : 5 + 0 ≤ _), (by decide : 17 + 0 ≤ _)⟩)
      dsimp only [Pt.U, Pt.locs, Pt.cells, Pt.slots] at X48 l48 y48 z48 st48 hQ48
      subst l48 y48 z48
      obtain ⟨z_48, rfl, N48q, K48q, o48_hz⟩ := hQ48
      have N48 := Fr.app N47 N48q
      refine Go.step (fun t k => st48.trans k) ?_
      show Go _ _ _ _ _ _ _ (T48.setTop (mkF m 190 #[.val (.int fl), .val (.long qa), .second, .val (.long qb), .second, .val (.int vd), .val (.int (1 : Int32)), .val (.int vl), .val (.int (0 : Int32)), .val (.int vh), .val .null, .val (.ref bh), .val (.ref b1), .val (.ref b2), .val (.ref rg), .val (.int z_44), .val (.int (0 : Int32)), .unset] [(.int z_48)]))
      refine Go.step (fun t k => XS.istore X48.here hx rfl (hb hby at_190) rfl (l' := #[.val (.int fl), .val (.long qa), .second, .val (.long qb), .second, .val (.int vd), .val (.int (1 : Int32)), .val (.int vl), .val (.int (0 : Int32)), .val (.int vh), .val .null, .val (.ref bh), .val (.ref b1), .val (.ref b2), .val (.ref rg), .val (.int z_44), .val (.int (0 : Int32)), .val (.int z_48)]) rfl k) ?_
      show Go _ _ _ _ _ _ _ (T48.setTop (mkF m 192 #[.val (.int fl), .val (.long qa), .second, .val (.long qb), .second, .val (.int vd), .val (.int (1 : Int32)), .val (.int vl), .val (.int (0 : Int32)), .val (.int vh), .val .null, .val (.ref bh), .val (.ref b1), .val (.ref b2), .val (.ref rg), .val (.int z_44), .val (.int (0 : Int32)), .val (.int z_48)] []))
      refine Go.step (fun t k => XS.iload X48.here hx rfl (hb hby at_192) rfl k) ?_
      show Go _ _ _ _ _ _ _ (T48.setTop (mkF m 194 #[.val (.int fl), .val (.long qa), .second, .val (.long qb), .second, .val (.int vd), .val (.int (1 : Int32)), .val (.int vl), .val (.int (0 : Int32)), .val (.int vh), .val .null, .val (.ref bh), .val (.ref b1), .val (.ref b2), .val (.ref rg), .val (.int z_44), .val (.int (0 : Int32)), .val (.int z_48)] [(.int z_44)]))
      refine Go.step (fun t k => XS.iload X48.here hx rfl (hb hby at_194) rfl k) ?_
      show Go _ _ _ _ _ _ _ (T48.setTop (mkF m 196 #[.val (.int fl), .val (.long qa), .second, .val (.long qb), .second, .val (.int vd), .val (.int (1 : Int32)), .val (.int vl), .val (.int (0 : Int32)), .val (.int vh), .val .null, .val (.ref bh), .val (.ref b1), .val (.ref b2), .val (.ref rg), .val (.int z_44), .val (.int (0 : Int32)), .val (.int z_48)] [(.int (0 : Int32)), (.int z_44)]))
      refine Go.step (fun t k => XS.icmpNo X48.here hx rfl (hb hby at_196) rfl (teq (o44_hz.trans (by decide) : z_44 = (0 : Int32))).2 k) ?_
      show Go _ _ _ _ _ _ _ (T48.setTop (mkF m 199 #[.val (.int fl), .val (.long qa), .second, .val (.long qb), .second, .val (.int vd), .val (.int (1 : Int32)), .val (.int vl), .val (.int (0 : Int32)), .val (.int vh), .val .null, .val (.ref bh), .val (.ref b1), .val (.ref b2), .val (.ref rg), .val (.int z_44), .val (.int (0 : Int32)), .val (.int z_48)] []))
      refine Go.step (fun t k => XS.iload X48.here hx rfl (hb hby at_199) rfl k) ?_
      show Go _ _ _ _ _ _ _ (T48.setTop (mkF m 201 #[.val (.int fl), .val (.long qa), .second, .val (.long qb), .second, .val (.int vd), .val (.int (1 : Int32)), .val (.int vl), .val (.int (0 : Int32)), .val (.int vh), .val .null, .val (.ref bh), .val (.ref b1), .val (.ref b2), .val (.ref rg), .val (.int z_44), .val (.int (0 : Int32)), .val (.int z_48)] [(.int z_48)]))
      refine Go.step (fun t k => XS.iload X48.here hx rfl (hb hby at_201) rfl k) ?_
      show Go _ _ _ _ _ _ _ (T48.setTop (mkF m 203 #[.val (.int fl), .val (.long qa), .second, .val (.long qb), .second, .val (.int vd), .val (.int (1 : Int32)), .val (.int vl), .val (.int (0 : Int32)), .val (.int vh), .val .null, .val (.ref bh), .val (.ref b1), .val (.ref b2), .val (.ref rg), .val (.int z_44), .val (.int (0 : Int32)), .val (.int z_48)] [(.int z_44), (.int z_48)]))
      refine Go.step (fun t k => XS.icmpNo X48.here hx rfl (hb hby at_203) rfl (teq (o48_hz.trans o44_hz.symm : z_48 = z_44)).2 k) ?_
      show Go _ _ _ _ _ _ _ (T48.setTop (mkF m 206 #[.val (.int fl), .val (.long qa), .second, .val (.long qb), .second, .val (.int vd), .val (.int (1 : Int32)), .val (.int vl), .val (.int (0 : Int32)), .val (.int vh), .val .null, .val (.ref bh), .val (.ref b1), .val (.ref b2), .val (.ref rg), .val (.int z_44), .val (.int (0 : Int32)), .val (.int z_48)] []))
      refine Go.step (fun t k => XS.iconst X48.here hx rfl (hb hby at_206) k) ?_
      show Go _ _ _ _ _ _ _ (T48.setTop (mkF m 207 #[.val (.int fl), .val (.long qa), .second, .val (.long qb), .second, .val (.int vd), .val (.int (1 : Int32)), .val (.int vl), .val (.int (0 : Int32)), .val (.int vh), .val .null, .val (.ref bh), .val (.ref b1), .val (.ref b2), .val (.ref rg), .val (.int z_44), .val (.int (0 : Int32)), .val (.int z_48)] [(.int (1 : Int32))]))
      refine Go.step (fun t k => XS.goto X48.here hx rfl (pc0 := 207) (pc' := 211) rfl (hb hby at_207) (by decide) (by decide) k) ?_
      show Go _ _ _ _ _ _ _ (T48.setTop (mkF m 211 #[.val (.int fl), .val (.long qa), .second, .val (.long qb), .second, .val (.int vd), .val (.int (1 : Int32)), .val (.int vl), .val (.int (0 : Int32)), .val (.int vh), .val .null, .val (.ref bh), .val (.ref b1), .val (.ref b2), .val (.ref rg), .val (.int z_44), .val (.int (0 : Int32)), .val (.int z_48)] [(.int (1 : Int32))]))
      refine Go.retN X48 Bd.notSynchronized hx (t := .boolean) Bd.returns (by simp) (hb hby at_211) (by decide) (by decide) (1 : Int32) rfl ?_
      rw [K48q]
      exact ⟨rfl, N48⟩
    · refine Go.step (fun t k => XS.ifNo X0.here hx rfl (hb hby at_43) rfl ((if0 _ _).trans (feq hc43_35).1) k) ?_
      show Go _ _ _ _ _ _ _ (s₁.setTop (mkF m 46 #[.val (.int fl), .val (.long qa), .second, .val (.long qb), .second, .val (.int vd), .val (.int (1 : Int32)), .val (.int vl), .unset, .unset, .unset, .unset, .unset, .unset, .unset, .unset, .unset, .unset] []))
      refine Go.step (fun t k => XS.iconst X0.here hx rfl (hb hby at_46) k) ?_
      show Go _ _ _ _ _ _ _ (s₁.setTop (mkF m 47 #[.val (.int fl), .val (.long qa), .second, .val (.long qb), .second, .val (.int vd), .val (.int (1 : Int32)), .val (.int vl), .unset, .unset, .unset, .unset, .unset, .unset, .unset, .unset, .unset, .unset] [(.int (1 : Int32))]))
      refine Go.step (fun t k => XS.goto X0.here hx rfl (pc0 := 47) (pc' := 51) rfl (hb hby at_47) (by decide) (by decide) k) ?_
      show Go _ _ _ _ _ _ _ (s₁.setTop (mkF m 51 #[.val (.int fl), .val (.long qa), .second, .val (.long qb), .second, .val (.int vd), .val (.int (1 : Int32)), .val (.int vl), .unset, .unset, .unset, .unset, .unset, .unset, .unset, .unset, .unset, .unset] [(.int (1 : Int32))]))
      refine Go.step (fun t k => XS.istore X0.here hx rfl (hb hby at_51) rfl (l' := #[.val (.int fl), .val (.long qa), .second, .val (.long qb), .second, .val (.int vd), .val (.int (1 : Int32)), .val (.int vl), .val (.int (1 : Int32)), .unset, .unset, .unset, .unset, .unset, .unset, .unset, .unset, .unset]) rfl k) ?_
      show Go _ _ _ _ _ _ _ (s₁.setTop (mkF m 53 #[.val (.int fl), .val (.long qa), .second, .val (.long qb), .second, .val (.int vd), .val (.int (1 : Int32)), .val (.int vl), .val (.int (1 : Int32)), .unset, .unset, .unset, .unset, .unset, .unset, .unset, .unset, .unset] []))
      refine Go.step (fun t k => XS.iloadN X0.here hx rfl (hb hby at_53) rfl k) ?_
      show Go _ _ _ _ _ _ _ (s₁.setTop (mkF m 54 #[.val (.int fl), .val (.long qa), .second, .val (.long qb), .second, .val (.int vd), .val (.int (1 : Int32)), .val (.int vl), .val (.int (1 : Int32)), .unset, .unset, .unset, .unset, .unset, .unset, .unset, .unset, .unset] [(.int fl)]))
      refine Go.step (fun t k => XS.bipush X0.here hx rfl (hb hby at_54) k) ?_
      show Go _ _ _ _ _ _ _ (s₁.setTop (mkF m 56 #[.val (.int fl), .val (.long qa), .second, .val (.long qb), .second, .val (.int vd), .val (.int (1 : Int32)), .val (.int vl), .val (.int (1 : Int32)), .unset, .unset, .unset, .unset, .unset, .unset, .unset, .unset, .unset] [(.int (16 : Int32)), (.int fl)]))
      refine Go.step (fun t k => XS.iand X0.here hx rfl (hb hby at_56) rfl k) ?_
      show Go _ _ _ _ _ _ _ (s₁.setTop (mkF m 57 #[.val (.int fl), .val (.long qa), .second, .val (.long qb), .second, .val (.int vd), .val (.int (1 : Int32)), .val (.int vl), .val (.int (1 : Int32)), .unset, .unset, .unset, .unset, .unset, .unset, .unset, .unset, .unset] [(.int (fl &&& (16 : Int32)))]))
      -- joined again at pc 65
      obtain ⟨vh, hvh⟩ : ∃ z : Int32, z = (if (fl &&& (16 : Int32)) = (0 : Int32) then (0 : Int32) else (1 : Int32)) := ⟨_, rfl⟩
      have st49 : ∀ t, Steps p.tables e below (s₁.setTop (mkF m 65 #[.val (.int fl), .val (.long qa), .second, .val (.long qb), .second, .val (.int vd), .val (.int (1 : Int32)), .val (.int vl), .val (.int (1 : Int32)), .unset, .unset, .unset, .unset, .unset, .unset, .unset, .unset, .unset] [(.int vh)])) t → Steps p.tables e below (s₁.setTop (mkF m 57 #[.val (.int fl), .val (.long qa), .second, .val (.long qb), .second, .val (.int vd), .val (.int (1 : Int32)), .val (.int vl), .val (.int (1 : Int32)), .unset, .unset, .unset, .unset, .unset, .unset, .unset, .unset, .unset] [(.int (fl &&& (16 : Int32)))])) t := by
        intro t kt
        by_cases hd57_50 : (fl &&& (16 : Int32)) = (0 : Int32)
        · refine XS.ifYes X0.here hx rfl (pc0 := 57) (pc' := 64) rfl (hb hby at_57) rfl ((if0 _ _).trans (teq hd57_50).1) (by decide) (by decide) ?_
          show Steps p.tables e below (s₁.setTop (mkF m 64 #[.val (.int fl), .val (.long qa), .second, .val (.long qb), .second, .val (.int vd), .val (.int (1 : Int32)), .val (.int vl), .val (.int (1 : Int32)), .unset, .unset, .unset, .unset, .unset, .unset, .unset, .unset, .unset] [])) _
          refine XS.iconst X0.here hx rfl (hb hby at_64) ?_
          show Steps p.tables e below (s₁.setTop (mkF m 65 #[.val (.int fl), .val (.long qa), .second, .val (.long qb), .second, .val (.int vd), .val (.int (1 : Int32)), .val (.int vl), .val (.int (1 : Int32)), .unset, .unset, .unset, .unset, .unset, .unset, .unset, .unset, .unset] [(.int (0 : Int32))])) _
          have qvh : vh = (0 : Int32) := by rw [hvh]; simp only [if_pos hd57_50]
          rw [qvh] at kt
          exact kt
        · refine XS.ifNo X0.here hx rfl (hb hby at_57) rfl ((if0 _ _).trans (feq hd57_50).1) ?_
          show Steps p.tables e below (s₁.setTop (mkF m 60 #[.val (.int fl), .val (.long qa), .second, .val (.long qb), .second, .val (.int vd), .val (.int (1 : Int32)), .val (.int vl), .val (.int (1 : Int32)), .unset, .unset, .unset, .unset, .unset, .unset, .unset, .unset, .unset] [])) _
          refine XS.iconst X0.here hx rfl (hb hby at_60) ?_
          show Steps p.tables e below (s₁.setTop (mkF m 61 #[.val (.int fl), .val (.long qa), .second, .val (.long qb), .second, .val (.int vd), .val (.int (1 : Int32)), .val (.int vl), .val (.int (1 : Int32)), .unset, .unset, .unset, .unset, .unset, .unset, .unset, .unset, .unset] [(.int (1 : Int32))])) _
          refine XS.goto X0.here hx rfl (pc0 := 61) (pc' := 65) rfl (hb hby at_61) (by decide) (by decide) ?_
          show Steps p.tables e below (s₁.setTop (mkF m 65 #[.val (.int fl), .val (.long qa), .second, .val (.long qb), .second, .val (.int vd), .val (.int (1 : Int32)), .val (.int vl), .val (.int (1 : Int32)), .unset, .unset, .unset, .unset, .unset, .unset, .unset, .unset, .unset] [(.int (1 : Int32))])) _
          have qvh : vh = (1 : Int32) := by rw [hvh]; simp only [if_neg hd57_50]
          rw [qvh] at kt
          exact kt
      refine Go.step st49 ?_
      show Go _ _ _ _ _ _ _ (s₁.setTop (mkF m 65 #[.val (.int fl), .val (.long qa), .second, .val (.long qb), .second, .val (.int vd), .val (.int (1 : Int32)), .val (.int vl), .val (.int (1 : Int32)), .unset, .unset, .unset, .unset, .unset, .unset, .unset, .unset, .unset] [(.int vh)]))
      refine Go.step (fun t k => XS.istore X0.here hx rfl (hb hby at_65) rfl (l' := #[.val (.int fl), .val (.long qa), .second, .val (.long qb), .second, .val (.int vd), .val (.int (1 : Int32)), .val (.int vl), .val (.int (1 : Int32)), .val (.int vh), .unset, .unset, .unset, .unset, .unset, .unset, .unset, .unset]) rfl k) ?_
      show Go _ _ _ _ _ _ _ (s₁.setTop (mkF m 67 #[.val (.int fl), .val (.long qa), .second, .val (.long qb), .second, .val (.int vd), .val (.int (1 : Int32)), .val (.int vl), .val (.int (1 : Int32)), .val (.int vh), .unset, .unset, .unset, .unset, .unset, .unset, .unset, .unset] []))
      refine Go.step (fun t k => XS.iload X0.here hx rfl (hb hby at_67) rfl k) ?_
      show Go _ _ _ _ _ _ _ (s₁.setTop (mkF m 69 #[.val (.int fl), .val (.long qa), .second, .val (.long qb), .second, .val (.int vd), .val (.int (1 : Int32)), .val (.int vl), .val (.int (1 : Int32)), .val (.int vh), .unset, .unset, .unset, .unset, .unset, .unset, .unset, .unset] [(.int (1 : Int32))]))
      refine Go.step (fun t k => XS.ifNo X0.here hx rfl (hb hby at_69) rfl ((if0 _ _).trans (feq (by decide : ¬ (1 : Int32) = (0 : Int32))).1) k) ?_
      show Go _ _ _ _ _ _ _ (s₁.setTop (mkF m 72 #[.val (.int fl), .val (.long qa), .second, .val (.long qb), .second, .val (.int vd), .val (.int (1 : Int32)), .val (.int vl), .val (.int (1 : Int32)), .val (.int vh), .unset, .unset, .unset, .unset, .unset, .unset, .unset, .unset] []))
      refine Go.step (fun t k => XS.aconstNull X0.here hx rfl (hb hby at_72) k) ?_
      show Go _ _ _ _ _ _ _ (s₁.setTop (mkF m 73 #[.val (.int fl), .val (.long qa), .second, .val (.long qb), .second, .val (.int vd), .val (.int (1 : Int32)), .val (.int vl), .val (.int (1 : Int32)), .val (.int vh), .unset, .unset, .unset, .unset, .unset, .unset, .unset, .unset] [.null]))
      refine Go.step (fun t k => XS.goto X0.here hx rfl (pc0 := 73) (pc' := 86) rfl (hb hby at_73) (by decide) (by decide) k) ?_
      show Go _ _ _ _ _ _ _ (s₁.setTop (mkF m 86 #[.val (.int fl), .val (.long qa), .second, .val (.long qb), .second, .val (.int vd), .val (.int (1 : Int32)), .val (.int vl), .val (.int (1 : Int32)), .val (.int vh), .unset, .unset, .unset, .unset, .unset, .unset, .unset, .unset] [.null]))
      refine Go.step (fun t k => XS.astore X0.here hx rfl (hb hby at_86) rfl rfl (l' := #[.val (.int fl), .val (.long qa), .second, .val (.long qb), .second, .val (.int vd), .val (.int (1 : Int32)), .val (.int vl), .val (.int (1 : Int32)), .val (.int vh), .val .null, .unset, .unset, .unset, .unset, .unset, .unset, .unset]) rfl k) ?_
      show Go _ _ _ _ _ _ _ (s₁.setTop (mkF m 88 #[.val (.int fl), .val (.long qa), .second, .val (.long qb), .second, .val (.int vd), .val (.int (1 : Int32)), .val (.int vl), .val (.int (1 : Int32)), .val (.int vh), .val .null, .unset, .unset, .unset, .unset, .unset, .unset, .unset] []))
      refine Go.step (fun t k => XS.iload X0.here hx rfl (hb hby at_88) rfl k) ?_
      show Go _ _ _ _ _ _ _ (s₁.setTop (mkF m 90 #[.val (.int fl), .val (.long qa), .second, .val (.long qb), .second, .val (.int vd), .val (.int (1 : Int32)), .val (.int vl), .val (.int (1 : Int32)), .val (.int vh), .val .null, .unset, .unset, .unset, .unset, .unset, .unset, .unset] [(.int (1 : Int32))]))
      refine Go.step (fun t k => XS.ifNo X0.here hx rfl (hb hby at_90) rfl ((if0 _ _).trans (feq (by decide : ¬ (1 : Int32) = (0 : Int32))).1) k) ?_
      show Go _ _ _ _ _ _ _ (s₁.setTop (mkF m 93 #[.val (.int fl), .val (.long qa), .second, .val (.long qb), .second, .val (.int vd), .val (.int (1 : Int32)), .val (.int vl), .val (.int (1 : Int32)), .val (.int vh), .val .null, .unset, .unset, .unset, .unset, .unset, .unset, .unset] []))
      refine Go.step (fun t k => XS.aconstNull X0.here hx rfl (hb hby at_93) k) ?_
      show Go _ _ _ _ _ _ _ (s₁.setTop (mkF m 94 #[.val (.int fl), .val (.long qa), .second, .val (.long qb), .second, .val (.int vd), .val (.int (1 : Int32)), .val (.int vl), .val (.int (1 : Int32)), .val (.int vh), .val .null, .unset, .unset, .unset, .unset, .unset, .unset, .unset] [.null]))
      refine Go.step (fun t k => XS.goto X0.here hx rfl (pc0 := 94) (pc' := 107) rfl (hb hby at_94) (by decide) (by decide) k) ?_
      show Go _ _ _ _ _ _ _ (s₁.setTop (mkF m 107 #[.val (.int fl), .val (.long qa), .second, .val (.long qb), .second, .val (.int vd), .val (.int (1 : Int32)), .val (.int vl), .val (.int (1 : Int32)), .val (.int vh), .val .null, .unset, .unset, .unset, .unset, .unset, .unset, .unset] [.null]))
      refine Go.step (fun t k => XS.astore X0.here hx rfl (hb hby at_107) rfl rfl (l' := #[.val (.int fl), .val (.long qa), .second, .val (.long qb), .second, .val (.int vd), .val (.int (1 : Int32)), .val (.int vl), .val (.int (1 : Int32)), .val (.int vh), .val .null, .val .null, .unset, .unset, .unset, .unset, .unset, .unset]) rfl k) ?_
      show Go _ _ _ _ _ _ _ (s₁.setTop (mkF m 109 #[.val (.int fl), .val (.long qa), .second, .val (.long qb), .second, .val (.int vd), .val (.int (1 : Int32)), .val (.int vl), .val (.int (1 : Int32)), .val (.int vh), .val .null, .val .null, .unset, .unset, .unset, .unset, .unset, .unset] []))
      refine Go.step (fun t k => X0.ldc2Long hx hown (mvT hZ (hw _ (List.mem_of_getElem? (i := 34) rfl))) (g := (mkF m 109 #[.val (.int fl), .val (.long qa), .second, .val (.long qb), .second, .val (.int vd), .val (.int (1 : Int32)), .val (.int vl), .val (.int (1 : Int32)), .val (.int vh), .val .null, .val .null, .unset, .unset, .unset, .unset, .unset, .unset] [])) rfl (hb hby at_109) _ k) ?_
      show Go _ _ _ _ _ _ _ (s₁.setTop (mkF m 112 #[.val (.int fl), .val (.long qa), .second, .val (.long qb), .second, .val (.int vd), .val (.int (1 : Int32)), .val (.int vl), .val (.int (1 : Int32)), .val (.int vh), .val .null, .val .null, .unset, .unset, .unset, .unset, .unset, .unset] [(.long (-9223372036854775808 : Int64))]))
      obtain ⟨_, _, ⟨T51, L51, k51, n51⟩, -, X51, ⟨Lc51, hQ51, l51, y51, z51⟩, st51⟩ := Jvm.LawKit.callS X0 hx (y := (⟨"java/lang/Long", "valueOf", "(J)Ljava/lang/Long;"⟩ : MethodName)) hown (mvT hZ (hw _ (List.mem_of_getElem? (i := 5) rfl))) (mvT hZ (hw _ (List.mem_of_getElem? (i := 6) rfl))) (mvT hZ (hw _ (List.mem_of_getElem? (i := 7) rfl))) (mvT hZ (hw _ (List.mem_of_getElem? (i := 8) rfl))) (by decide) (backOf (W := 0) (rm2 l Z a0 hw [] (-9223372036854775808 : Int64) ca h0 n0 Z0 old hsta hca) hZ (hw _ (List.mem_of_getElem? (i := 8) rfl)) (hw _ (List.mem_of_getElem? (i := 7) rfl)) (by decide) (by decide)) (g := (mkF m 112 #[.val (.int fl), .val (.long qa), .second, .val (.long qb), .second, .val (.int vd), .val (.int (1 : Int32)), .val (.int vl), .val (.int (1 : Int32)), .val (.int vh), .val .null, .val .null, .unset, .unset, .unset, .unset, .unset, .unset] [(.long (-9223372036854775808 : Int64))])) rfl (by rw [hml]; rfl) (argsL := [(.long (-9223372036854775808 : Int64))]) (rest := []) (lenOf pd_0_1 rfl) rfl (by show 2 * 0 + _ ≤ _; exact Nat.le_of_eq rfl) (hb hby at_112) (fun _ _ => ⟨rfl, e0, (by decide : 0 + 1 ≤ _), (by decide : 0 + 1 ≤ _)⟩)
      dsimp only [Pt.U, Pt.locs, Pt.cells, Pt.slots] at X51 l51 y51 z51 st51 hQ51
      subst l51 y51 z51
      obtain ⟨b1, rfl, N51q, K51q, o51_E_b1, o51_F_value_b1⟩ := hQ51
      have N51 := Fr.app N0 N51q
      replace old := Old.keep old K51q all0
      have Z51 := Nat.le_trans Z0 K51q.1
      have E_b1 := o51_E_b1
      have F_value_b1 := o51_F_value_b1
      refine Go.step st51 ?_
      show Go _ _ _ _ _ _ _ (T51.setTop (mkF m 115 #[.val (.int fl), .val (.long qa), .second, .val (.long qb), .second, .val (.int vd), .val (.int (1 : Int32)), .val (.int vl), .val (.int (1 : Int32)), .val (.int vh), .val .null, .val .null, .unset, .unset, .unset, .unset, .unset, .unset] [(.ref b1)]))
      refine Go.step (fun t k => XS.astore X51.here hx rfl (hb hby at_115) rfl rfl (l' := #[.val (.int fl), .val (.long qa), .second, .val (.long qb), .second, .val (.int vd), .val (.int (1 : Int32)), .val (.int vl), .val (.int (1 : Int32)), .val (.int vh), .val .null, .val .null, .val (.ref b1), .unset, .unset, .unset, .unset, .unset]) rfl k) ?_
      show Go _ _ _ _ _ _ _ (T51.setTop (mkF m 117 #[.val (.int fl), .val (.long qa), .second, .val (.long qb), .second, .val (.int vd), .val (.int (1 : Int32)), .val (.int vl), .val (.int (1 : Int32)), .val (.int vh), .val .null, .val .null, .val (.ref b1), .unset, .unset, .unset, .unset, .unset] []))
      refine Go.step (fun t k => X51.ldc2Long hx hown (mvT hZ (hw _ (List.mem_of_getElem? (i := 35) rfl))) (g := (mkF m 117 #[.val (.int fl), .val (.long qa), .second, .val (.long qb), .second, .val (.int vd), .val (.int (1 : Int32)), .val (.int vl), .val (.int (1 : Int32)), .val (.int vh), .val .null, .val .null, .val (.ref b1), .unset, .unset, .unset, .unset, .unset] [])) rfl (hb hby at_117) _ k) ?_
      show Go _ _ _ _ _ _ _ (T51.setTop (mkF m 120 #[.val (.int fl), .val (.long qa), .second, .val (.long qb), .second, .val (.int vd), .val (.int (1 : Int32)), .val (.int vl), .val (.int (1 : Int32)), .val (.int vh), .val .null, .val .null, .val (.ref b1), .unset, .unset, .unset, .unset, .unset] [(.long (9223372036854775807 : Int64))]))
      obtain ⟨_, _, ⟨T52, L52, k52, n52⟩, -, X52, ⟨Lc52, hQ52, l52, y52, z52⟩, st52⟩ := Jvm.LawKit.callS X51 hx (y := (⟨"java/lang/Long", "valueOf", "(J)Ljava/lang/Long;"⟩ : MethodName)) hown (mvT hZ (hw _ (List.mem_of_getElem? (i := 5) rfl))) (mvT hZ (hw _ (List.mem_of_getElem? (i := 6) rfl))) (mvT hZ (hw _ (List.mem_of_getElem? (i := 7) rfl))) (mvT hZ (hw _ (List.mem_of_getElem? (i := 8) rfl))) (by decide) (backOf (W := 0) (rm2 l Z a0 hw [] (9223372036854775807 : Int64) ca T51.heap n0 Z51 old hsta hca) hZ (hw _ (List.mem_of_getElem? (i := 8) rfl)) (hw _ (List.mem_of_getElem? (i := 7) rfl)) (by decide) (by decide)) (g := (mkF m 120 #[.val (.int fl), .val (.long qa), .second, .val (.long qb), .second, .val (.int vd), .val (.int (1 : Int32)), .val (.int vl), .val (.int (1 : Int32)), .val (.int vh), .val .null, .val .null, .val (.ref b1), .unset, .unset, .unset, .unset, .unset] [(.long (9223372036854775807 : Int64))])) rfl (by rw [hml]; rfl) (argsL := [(.long (9223372036854775807 : Int64))]) (rest := []) (lenOf pd_0_1 rfl) rfl (by show 2 * 0 + _ ≤ _; exact Nat.le_of_eq rfl) (hb hby at_120) (fun _ _ => ⟨rfl, rfl, (by decide : 1 + 1 ≤ _), (by decide : 1 + 1 ≤ _)⟩)
      dsimp only [Pt.U, Pt.locs, Pt.cells, Pt.slots] at X52 l52 y52 z52 st52 hQ52
      subst l52 y52 z52
      obtain ⟨b2, rfl, N52q, K52q, o52_E_b2, o52_F_value_b2⟩ := hQ52
      have N52 := Fr.app N51 N52q
      replace old := Old.keep old K52q all0
      replace E_b1 := E_b1.keep K52q
      replace F_value_b1 := F_value_b1.keep K52q nin0
      have Z52 := Nat.le_trans Z51 K52q.1
      have E_b2 := o52_E_b2
      have F_value_b2 := o52_F_value_b2
      refine Go.step st52 ?_
      show Go _ _ _ _ _ _ _ (T52.setTop (mkF m 123 #[.val (.int fl), .val (.long qa), .second, .val (.long qb), .second, .val (.int vd), .val (.int (1 : Int32)), .val (.int vl), .val (.int (1 : Int32)), .val (.int vh), .val .null, .val .null, .val (.ref b1), .unset, .unset, .unset, .unset, .unset] [(.ref b2)]))
      refine Go.step (fun t k => XS.astore X52.here hx rfl (hb hby at_123) rfl rfl (l' := #[.val (.int fl), .val (.long qa), .second, .val (.long qb), .second, .val (.int vd), .val (.int (1 : Int32)), .val (.int vl), .val (.int (1 : Int32)), .val (.int vh), .val .null, .val .null, .val (.ref b1), .val (.ref b2), .unset, .unset, .unset, .unset]) rfl k) ?_
      show Go _ _ _ _ _ _ _ (T52.setTop (mkF m 125 #[.val (.int fl), .val (.long qa), .second, .val (.long qb), .second, .val (.int vd), .val (.int (1 : Int32)), .val (.int vl), .val (.int (1 : Int32)), .val (.int vh), .val .null, .val .null, .val (.ref b1), .val (.ref b2), .unset, .unset, .unset, .unset] []))
      obtain ⟨T53, h53, X53, e53, E53, A53, D53, -, st53⟩ := newO X52 hx hZ hown (hw _ (List.mem_of_getElem? (i := 36) rfl)) (hw _ (List.mem_of_getElem? (i := 37) rfl)) (hw _ (List.mem_of_getElem? (i := 38) rfl)) rfl (g := (mkF m 125 #[.val (.int fl), .val (.long qa), .second, .val (.long qb), .second, .val (.int vd), .val (.int (1 : Int32)), .val (.int vl), .val (.int (1 : Int32)), .val (.int vh), .val .null, .val .null, .val (.ref b1), .val (.ref b2), .unset, .unset, .unset, .unset] [])) rfl (hb hby at_125) (by decide) (by decide)
      obtain ⟨rg, gz53⟩ : ∃ z, z = T52.heap.size := ⟨_, rfl⟩
      have ne_b1_rg : b1 ≠ rg := Nat.ne_of_lt (Nat.lt_of_lt_of_le E_b1.lt (Nat.le_of_eq gz53.symm))
      have ne_b2_rg : b2 ≠ rg := Nat.ne_of_lt (Nat.lt_of_lt_of_le E_b2.lt (Nat.le_of_eq gz53.symm))
      have g_rg : n0 ≤ rg := Nat.le_trans Z52 (Nat.le_of_eq gz53.symm)
      rw [← gz53] at A53 D53 st53
      replace old := Old.ext old E53
      replace E_b1 := E_b1.ext E53
      replace F_value_b1 := F_value_b1.ext E53
      replace E_b2 := E_b2.ext E53
      replace F_value_b2 := F_value_b2.ext E53
      have Z53 := Nat.le_trans Z52 E53.1
      have E_rg := A53
      have F_descending_rg : Fld Z h53 rg "com/example/rootkeep/rootkeep/KeyRange" "descending" "Z" (.int (0 : Int32)) := D53 (Or.inr (hw _ (List.mem_of_getElem? (i := 49) rfl))) (ty := .boolean) (by decide)
      have F_fromStart_rg : Fld Z h53 rg "com/example/rootkeep/rootkeep/KeyRange" "fromStart" "Z" (.int (0 : Int32)) := D53 (Or.inr (hw _ (List.mem_of_getElem? (i := 51) rfl))) (ty := .boolean) (by decide)
      have F_lo_rg : Fld Z h53 rg "com/example/rootkeep/rootkeep/KeyRange" "lo" "Ljava/lang/Object;" .null := D53 (Or.inr (hw _ (List.mem_of_getElem? (i := 53) rfl))) (ty := (.object "java/lang/Object")) (by decide)
      have F_loInclusive_rg : Fld Z h53 rg "com/example/rootkeep/rootkeep/KeyRange" "loInclusive" "Z" (.int (0 : Int32)) := D53 (Or.inr (hw _ (List.mem_of_getElem? (i := 55) rfl))) (ty := .boolean) (by decide)
      have F_toEnd_rg : Fld Z h53 rg "com/example/rootkeep/rootkeep/KeyRange" "toEnd" "Z" (.int (0 : Int32)) := D53 (Or.inr (hw _ (List.mem_of_getElem? (i := 57) rfl))) (ty := .boolean) (by decide)
      have F_hi_rg : Fld Z h53 rg "com/example/rootkeep/rootkeep/KeyRange" "hi" "Ljava/lang/Object;" .null := D53 (Or.inr (hw _ (List.mem_of_getElem? (i := 59) rfl))) (ty := (.object "java/lang/Object")) (by decide)
      have F_hiInclusive_rg : Fld Z h53 rg "com/example/rootkeep/rootkeep/KeyRange" "hiInclusive" "Z" (.int (0 : Int32)) := D53 (Or.inr (hw _ (List.mem_of_getElem? (i := 61) rfl))) (ty := .boolean) (by decide)
      refine Go.step st53 ?_
      show Go _ _ _ _ _ _ _ (T53.setTop (mkF m 128 #[.val (.int fl), .val (.long qa), .second, .val (.long qb), .second, .val (.int vd), .val (.int (1 : Int32)), .val (.int vl), .val (.int (1 : Int32)), .val (.int vh), .val .null, .val .null, .val (.ref b1), .val (.ref b2), .unset, .unset, .unset, .unset] [(.ref rg)]))
      refine Go.step (fun t k => XS.dup X53.here hx rfl (hb hby at_128) rfl rfl k) ?_
      show Go _ _ _ _ _ _ _ (T53.setTop (mkF m 129 #[.val (.int fl), .val (.long qa), .second, .val (.long qb), .second, .val (.int vd), .val (.int (1 : Int32)), .val (.int vl), .val (.int (1 : Int32)), .val (.int vh), .val .null, .val .null, .val (.ref b1), .val (.ref b2), .unset, .unset, .unset, .unset] [(.ref rg), (.ref rg)]))
      refine Go.step (fun t k => XS.iload X53.here hx rfl (hb hby at_129) rfl k) ?_
      show Go _ _ _ _ _ _ _ (T53.setTop (mkF m 131 #[.val (.int fl), .val (.long qa), .second, .val (.long qb), .second, .val (.int vd), .val (.int (1 : Int32)), .val (.int vl), .val (.int (1 : Int32)), .val (.int vh), .val .null, .val .null, .val (.ref b1), .val (.ref b2), .unset, .unset, .unset, .unset] [(.int vd), (.ref rg), (.ref rg)]))
      refine Go.step (fun t k => XS.iload X53.here hx rfl (hb hby at_131) rfl k) ?_
      show Go _ _ _ _ _ _ _ (T53.setTop (mkF m 133 #[.val (.int fl), .val (.long qa), .second, .val (.long qb), .second, .val (.int vd), .val (.int (1 : Int32)), .val (.int vl), .val (.int (1 : Int32)), .val (.int vh), .val .null, .val .null, .val (.ref b1), .val (.ref b2), .unset, .unset, .unset, .unset] [(.int (1 : Int32)), (.int vd), (.ref rg), (.ref rg)]))
      refine Go.step (fun t k => XS.aload X53.here hx rfl (hb hby at_133) rfl rfl k) ?_
      show Go _ _ _ _ _ _ _ (T53.setTop (mkF m 135 #[.val (.int fl), .val (.long qa), .second, .val (.long qb), .second, .val (.int vd), .val (.int (1 : Int32)), .val (.int vl), .val (.int (1 : Int32)), .val (.int vh), .val .null, .val .null, .val (.ref b1), .val (.ref b2), .unset, .unset, .unset, .unset] [.null, (.int (1 : Int32)), (.int vd), (.ref rg), (.ref rg)]))
      refine Go.step (fun t k => XS.iload X53.here hx rfl (hb hby at_135) rfl k) ?_
      show Go _ _ _ _ _ _ _ (T53.setTop (mkF m 137 #[.val (.int fl), .val (.long qa), .second, .val (.long qb), .second, .val (.int vd), .val (.int (1 : Int32)), .val (.int vl), .val (.int (1 : Int32)), .val (.int vh), .val .null, .val .null, .val (.ref b1), .val (.ref b2), .unset, .unset, .unset, .unset] [(.int vl), .null, (.int (1 : Int32)), (.int vd), (.ref rg), (.ref rg)]))
      refine Go.step (fun t k => XS.iload X53.here hx rfl (hb hby at_137) rfl k) ?_
      show Go _ _ _ _ _ _ _ (T53.setTop (mkF m 139 #[.val (.int fl), .val (.long qa), .second, .val (.long qb), .second, .val (.int vd), .val (.int (1 : Int32)), .val (.int vl), .val (.int (1 : Int32)), .val (.int vh), .val .null, .val .null, .val (.ref b1), .val (.ref b2), .unset, .unset, .unset, .unset] [(.int (1 : Int32)), (.int vl), .null, (.int (1 : Int32)), (.int vd), (.ref rg), (.ref rg)]))
      refine Go.step (fun t k => XS.aload X53.here hx rfl (hb hby at_139) rfl rfl k) ?_
      show Go _ _ _ _ _ _ _ (T53.setTop (mkF m 141 #[.val (.int fl), .val (.long qa), .second, .val (.long qb), .second, .val (.int vd), .val (.int (1 : Int32)), .val (.int vl), .val (.int (1 : Int32)), .val (.int vh), .val .null, .val .null, .val (.ref b1), .val (.ref b2), .unset, .unset, .unset, .unset] [.null, (.int (1 : Int32)), (.int vl), .null, (.int (1 : Int32)), (.int vd), (.ref rg), (.ref rg)]))
      refine Go.step (fun t k => XS.iload X53.here hx rfl (hb hby at_141) rfl k) ?_
      show Go _ _ _ _ _ _ _ (T53.setTop (mkF m 143 #[.val (.int fl), .val (.long qa), .second, .val (.long qb), .second, .val (.int vd), .val (.int (1 : Int32)), .val (.int vl), .val (.int (1 : Int32)), .val (.int vh), .val .null, .val .null, .val (.ref b1), .val (.ref b2), .unset, .unset, .unset, .unset] [(.int vh), .null, (.int (1 : Int32)), (.int vl), .null, (.int (1 : Int32)), (.int vd), (.ref rg), (.ref rg)]))
      obtain ⟨_, _, ⟨T54, L54, k54, n54⟩, -, X54, ⟨Lc54, hQ54, l54, y54, z54⟩, st54⟩ := X53.specialBack hx (y := (⟨"com/example/rootkeep/rootkeep/KeyRange", "<init>", "(ZZLjava/lang/Object;ZZLjava/lang/Object;Z)V"⟩ : MethodName)) rfl hown (mvT hZ (hw _ (List.mem_of_getElem? (i := 39) rfl))) (mvT hZ (hw _ (List.mem_of_getElem? (i := 40) rfl))) (mvT hZ (hw _ (List.mem_of_getElem? (i := 41) rfl))) (by decide) (backOf (W := 1) (rm7_11 l Z a0 hw [] rg vd (1 : Int32) vl (1 : Int32) vh h53 n0 Z53 F_descending_rg F_fromStart_rg F_lo_rg F_loInclusive_rg F_toEnd_rg F_hi_rg F_hiInclusive_rg E_rg g_rg (own_01 hvd) (Or.inr rfl) (own_01 hvl) (Or.inr rfl) (own_01 hvh)) hZ (hw _ (List.mem_of_getElem? (i := 41) rfl)) (hw _ (List.mem_of_getElem? (i := 38) rfl)) (by decide) (by decide)) (g := (mkF m 143 #[.val (.int fl), .val (.long qa), .second, .val (.long qb), .second, .val (.int vd), .val (.int (1 : Int32)), .val (.int vl), .val (.int (1 : Int32)), .val (.int vh), .val .null, .val .null, .val (.ref b1), .val (.ref b2), .unset, .unset, .unset, .unset] [(.int vh), .null, (.int (1 : Int32)), (.int vl), .null, (.int (1 : Int32)), (.int vd), (.ref rg), (.ref rg)])) rfl (by rw [hml]; rfl) (Steps.refl _) (a := rg) (argsL := [(.int vd), (.int (1 : Int32)), .null, (.int vl), (.int (1 : Int32)), .null, (.int vh)]) (rest := [(.ref rg)]) (lenOf pd_0_2 rfl) rfl (by show 2 * 0 + _ ≤ _; exact Nat.le_of_eq rfl) (hb hby at_143) (fun _ _ => ⟨rfl, e53, (by decide : 3 + 0 ≤ _), (by decide : 9 + 0 ≤ _)⟩)
      dsimp only [Pt.U, Pt.locs, Pt.cells, Pt.slots] at X54 l54 y54 z54 st54 hQ54
      subst l54 y54 z54
      obtain ⟨rfl, N54q, K54q, o54_F_descending_rg, o54_F_fromStart_rg, o54_F_lo_rg, o54_F_loInclusive_rg, o54_F_toEnd_rg, o54_F_hi_rg, o54_F_hiInclusive_rg⟩ := hQ54
      have N54 := Fr.app N52 N54q
      replace old := Old.keep old K54q (allS g_rg all0)
      replace E_b1 := E_b1.keep K54q
      replace F_value_b1 := F_value_b1.keep K54q (ninS ne_b1_rg nin0)
      replace E_b2 := E_b2.keep K54q
      replace F_value_b2 := F_value_b2.keep K54q (ninS ne_b2_rg nin0)
      replace E_rg := E_rg.keep K54q
      have Z54 := Nat.le_trans Z53 K54q.1
      have F_descending_rg := o54_F_descending_rg
      have F_fromStart_rg := o54_F_fromStart_rg
      have F_lo_rg := o54_F_lo_rg
      have F_loInclusive_rg := o54_F_loInclusive_rg
      have F_toEnd_rg := o54_F_toEnd_rg
      have F_hi_rg := o54_F_hi_rg
      have F_hiInclusive_rg := o54_F_hiInclusive_rg
      refine Go.step (fun t k => st54.trans k) ?_
      show Go _ _ _ _ _ _ _ (T54.setTop (mkF m 146 #[.val (.int fl), .val (.long qa), .second, .val (.long qb), .second, .val (.int vd), .val (.int (1 : Int32)), .val (.int vl), .val (.int (1 : Int32)), .val (.int vh), .val .null, .val .null, .val (.ref b1), .val (.ref b2), .unset, .unset, .unset, .unset] [(.ref rg)]))
      refine Go.step (fun t k => XS.astore X54.here hx rfl (hb hby at_146) rfl rfl (l' := #[.val (.int fl), .val (.long qa), .second, .val (.long qb), .second, .val (.int vd), .val (.int (1 : Int32)), .val (.int vl), .val (.int (1 : Int32)), .val (.int vh), .val .null, .val .null, .val (.ref b1), .val (.ref b2), .val (.ref rg), .unset, .unset, .unset]) rfl k) ?_
      show Go _ _ _ _ _ _ _ (T54.setTop (mkF m 148 #[.val (.int fl), .val (.long qa), .second, .val (.long qb), .second, .val (.int vd), .val (.int (1 : Int32)), .val (.int vl), .val (.int (1 : Int32)), .val (.int vh), .val .null, .val .null, .val (.ref b1), .val (.ref b2), .val (.ref rg), .unset, .unset, .unset] []))
      refine Go.step (fun t k => XS.aload X54.here hx rfl (hb hby at_148) rfl rfl k) ?_
      show Go _ _ _ _ _ _ _ (T54.setTop (mkF m 150 #[.val (.int fl), .val (.long qa), .second, .val (.long qb), .second, .val (.int vd), .val (.int (1 : Int32)), .val (.int vl), .val (.int (1 : Int32)), .val (.int vh), .val .null, .val .null, .val (.ref b1), .val (.ref b2), .val (.ref rg), .unset, .unset, .unset] [(.ref rg)]))
      obtain ⟨cq55, kq55, q55a, q55b, q55c⟩ := isOf hZ rfl E_rg
      obtain ⟨_, _, ⟨T55, L55, k55, n55⟩, -, X55, ⟨Lc55, hQ55, l55, y55, z55⟩, st55⟩ := X54.virtualBack hx (y := (⟨"com/example/rootkeep/rootkeep/KeyRange", "isWhole", "()Z"⟩ : MethodName)) (z := (⟨"com/example/rootkeep/rootkeep/KeyRange", "isWhole", "()Z"⟩ : MethodName)) hown (mvT hZ (hw _ (List.mem_of_getElem? (i := 62) rfl))) (mvT hZ (hw _ (List.mem_of_getElem? (i := 63) rfl))) (notFace_of_selects (args := #[]) (mvT hZ (hw _ (List.mem_of_getElem? (i := 65) rfl)))) (mvT hZ (hw _ (List.mem_of_getElem? (i := 65) rfl))) (mvT hZ (hw _ (List.mem_of_getElem? (i := 64) rfl))) (by decide) (backOf (W := 0) (rm9 l Z a0 hw [] rg (1 : Int32) (1 : Int32) T54.heap n0 Z54 F_fromStart_rg F_toEnd_rg) hZ (hw _ (List.mem_of_getElem? (i := 66) rfl)) (hw _ (List.mem_of_getElem? (i := 38) rfl)) (by decide) (by decide)) q55a q55c (g := (mkF m 150 #[.val (.int fl), .val (.long qa), .second, .val (.long qb), .second, .val (.int vd), .val (.int (1 : Int32)), .val (.int vl), .val (.int (1 : Int32)), .val (.int vh), .val .null, .val .null, .val (.ref b1), .val (.ref b2), .val (.ref rg), .unset, .unset, .unset] [(.ref rg)])) rfl (by rw [hml]; rfl) (Steps.refl _) (argsL := []) (rest := []) (lenOf pd_0_3 rfl) rfl (by show 2 * 0 + _ ≤ _; exact Nat.le_of_eq rfl) (hb hby at_150) (fun _ _ => ⟨rfl, rfl, (by decide : 3 + 0 ≤ _), (by decide : 9 + 0 ≤ _)⟩)
      dsimp only [Pt.U, Pt.locs, Pt.cells, Pt.slots] at X55 l55 y55 z55 st55 hQ55
      subst l55 y55 z55
      obtain ⟨z_55, rfl, N55q, K55q, o55_hz⟩ := hQ55
      have N55 := Fr.app N54 N55q
      refine Go.step (fun t k => st55.trans k) ?_
      show Go _ _ _ _ _ _ _ (T55.setTop (mkF m 153 #[.val (.int fl), .val (.long qa), .second, .val (.long qb), .second, .val (.int vd), .val (.int (1 : Int32)), .val (.int vl), .val (.int (1 : Int32)), .val (.int vh), .val .null, .val .null, .val (.ref b1), .val (.ref b2), .val (.ref rg), .unset, .unset, .unset] [(.int z_55)]))
      refine Go.step (fun t k => XS.istore X55.here hx rfl (hb hby at_153) rfl (l' := #[.val (.int fl), .val (.long qa), .second, .val (.long qb), .second, .val (.int vd), .val (.int (1 : Int32)), .val (.int vl), .val (.int (1 : Int32)), .val (.int vh), .val .null, .val .null, .val (.ref b1), .val (.ref b2), .val (.ref rg), .val (.int z_55), .unset, .unset]) rfl k) ?_
      show Go _ _ _ _ _ _ _ (T55.setTop (mkF m 155 #[.val (.int fl), .val (.long qa), .second, .val (.long qb), .second, .val (.int vd), .val (.int (1 : Int32)), .val (.int vl), .val (.int (1 : Int32)), .val (.int vh), .val .null, .val .null, .val (.ref b1), .val (.ref b2), .val (.ref rg), .val (.int z_55), .unset, .unset] []))
      refine Go.step (fun t k => XS.aload X55.here hx rfl (hb hby at_155) rfl rfl k) ?_
      show Go _ _ _ _ _ _ _ (T55.setTop (mkF m 157 #[.val (.int fl), .val (.long qa), .second, .val (.long qb), .second, .val (.int vd), .val (.int (1 : Int32)), .val (.int vl), .val (.int (1 : Int32)), .val (.int vh), .val .null, .val .null, .val (.ref b1), .val (.ref b2), .val (.ref rg), .val (.int z_55), .unset, .unset] [(.ref rg)]))
      refine Go.step (fun t k => XS.aload X55.here hx rfl (hb hby at_157) rfl rfl k) ?_
      show Go _ _ _ _ _ _ _ (T55.setTop (mkF m 159 #[.val (.int fl), .val (.long qa), .second, .val (.long qb), .second, .val (.int vd), .val (.int (1 : Int32)), .val (.int vl), .val (.int (1 : Int32)), .val (.int vh), .val .null, .val .null, .val (.ref b1), .val (.ref b2), .val (.ref rg), .val (.int z_55), .unset, .unset] [(.ref b1), (.ref rg)]))
      obtain ⟨cq56, kq56, q56a, q56b, q56c⟩ := isOf hZ K55q E_rg
      obtain ⟨_, _, ⟨T56, L56, k56, n56⟩, -, X56, ⟨Lc56, hQ56, l56, y56, z56⟩, st56⟩ := X55.virtualBack hx (y := (⟨"com/example/rootkeep/rootkeep/KeyRange", "tooLow", "(Ljava/lang/Object;)Z"⟩ : MethodName)) (z := (⟨"com/example/rootkeep/rootkeep/KeyRange", "tooLow", "(Ljava/lang/Object;)Z"⟩ : MethodName)) hown (mvT hZ (hw _ (List.mem_of_getElem? (i := 67) rfl))) (mvT hZ (hw _ (List.mem_of_getElem? (i := 68) rfl))) (notFace_of_selects (args := #[]) (mvT hZ (hw _ (List.mem_of_getElem? (i := 70) rfl)))) (mvT hZ (hw _ (List.mem_of_getElem? (i := 70) rfl))) (mvT hZ (hw _ (List.mem_of_getElem? (i := 69) rfl))) (by decide) (backOf (W := 0) (rm10_s l Z a0 hw [] rg b1 T54.heap n0 Z54 F_fromStart_rg) hZ (hw _ (List.mem_of_getElem? (i := 71) rfl)) (hw _ (List.mem_of_getElem? (i := 38) rfl)) (by decide) (by decide)) q56a q56c (g := (mkF m 159 #[.val (.int fl), .val (.long qa), .second, .val (.long qb), .second, .val (.int vd), .val (.int (1 : Int32)), .val (.int vl), .val (.int (1 : Int32)), .val (.int vh), .val .null, .val .null, .val (.ref b1), .val (.ref b2), .val (.ref rg), .val (.int z_55), .unset, .unset] [(.ref b1), (.ref rg)])) rfl (by rw [hml]; rfl) (Steps.refl _) (argsL := [(.ref b1)]) (rest := []) (lenOf pd_0_4 rfl) rfl (by show 2 * 0 + _ ≤ _; exact Nat.le_of_eq rfl) (hb hby at_159) (fun _ _ => ⟨rfl, K55q, (by decide : 3 + 0 ≤ _), (by decide : 9 + 0 ≤ _)⟩)
      dsimp only [Pt.U, Pt.locs, Pt.cells, Pt.slots] at X56 l56 y56 z56 st56 hQ56
      subst l56 y56 z56
      obtain ⟨rfl, N56q, K56q⟩ := hQ56
      have N56 := Fr.app N55 N56q
      refine Go.step (fun t k => st56.trans k) ?_
      show Go _ _ _ _ _ _ _ (T56.setTop (mkF m 162 #[.val (.int fl), .val (.long qa), .second, .val (.long qb), .second, .val (.int vd), .val (.int (1 : Int32)), .val (.int vl), .val (.int (1 : Int32)), .val (.int vh), .val .null, .val .null, .val (.ref b1), .val (.ref b2), .val (.ref rg), .val (.int z_55), .unset, .unset] [(.int (0 : Int32))]))
      refine Go.step (fun t k => XS.ifNo X56.here hx rfl (hb hby at_162) rfl ((if0 _ _).trans (teq (by decide : (0 : Int32) = (0 : Int32))).2) k) ?_
      show Go _ _ _ _ _ _ _ (T56.setTop (mkF m 165 #[.val (.int fl), .val (.long qa), .second, .val (.long qb), .second, .val (.int vd), .val (.int (1 : Int32)), .val (.int vl), .val (.int (1 : Int32)), .val (.int vh), .val .null, .val .null, .val (.ref b1), .val (.ref b2), .val (.ref rg), .val (.int z_55), .unset, .unset] []))
      refine Go.step (fun t k => XS.aload X56.here hx rfl (hb hby at_165) rfl rfl k) ?_
      show Go _ _ _ _ _ _ _ (T56.setTop (mkF m 167 #[.val (.int fl), .val (.long qa), .second, .val (.long qb), .second, .val (.int vd), .val (.int (1 : Int32)), .val (.int vl), .val (.int (1 : Int32)), .val (.int vh), .val .null, .val .null, .val (.ref b1), .val (.ref b2), .val (.ref rg), .val (.int z_55), .unset, .unset] [(.ref rg)]))
      refine Go.step (fun t k => XS.aload X56.here hx rfl (hb hby at_167) rfl rfl k) ?_
      show Go _ _ _ _ _ _ _ (T56.setTop (mkF m 169 #[.val (.int fl), .val (.long qa), .second, .val (.long qb), .second, .val (.int vd), .val (.int (1 : Int32)), .val (.int vl), .val (.int (1 : Int32)), .val (.int vh), .val .null, .val .null, .val (.ref b1), .val (.ref b2), .val (.ref rg), .val (.int z_55), .unset, .unset] [(.ref b2), (.ref rg)]))
      obtain ⟨cq57, kq57, q57a, q57b, q57c⟩ := isOf hZ K56q E_rg
      obtain ⟨_, _, ⟨T57, L57, k57, n57⟩, -, X57, ⟨Lc57, hQ57, l57, y57, z57⟩, st57⟩ := X56.virtualBack hx (y := (⟨"com/example/rootkeep/rootkeep/KeyRange", "tooHigh", "(Ljava/lang/Object;)Z"⟩ : MethodName)) (z := (⟨"com/example/rootkeep/rootkeep/KeyRange", "tooHigh", "(Ljava/lang/Object;)Z"⟩ : MethodName)) hown (mvT hZ (hw _ (List.mem_of_getElem? (i := 101) rfl))) (mvT hZ (hw _ (List.mem_of_getElem? (i := 102) rfl))) (notFace_of_selects (args := #[]) (mvT hZ (hw _ (List.mem_of_getElem? (i := 104) rfl)))) (mvT hZ (hw _ (List.mem_of_getElem? (i := 104) rfl))) (mvT hZ (hw _ (List.mem_of_getElem? (i := 103) rfl))) (by decide) (backOf (W := 0) (rm16_s l Z a0 hw [] rg b2 T54.heap n0 Z54 F_toEnd_rg) hZ (hw _ (List.mem_of_getElem? (i := 105) rfl)) (hw _ (List.mem_of_getElem? (i := 38) rfl)) (by decide) (by decide)) q57a q57c (g := (mkF m 169 #[.val (.int fl), .val (.long qa), .second, .val (.long qb), .second, .val (.int vd), .val (.int (1 : Int32)), .val (.int vl), .val (.int (1 : Int32)), .val (.int vh), .val .null, .val .null, .val (.ref b1), .val (.ref b2), .val (.ref rg), .val (.int z_55), .unset, .unset] [(.ref b2), (.ref rg)])) rfl (by rw [hml]; rfl) (Steps.refl _) (argsL := [(.ref b2)]) (rest := []) (lenOf pd_0_4 rfl) rfl (by show 2 * 0 + _ ≤ _; exact Nat.le_of_eq rfl) (hb hby at_169) (fun _ _ => ⟨rfl, K56q, (by decide : 3 + 0 ≤ _), (by decide : 9 + 0 ≤ _)⟩)
      dsimp only [Pt.U, Pt.locs, Pt.cells, Pt.slots] at X57 l57 y57 z57 st57 hQ57
      subst l57 y57 z57
      obtain ⟨rfl, N57q, K57q⟩ := hQ57
      have N57 := Fr.app N56 N57q
      refine Go.step (fun t k => st57.trans k) ?_
      show Go _ _ _ _ _ _ _ (T57.setTop (mkF m 172 #[.val (.int fl), .val (.long qa), .second, .val (.long qb), .second, .val (.int vd), .val (.int (1 : Int32)), .val (.int vl), .val (.int (1 : Int32)), .val (.int vh), .val .null, .val .null, .val (.ref b1), .val (.ref b2), .val (.ref rg), .val (.int z_55), .unset, .unset] [(.int (0 : Int32))]))
      refine Go.step (fun t k => XS.ifNo X57.here hx rfl (hb hby at_172) rfl ((if0 _ _).trans (teq (by decide : (0 : Int32) = (0 : Int32))).2) k) ?_
      show Go _ _ _ _ _ _ _ (T57.setTop (mkF m 175 #[.val (.int fl), .val (.long qa), .second, .val (.long qb), .second, .val (.int vd), .val (.int (1 : Int32)), .val (.int vl), .val (.int (1 : Int32)), .val (.int vh), .val .null, .val .null, .val (.ref b1), .val (.ref b2), .val (.ref rg), .val (.int z_55), .unset, .unset] []))
      refine Go.step (fun t k => XS.iconst X57.here hx rfl (hb hby at_175) k) ?_
      show Go _ _ _ _ _ _ _ (T57.setTop (mkF m 176 #[.val (.int fl), .val (.long qa), .second, .val (.long qb), .second, .val (.int vd), .val (.int (1 : Int32)), .val (.int vl), .val (.int (1 : Int32)), .val (.int vh), .val .null, .val .null, .val (.ref b1), .val (.ref b2), .val (.ref rg), .val (.int z_55), .unset, .unset] [(.int (1 : Int32))]))
      refine Go.step (fun t k => XS.goto X57.here hx rfl (pc0 := 176) (pc' := 180) rfl (hb hby at_176) (by decide) (by decide) k) ?_
      show Go _ _ _ _ _ _ _ (T57.setTop (mkF m 180 #[.val (.int fl), .val (.long qa), .second, .val (.long qb), .second, .val (.int vd), .val (.int (1 : Int32)), .val (.int vl), .val (.int (1 : Int32)), .val (.int vh), .val .null, .val .null, .val (.ref b1), .val (.ref b2), .val (.ref rg), .val (.int z_55), .unset, .unset] [(.int (1 : Int32))]))
      refine Go.step (fun t k => XS.istore X57.here hx rfl (hb hby at_180) rfl (l' := #[.val (.int fl), .val (.long qa), .second, .val (.long qb), .second, .val (.int vd), .val (.int (1 : Int32)), .val (.int vl), .val (.int (1 : Int32)), .val (.int vh), .val .null, .val .null, .val (.ref b1), .val (.ref b2), .val (.ref rg), .val (.int z_55), .val (.int (1 : Int32)), .unset]) rfl k) ?_
      show Go _ _ _ _ _ _ _ (T57.setTop (mkF m 182 #[.val (.int fl), .val (.long qa), .second, .val (.long qb), .second, .val (.int vd), .val (.int (1 : Int32)), .val (.int vl), .val (.int (1 : Int32)), .val (.int vh), .val .null, .val .null, .val (.ref b1), .val (.ref b2), .val (.ref rg), .val (.int z_55), .val (.int (1 : Int32)), .unset] []))
      refine Go.step (fun t k => XS.aload X57.here hx rfl (hb hby at_182) rfl rfl k) ?_
      show Go _ _ _ _ _ _ _ (T57.setTop (mkF m 184 #[.val (.int fl), .val (.long qa), .second, .val (.long qb), .second, .val (.int vd), .val (.int (1 : Int32)), .val (.int vl), .val (.int (1 : Int32)), .val (.int vh), .val .null, .val .null, .val (.ref b1), .val (.ref b2), .val (.ref rg), .val (.int z_55), .val (.int (1 : Int32)), .unset] [(.ref rg)]))
      obtain ⟨cq58, kq58, q58a, q58b, q58c⟩ := isOf hZ K57q E_rg
      obtain ⟨_, _, ⟨T58, L58, k58, n58⟩, -, X58, ⟨Lc58, hQ58, l58, y58, z58⟩, st58⟩ := X57.virtualBack hx (y := (⟨"com/example/rootkeep/rootkeep/KeyRange", "reversed", "()Lcom/example/rootkeep/rootkeep/KeyRange;"⟩ : MethodName)) (z := (⟨"com/example/rootkeep/rootkeep/KeyRange", "reversed", "()Lcom/example/rootkeep/rootkeep/KeyRange;"⟩ : MethodName)) hown (mvT hZ (hw _ (List.mem_of_getElem? (i := 94) rfl))) (mvT hZ (hw _ (List.mem_of_getElem? (i := 95) rfl))) (notFace_of_selects (args := #[]) (mvT hZ (hw _ (List.mem_of_getElem? (i := 97) rfl)))) (mvT hZ (hw _ (List.mem_of_getElem? (i := 97) rfl))) (mvT hZ (hw _ (List.mem_of_getElem? (i := 96) rfl))) (by decide) (backOf (W := 0) (rm15_11 l Z a0 hw [] rg vd (1 : Int32) vl (1 : Int32) vh T54.heap n0 Z54 F_descending_rg F_fromStart_rg F_lo_rg F_loInclusive_rg F_toEnd_rg F_hi_rg F_hiInclusive_rg E_rg (own_01 hvd) (Or.inr rfl) (own_01 hvl) (Or.inr rfl) (own_01 hvh)) hZ (hw _ (List.mem_of_getElem? (i := 98) rfl)) (hw _ (List.mem_of_getElem? (i := 38) rfl)) (by decide) (by decide)) q58a q58c (g := (mkF m 184 #[.val (.int fl), .val (.long qa), .second, .val (.long qb), .second, .val (.int vd), .val (.int (1 : Int32)), .val (.int vl), .val (.int (1 : Int32)), .val (.int vh), .val .null, .val .null, .val (.ref b1), .val (.ref b2), .val (.ref rg), .val (.int z_55), .val (.int (1 : Int32)), .unset] [(.ref rg)])) rfl (by rw [hml]; rfl) (Steps.refl _) (argsL := []) (rest := []) (lenOf pd_0_5 rfl) rfl (by show 2 * 0 + _ ≤ _; exact Nat.le_of_eq rfl) (hb hby at_184) (fun _ _ => ⟨rfl, K57q, (by decide : 3 + 1 ≤ _), (by decide : 9 + 7 ≤ _)⟩)
      dsimp only [Pt.U, Pt.locs, Pt.cells, Pt.slots] at X58 l58 y58 z58 st58 hQ58
      subst l58 y58 z58
      obtain ⟨br, rfl, N58q, K58q, o58_E_br, o58_F_fromStart_br, o58_F_toEnd_br⟩ := hQ58
      have N58 := Fr.app N57 N58q
      replace old := Old.keep old K58q all0
      replace E_b1 := E_b1.keep K58q
      replace F_value_b1 := F_value_b1.keep K58q nin0
      replace E_b2 := E_b2.keep K58q
      replace F_value_b2 := F_value_b2.keep K58q nin0
      replace E_rg := E_rg.keep K58q
      replace F_descending_rg := F_descending_rg.keep K58q nin0
      replace F_fromStart_rg := F_fromStart_rg.keep K58q nin0
      replace F_lo_rg := F_lo_rg.keep K58q nin0
      replace F_loInclusive_rg := F_loInclusive_rg.keep K58q nin0
      replace F_toEnd_rg := F_toEnd_rg.keep K58q nin0
      replace F_hi_rg := F_hi_rg.keep K58q nin0
      replace F_hiInclusive_rg := F_hiInclusive_rg.keep K58q nin0
      have Z58 := Nat.le_trans Z54 K58q.1
      have E_br := o58_E_br
      have F_fromStart_br := o58_F_fromStart_br
      have F_toEnd_br := o58_F_toEnd_br
      refine Go.step (fun t k => st58.trans k) ?_
      show Go _ _ _ _ _ _ _ (T58.setTop (mkF m 187 #[.val (.int fl), .val (.long qa), .second, .val (.long qb), .second, .val (.int vd), .val (.int (1 : Int32)), .val (.int vl), .val (.int (1 : Int32)), .val (.int vh), .val .null, .val .null, .val (.ref b1), .val (.ref b2), .val (.ref rg), .val (.int z_55), .val (.int (1 : Int32)), .unset] [(.ref br)]))
      obtain ⟨cq59, kq59, q59a, q59b, q59c⟩ := isOf hZ rfl E_br
      obtain ⟨_, _, ⟨T59, L59, k59, n59⟩, -, X59, ⟨Lc59, hQ59, l59, y59, z59⟩, st59⟩ := X58.virtualBack hx (y := (⟨"com/example/rootkeep/rootkeep/KeyRange", "isWhole", "()Z"⟩ : MethodName)) (z := (⟨"com/example/rootkeep/rootkeep/KeyRange", "isWhole", "()Z"⟩ : MethodName)) hown (mvT hZ (hw _ (List.mem_of_getElem? (i := 62) rfl))) (mvT hZ (hw _ (List.mem_of_getElem? (i := 63) rfl))) (notFace_of_selects (args := #[]) (mvT hZ (hw _ (List.mem_of_getElem? (i := 65) rfl)))) (mvT hZ (hw _ (List.mem_of_getElem? (i := 65) rfl))) (mvT hZ (hw _ (List.mem_of_getElem? (i := 64) rfl))) (by decide) (backOf (W := 0) (rm9 l Z a0 hw [] br (1 : Int32) (1 : Int32) T58.heap n0 Z58 F_fromStart_br F_toEnd_br) hZ (hw _ (List.mem_of_getElem? (i := 66) rfl)) (hw _ (List.mem_of_getElem? (i := 38) rfl)) (by decide) (by decide)) q59a q59c (g := (mkF m 187 #[.val (.int fl), .val (.long qa), .second, .val (.long qb), .second, .val (.int vd), .val (.int (1 : Int32)), .val (.int vl), .val (.int (1 : Int32)), .val (.int vh), .val .null, .val .null, .val (.ref b1), .val (.ref b2), .val (.ref rg), .val (.int z_55), .val (.int (1 : Int32)), .unset] [(.ref br)])) rfl (by rw [hml]; rfl) (Steps.refl _) (argsL := []) (rest := []) (lenOf pd_0_3 rfl) rfl (by show 2 * 0 + _ ≤ _; exact Nat.le_of_eq rfl) (hb hby at_187) (fun _ _ => ⟨rfl, rfl, (by decide : 4 + 0 ≤ _), (by decide : 16 + 0 ≤ _)⟩)
      dsimp only [Pt.U, Pt.locs, Pt.cells, Pt.slots] at X59 l59 y59 z59 st59 hQ59
      subst l59 y59 z59
      obtain ⟨z_59, rfl, N59q, K59q, o59_hz⟩ := hQ59
      have N59 := Fr.app N58 N59q
      refine Go.step (fun t k => st59.trans k) ?_
      show Go _ _ _ _ _ _ _ (T59.setTop (mkF m 190 #[.val (.int fl), .val (.long qa), .second, .val (.long qb), .second, .val (.int vd), .val (.int (1 : Int32)), .val (.int vl), .val (.int (1 : Int32)), .val (.int vh), .val .null, .val .null, .val (.ref b1), .val (.ref b2), .val (.ref rg), .val (.int z_55), .val (.int (1 : Int32)), .unset] [(.int z_59)]))
      refine Go.step (fun t k => XS.istore X59.here hx rfl (hb hby at_190) rfl (l' := #[.val (.int fl), .val (.long qa), .second, .val (.long qb), .second, .val (.int vd), .val (.int (1 : Int32)), .val (.int vl), .val (.int (1 : Int32)), .val (.int vh), .val .null, .val .null, .val (.ref b1), .val (.ref b2), .val (.ref rg), .val (.int z_55), .val (.int (1 : Int32)), .val (.int z_59)]) rfl k) ?_
      show Go _ _ _ _ _ _ _ (T59.setTop (mkF m 192 #[.val (.int fl), .val (.long qa), .second, .val (.long qb), .second, .val (.int vd), .val (.int (1 : Int32)), .val (.int vl), .val (.int (1 : Int32)), .val (.int vh), .val .null, .val .null, .val (.ref b1), .val (.ref b2), .val (.ref rg), .val (.int z_55), .val (.int (1 : Int32)), .val (.int z_59)] []))
      refine Go.step (fun t k => XS.iload X59.here hx rfl (hb hby at_192) rfl k) ?_
      show Go _ _ _ _ _ _ _ (T59.setTop (mkF m 194 #[.val (.int fl), .val (.long qa), .second, .val (.long qb), .second, .val (.int vd), .val (.int (1 : Int32)), .val (.int vl), .val (.int (1 : Int32)), .val (.int vh), .val .null, .val .null, .val (.ref b1), .val (.ref b2), .val (.ref rg), .val (.int z_55), .val (.int (1 : Int32)), .val (.int z_59)] [(.int z_55)]))
      refine Go.step (fun t k => XS.iload X59.here hx rfl (hb hby at_194) rfl k) ?_
      show Go _ _ _ _ _ _ _ (T59.setTop (mkF m 196 #[.val (.int fl), .val (.long qa), .second, .val (.long qb), .second, .val (.int vd), .val (.int (1 : Int32)), .val (.int vl), .val (.int (1 : Int32)), .val (.int vh), .val .null, .val .null, .val (.ref b1), .val (.ref b2), .val (.ref rg), .val (.int z_55), .val (.int (1 : Int32)), .val (.int z_59)] [(.int (1 : Int32)), (.int z_55)]))
      refine Go.step (fun t k => XS.icmpNo X59.here hx rfl (hb hby at_196) rfl (teq (o55_hz.trans (by decide) : z_55 = (1 : Int32))).2 k) ?_
      show Go _ _ _ _ _ _ _ (T59.setTop (mkF m 199 #[.val (.int fl), .val (.long qa), .second, .val (.long qb), .second, .val (.int vd), .val (.int (1 : Int32)), .val (.int vl), .val (.int (1 : Int32)), .val (.int vh), .val .null, .val .null, .val (.ref b1), .val (.ref b2), .val (.ref rg), .val (.int z_55), .val (.int (1 : Int32)), .val (.int z_59)] []))
      refine Go.step (fun t k => XS.iload X59.here hx rfl (hb hby at_199) rfl k) ?_
      show Go _ _ _ _ _ _ _ (T59.setTop (mkF m 201 #[.val (.int fl), .val (.long qa), .second, .val (.long qb), .second, .val (.int vd), .val (.int (1 : Int32)), .val (.int vl), .val (.int (1 : Int32)), .val (.int vh), .val .null, .val .null, .val (.ref b1), .val (.ref b2), .val (.ref rg), .val (.int z_55), .val (.int (1 : Int32)), .val (.int z_59)] [(.int z_59)]))
      refine Go.step (fun t k => XS.iload X59.here hx rfl (hb hby at_201) rfl k) ?_
      show Go _ _ _ _ _ _ _ (T59.setTop (mkF m 203 #[.val (.int fl), .val (.long qa), .second, .val (.long qb), .second, .val (.int vd), .val (.int (1 : Int32)), .val (.int vl), .val (.int (1 : Int32)), .val (.int vh), .val .null, .val .null, .val (.ref b1), .val (.ref b2), .val (.ref rg), .val (.int z_55), .val (.int (1 : Int32)), .val (.int z_59)] [(.int z_55), (.int z_59)]))
      refine Go.step (fun t k => XS.icmpNo X59.here hx rfl (hb hby at_203) rfl (teq (o59_hz.trans o55_hz.symm : z_59 = z_55)).2 k) ?_
      show Go _ _ _ _ _ _ _ (T59.setTop (mkF m 206 #[.val (.int fl), .val (.long qa), .second, .val (.long qb), .second, .val (.int vd), .val (.int (1 : Int32)), .val (.int vl), .val (.int (1 : Int32)), .val (.int vh), .val .null, .val .null, .val (.ref b1), .val (.ref b2), .val (.ref rg), .val (.int z_55), .val (.int (1 : Int32)), .val (.int z_59)] []))
      refine Go.step (fun t k => XS.iconst X59.here hx rfl (hb hby at_206) k) ?_
      show Go _ _ _ _ _ _ _ (T59.setTop (mkF m 207 #[.val (.int fl), .val (.long qa), .second, .val (.long qb), .second, .val (.int vd), .val (.int (1 : Int32)), .val (.int vl), .val (.int (1 : Int32)), .val (.int vh), .val .null, .val .null, .val (.ref b1), .val (.ref b2), .val (.ref rg), .val (.int z_55), .val (.int (1 : Int32)), .val (.int z_59)] [(.int (1 : Int32))]))
      refine Go.step (fun t k => XS.goto X59.here hx rfl (pc0 := 207) (pc' := 211) rfl (hb hby at_207) (by decide) (by decide) k) ?_
      show Go _ _ _ _ _ _ _ (T59.setTop (mkF m 211 #[.val (.int fl), .val (.long qa), .second, .val (.long qb), .second, .val (.int vd), .val (.int (1 : Int32)), .val (.int vl), .val (.int (1 : Int32)), .val (.int vh), .val .null, .val .null, .val (.ref b1), .val (.ref b2), .val (.ref rg), .val (.int z_55), .val (.int (1 : Int32)), .val (.int z_59)] [(.int (1 : Int32))]))
      refine Go.retN X59 Bd.notSynchronized hx (t := .boolean) Bd.returns (by simp) (hb hby at_211) (by decide) (by decide) (1 : Int32) rfl ?_
      rw [K59q]
      exact ⟨rfl, N59⟩
set_option maxRecDepth 65536 in
set_option maxHeartbeats 40000000 in
theorem comes_1 {Post : Tables → Env → Array Value → State → Outcome → State → Prop} (hpost : ∀ tb e args s v u, (limb_1_1.after args s (.returned v) u = true ∧ limb_1_2.after args s (.returned v) u = true ∧ True) → FrameEnd s (.returned v) u (Jvm.fieldLocs frame_1_writes args s ++ Jvm.arrayLocs frame_1_arrays args s ++ Jvm.staticLocs frame_1_statics s) 24 128 → Post tb e args s (.returned v) u) :
    ArmFor flags0 classFile x code maxLocals ret World_1 tables_1 room_1 Calls_1 rest_1 Pre_1 Post := by
  intro l hfl _ _ p e ha hc hk s m args below hf hA hF happ hP
  obtain ⟨hcalls, hrest, hpre⟩ := hP
  obtain ⟨-, -, -, hnamed, -, -, -, hat⟩ := (Spec.applies_iff hf).mp happ
  obtain ⟨hg, hn⟩ := and_e (Cond.before_iff.mp (show (Jvm.Cond.and given_1 narrow_1).before args s = true from hpre))
  obtain ⟨gv1, gv2⟩ := and_e hg
  obtain ⟨gv3, gv4⟩ := and_e gv2
  obtain ⟨gv5, gv6⟩ := and_e gv4
  obtain ⟨w0, w1, w2, rfl⟩ : ∃ w0 w1 w2 : Value, args = #[w0, w1, w2] := by
    have hs : args.size = 3 := by simpa [Cond.value, given_1] using gv1
    obtain ⟨L⟩ := args
    match L, hs with
    | [w0, w1, w2], _ => exact ⟨w0, w1, w2, rfl⟩
  have hw := fun d (hd : d ∈ tables_1) => atoms_spec (ws := Jvm.Cond.code x code maxLocals ret :: tables_1) hat d (List.mem_cons_of_mem _ hd)
  have hfit : Fit s := fun {y c} hc i hi => by
    obtain ⟨ha, rfl⟩ := Array.getElem?_eq_some_iff.mp hc
    have q := List.all_eq_true.mp ((Array.all_eq_true_iff_forall_mem.mp hF) _ (Array.getElem_mem ha)) i (List.mem_range.mpr hi)
    simpa [Array.getElem?_eq_getElem hi] using q
  obtain ⟨hsets, hown0⟩ := atoms_of _ (rest_1_c_eq ▸ (show rest_1_c.before _ s = true from hrest))
  have hr0 := Cond.before_iff.mp hown0
  obtain ⟨i0, ei0⟩ := is_v gv3
  obtain rfl : w0 = (.int i0) := Option.some.inj ei0
  obtain ⟨i1, ei1⟩ := isL_v gv5
  obtain rfl : w1 = (.long i1) := Option.some.inj ei1
  obtain ⟨i2, ei2⟩ := isL_v gv6
  obtain rfl : w2 = (.long i2) := Option.some.inj ei2
  have k2 := Cond.before_iff.mp (hsets _ (List.mem_of_getElem? (i := 2) rfl))
  obtain ⟨ca, ev⟩ := arr_v k2
  obtain ⟨cl, hAr⟩ := Arr.start ev k2
  have hsta : Sta s s.heap "java/lang/Long$LongCache" "cache" "[Ljava/lang/Long;" (.ref ca) := Sta.start ev (Or.inl (hsets _ (List.mem_of_getElem? (i := 1) rfl)))
  have hca : own_cache s ca := own_cstart hAr (fun idx => ev) (Cond.before_iff.mp (hsets _ (List.mem_of_getElem? (i := 4) rfl))) (Cond.before_iff.mp (hsets _ (List.mem_of_getElem? (i := 5) rfl)))
  obtain ⟨n, o, h1, h2, h3, _, L, rfl, ⟨rfl, N⟩, hq⟩ := rm0 l s _ hw tables_1 i0 i1 i2 ca s.heap s.heap.size (Nat.le_refl _) (Old.start s) hsta hca p e ha hc hk s m _ below hf ((Spec.applies_iff_loose hf).mp happ).1 ⟨rfl, State.Warmed39.refl s, rfl⟩ trivial
  refine ⟨n, _, h1, h2, h3, hpost _ _ _ _ _ _ ⟨Cond.after_iff.mpr rfl, Cond.after_iff.mpr (eq_i res_at (Term.int_eval (1)) rfl), trivial⟩ ⟨hq.1, hq.2.1, (hq.2.2.sift fun y hy => Or.inr (N y hy)).mono (by decide) (by decide)⟩⟩
theorem main_1_1 : Claimed_1_1 := comes_1 fun _ _ _ _ _ _ h hF => ⟨h.1, hF⟩
theorem main_1_2 : Claimed_1_2 := comes_1 fun _ _ _ _ _ _ h hF => ⟨h.2.1, hF⟩
end Jvm.Pilot.@@N@@
namespace Jvm.Pilot.@@N@@
open Jvm Jvm.ClassFile Sem Op Lib Jvm.Free Jvm.Stand Jvm.Pilot.@@N@@.Jvm.D
/-! MADE BY PROGRAM (witnessworld.py) out of the Statement's table words and the real class files: 19 classes; the members and pool entries that the words name. The judged class is class 1, her method 1. -/
namespace start1
open Jvm.ClassFile
def u (s : String) : CpInfo := .utf8 (stringToUtf16 s)
/-- a pool by its gaps: so many unusable entries, then the entry; so many at the end -/
def gap : Nat → List CpInfo → List CpInfo
  | 0, r => r
  | n + 1, r => .unusable :: gap n r
def poolList (es : List (Nat × CpInfo)) (last : Nat) : List CpInfo := es.foldr (fun e r => gap e.1 (e.2 :: r)) (gap last [])
def pool (es : List (Nat × CpInfo)) (last : Nat) : Array CpInfo := ⟨poolList es last⟩
def fileOf (pool : Array CpInfo) (this : Nat) (attrs : Array Attribute := #[]) (ms : Array MethodInfo := #[]) (fl : Nat := 33) (sup : Nat := 0) (ifs : Array Nat := #[]) (fds : Array FieldInfo := #[]) : ClassFile where
  minorVersion := 0
  majorVersion := 65
  constantPool := pool
  accessFlags := fl
  thisClass := this
  superClass := sup
  interfaces := ifs
  fields := fds
  methods := ms
  attributes := attrs
def plain (name : String) (sup : Option ClassId) : Class where
  name := name
  kind := .ordinary
  loader := none
  accessFlags := 33
  super := sup
  interfaces := #[]
  cf := none
  fields := #[]
  methods := #[]
  instanceTypes := #[]
  staticTypes := #[]
  resolved := #[]
  callSites := []
  init := .initialized
  statics := none
  mirror := none

def pool0 : Array CpInfo := pool [(5, u "<init>"), (0, u "()V"), (1, .class_ 10), (1, u "java/lang/Object")] 113

def k0c0 : Code := { maxStack := 0, maxLocals := 1, code := object_method_1_code, exceptionTable := #[], attributes := #[] }
def k0m0 : Method := { name := "<init>", desc := "()V", sig := { parameters := [], returnType := none }, accessFlags := 1, code := some k0c0 }
/-- java/lang/Object -/
def k0 : Class := { plain "java/lang/Object" none with
  accessFlags := 33
  interfaces := #[]
  cf := some (fileOf pool0 8 #[] #[{ accessFlags := 1, nameIndex := 5, descriptorIndex := 6, attributes := #[] }] 33 0 #[] #[])
  fields := #[]
  methods := #[k0m0]
  instanceTypes := #[]
  staticTypes := #[]
  resolved := Array.replicate 124 none
  statics := none }

def pool1 : Array CpInfo := pool [(2, .class_ 4), (1, u "java/lang/Object"), (0, u "<init>"), (0, u "()V"), (0, .class_ 8), (0, u "java/lang/Long"), (0, .long 9223372036854775809), (1, .methodref 12 13), (0, .class_ 14), (0, .nameAndType 15 16), (0, u "java/lang/Math"), (0, u "max"), (0, u "(JJ)J"), (0, .methodref 7 18), (0, .nameAndType 19 20), (0, u "valueOf"), (0, u "(J)Ljava/lang/Long;"), (0, .long 9223372036854775806), (1, .methodref 12 24), (0, .nameAndType 25 16), (0, u "min"), (0, .long 9223372036854775808), (1, .long 9223372036854775807), (1, .class_ 31), (0, u "com/example/rootkeep/rootkeep/KeyRange"), (0, .methodref 30 33), (0, .nameAndType 5 34), (0, u "(ZZLjava/lang/Object;ZZLjava/lang/Object;Z)V"), (0, .methodref 30 36), (0, .nameAndType 37 38), (0, u "isWhole"), (0, u "()Z"), (0, .methodref 30 40), (0, .nameAndType 41 42), (0, u "tooLow"), (0, u "(Ljava/lang/Object;)Z"), (0, .methodref 30 44), (0, .nameAndType 45 42), (0, u "tooHigh"), (0, .methodref 30 47), (0, .nameAndType 48 49), (0, u "reversed"), (0, u "()Lcom/example/rootkeep/rootkeep/KeyRange;"), (0, .class_ 51), (0, u "com/example/rootkeep/rootkeep/KeyRangeIsWholePinLaw"), (2, u "law"), (0, u "(IJJ)Z")] 3

def k1m0 : Method := { name := "<init>", desc := "()V", sig := { parameters := [], returnType := none }, accessFlags := 2, code := none }
def k1c1 : Code := { maxStack := 9, maxLocals := 18, code := code, exceptionTable := #[], attributes := #[] }
def k1m1 : Method := { name := "law", desc := "(IJJ)Z", sig := { parameters := [.int, .long, .long], returnType := some .boolean }, accessFlags := 9, code := some k1c1 }
/-- com/example/rootkeep/rootkeep/KeyRangeIsWholePinLaw -/
def k1 : Class := { plain "com/example/rootkeep/rootkeep/KeyRangeIsWholePinLaw" (some 0) with
  accessFlags := 49
  interfaces := #[]
  cf := some (fileOf pool1 50 #[] #[{ accessFlags := 2, nameIndex := 5, descriptorIndex := 6, attributes := #[] }, { accessFlags := 9, nameIndex := 54, descriptorIndex := 55, attributes := #[] }] 49 2 #[] #[])
  fields := #[]
  methods := #[k1m0, k1m1]
  instanceTypes := #[]
  staticTypes := #[]
  resolved := Array.replicate 59 none
  statics := none }

def pool2 : Array CpInfo := pool [(1, .class_ 2), (0, u "java/lang/Math"), (1, .class_ 6), (1, u "java/lang/Object"), (0, u "<init>"), (0, u "()V"), (89, .class_ 100), (1, u "java/lang/Math$RandomNumberGeneratorHolder"), (20, u "(JJ)J"), (50, u "negativeZeroFloatBits"), (0, u "J"), (2, u "negativeZeroDoubleBits"), (21, u "max"), (2, u "min"), (43, u "$assertionsDisabled"), (0, u "Z"), (91, u "twoToTheDoubleScaleDown"), (0, u "D"), (4, u "twoToTheDoubleScaleUp"), (9, u "E"), (3, u "PI"), (2, u "TAU"), (2, u "DEGREES_TO_RADIANS"), (0, u "RADIANS_TO_DEGREES")] 94

def k2m0 : Method := { name := "<init>", desc := "()V", sig := { parameters := [], returnType := none }, accessFlags := 2, code := none }
def k2c1 : Code := { maxStack := 4, maxLocals := 4, code := jdk_29_method_66_code, exceptionTable := #[], attributes := #[] }
def k2m1 : Method := { name := "max", desc := "(JJ)J", sig := { parameters := [.long, .long], returnType := some .long }, accessFlags := 9, code := some k2c1 }
def k2c2 : Code := { maxStack := 4, maxLocals := 4, code := jdk_29_method_70_code, exceptionTable := #[], attributes := #[] }
def k2m2 : Method := { name := "min", desc := "(JJ)J", sig := { parameters := [.long, .long], returnType := some .long }, accessFlags := 9, code := some k2c2 }
/-- java/lang/Math -/
def k2 : Class := { plain "java/lang/Math" (some 0) with
  accessFlags := 49
  interfaces := #[]
  cf := some (fileOf pool2 1 #[.nestMembers #[98]] #[{ accessFlags := 2, nameIndex := 7, descriptorIndex := 8, attributes := #[] }, { accessFlags := 9, nameIndex := 198, descriptorIndex := 121, attributes := #[] }, { accessFlags := 9, nameIndex := 201, descriptorIndex := 121, attributes := #[] }] 49 4 #[] #[{ accessFlags := 25, nameIndex := 354, descriptorIndex := 339, attributes := #[] }, { accessFlags := 25, nameIndex := 358, descriptorIndex := 339, attributes := #[] }, { accessFlags := 25, nameIndex := 361, descriptorIndex := 339, attributes := #[] }, { accessFlags := 26, nameIndex := 364, descriptorIndex := 339, attributes := #[] }, { accessFlags := 26, nameIndex := 365, descriptorIndex := 339, attributes := #[] }, { accessFlags := 26, nameIndex := 172, descriptorIndex := 173, attributes := #[] }, { accessFlags := 26, nameIndex := 176, descriptorIndex := 173, attributes := #[] }, { accessFlags := 8, nameIndex := 344, descriptorIndex := 339, attributes := #[] }, { accessFlags := 8, nameIndex := 338, descriptorIndex := 339, attributes := #[] }, { accessFlags := 4120, nameIndex := 245, descriptorIndex := 246, attributes := #[] }])
  fields := #[{ name := "E", type := .double, accessFlags := 25, slot := 0, constantValue := 0 }, { name := "PI", type := .double, accessFlags := 25, slot := 1, constantValue := 0 }, { name := "TAU", type := .double, accessFlags := 25, slot := 2, constantValue := 0 }, { name := "DEGREES_TO_RADIANS", type := .double, accessFlags := 26, slot := 3, constantValue := 0 }, { name := "RADIANS_TO_DEGREES", type := .double, accessFlags := 26, slot := 4, constantValue := 0 }, { name := "negativeZeroFloatBits", type := .long, accessFlags := 26, slot := 5, constantValue := 0 }, { name := "negativeZeroDoubleBits", type := .long, accessFlags := 26, slot := 6, constantValue := 0 }, { name := "twoToTheDoubleScaleUp", type := .double, accessFlags := 8, slot := 7, constantValue := 0 }, { name := "twoToTheDoubleScaleDown", type := .double, accessFlags := 8, slot := 8, constantValue := 0 }, { name := "$assertionsDisabled", type := .boolean, accessFlags := 4120, slot := 9, constantValue := 0 }]
  methods := #[k2m0, k2m1, k2m2]
  instanceTypes := #[]
  staticTypes := #[.double, .double, .double, .double, .double, .long, .long, .double, .double, .boolean]
  resolved := Array.replicate 460 none
  statics := none }

def pool3 : Array CpInfo := pool [(1, .class_ 2), (0, u "java/io/Serializable"), (0, .class_ 4), (0, u "java/lang/Object")] 2

/-- java/io/Serializable -/
def k3 : Class := { plain "java/io/Serializable" (some 0) with
  accessFlags := 1537
  interfaces := #[]
  cf := some (fileOf pool3 1 #[] #[] 1537 3 #[] #[])
  fields := #[]
  methods := #[]
  instanceTypes := #[]
  staticTypes := #[]
  resolved := Array.replicate 7 none
  statics := none }

def pool4 : Array CpInfo := pool [(1, .methodref 2 3), (0, .class_ 4), (0, .nameAndType 5 6), (0, u "java/lang/Object"), (0, u "<init>"), (0, u "()V"), (1, .class_ 10), (1, u "java/lang/Number"), (2, .class_ 14), (0, u "java/io/Serializable"), (0, u "serialVersionUID"), (0, u "J")] 20

def k4c0 : Code := { maxStack := 1, maxLocals := 1, code := jdk_18_method_1_code, exceptionTable := #[], attributes := #[] }
def k4m0 : Method := { name := "<init>", desc := "()V", sig := { parameters := [], returnType := none }, accessFlags := 1, code := some k4c0 }
/-- java/lang/Number -/
def k4 : Class := { plain "java/lang/Number" (some 0) with
  accessFlags := 1057
  interfaces := #[3]
  cf := some (fileOf pool4 8 #[] #[{ accessFlags := 1, nameIndex := 5, descriptorIndex := 6, attributes := #[] }] 1057 2 #[13] #[{ accessFlags := 26, nameIndex := 15, descriptorIndex := 16, attributes := #[] }])
  fields := #[{ name := "serialVersionUID", type := .long, accessFlags := 26, slot := 0, constantValue := 0 }]
  methods := #[k4m0]
  instanceTypes := #[]
  staticTypes := #[.long]
  resolved := Array.replicate 37 none
  statics := none }

def pool5 : Array CpInfo := pool [(1, .class_ 2), (0, u "java/lang/Comparable"), (0, .class_ 4), (0, u "java/lang/Object"), (0, u "compareTo"), (0, u "(Ljava/lang/Object;)I")] 5

def k5m0 : Method := { name := "compareTo", desc := "(Ljava/lang/Object;)I", sig := { parameters := [(.object "java/lang/Object")], returnType := some .int }, accessFlags := 1025, code := none }
/-- java/lang/Comparable -/
def k5 : Class := { plain "java/lang/Comparable" (some 0) with
  accessFlags := 1537
  interfaces := #[]
  cf := some (fileOf pool5 1 #[] #[{ accessFlags := 1025, nameIndex := 5, descriptorIndex := 6, attributes := #[] }] 1537 3 #[] #[])
  fields := #[]
  methods := #[k5m0]
  instanceTypes := #[]
  staticTypes := #[]
  resolved := Array.replicate 12 none
  statics := none }

def pool6 : Array CpInfo := pool [(1, .class_ 2), (0, u "java/lang/constant/Constable"), (0, .class_ 4), (0, u "java/lang/Object")] 6

/-- java/lang/constant/Constable -/
def k6 : Class := { plain "java/lang/constant/Constable" (some 0) with
  accessFlags := 1537
  interfaces := #[]
  cf := some (fileOf pool6 1 #[] #[] 1537 3 #[] #[])
  fields := #[]
  methods := #[]
  instanceTypes := #[]
  staticTypes := #[]
  resolved := Array.replicate 11 none
  statics := none }

def pool7 : Array CpInfo := pool [(1, .class_ 2), (0, u "java/lang/constant/ConstantDesc"), (0, .class_ 4), (0, u "java/lang/Object")] 32

/-- java/lang/constant/ConstantDesc -/
def k7 : Class := { plain "java/lang/constant/ConstantDesc" (some 0) with
  accessFlags := 1537
  interfaces := #[]
  cf := some (fileOf pool7 1 #[] #[] 1537 3 #[] #[])
  fields := #[]
  methods := #[]
  instanceTypes := #[]
  staticTypes := #[]
  resolved := Array.replicate 37 none
  statics := none }

def pool8 : Array CpInfo := pool [(1, .class_ 2), (0, u "java/lang/Long"), (55, .nameAndType 59 60), (0, u "<init>"), (0, u "()V"), (24, u "valueOf"), (143, u "(J)Ljava/lang/Long;"), (0, .long 18446744073709551488), (1, .long 127), (1, .fieldref 235 236), (0, .class_ 237), (0, .nameAndType 238 239), (0, u "java/lang/Long$LongCache"), (0, u "cache"), (0, u "[Ljava/lang/Long;"), (0, .methodref 1 241), (0, .nameAndType 59 242), (0, u "(J)V"), (27, .methodref 271 58), (0, .class_ 272), (0, u "java/lang/Number"), (0, .fieldref 1 274), (0, .nameAndType 275 276), (0, u "value"), (0, u "J"), (25, .methodref 1 303), (0, .nameAndType 304 305), (0, u "compare"), (0, u "(JJ)I"), (37, .methodref 1 344), (0, .nameAndType 345 346), (0, u "compareTo"), (0, u "(Ljava/lang/Long;)I"), (14, u "TYPE"), (0, u "Ljava/lang/Class;"), (0, .class_ 364), (0, u "java/lang/Comparable"), (0, .class_ 366), (0, u "java/lang/constant/Constable"), (0, .class_ 368), (0, u "java/lang/constant/ConstantDesc"), (0, u "MIN_VALUE"), (1, u "MAX_VALUE"), (4, u "SIZE"), (0, u "I"), (1, u "BYTES"), (1, u "serialVersionUID"), (124, u "(Ljava/lang/Object;)I")] 17

def k8c0 : Code := { maxStack := 4, maxLocals := 3, code := jdk_35_method_24_code, exceptionTable := #[], attributes := #[] }
def k8m0 : Method := { name := "valueOf", desc := "(J)Ljava/lang/Long;", sig := { parameters := [.long], returnType := some (.object "java/lang/Long") }, accessFlags := 9, code := some k8c0 }
def k8c1 : Code := { maxStack := 3, maxLocals := 3, code := jdk_35_method_26_code, exceptionTable := #[], attributes := #[] }
def k8m1 : Method := { name := "<init>", desc := "(J)V", sig := { parameters := [.long], returnType := none }, accessFlags := 1, code := some k8c1 }
def k8c2 : Code := { maxStack := 4, maxLocals := 2, code := jdk_35_method_41_code, exceptionTable := #[], attributes := #[] }
def k8m2 : Method := { name := "compareTo", desc := "(Ljava/lang/Long;)I", sig := { parameters := [(.object "java/lang/Long")], returnType := some .int }, accessFlags := 1, code := some k8c2 }
def k8c3 : Code := { maxStack := 4, maxLocals := 4, code := jdk_35_method_42_code, exceptionTable := #[], attributes := #[] }
def k8m3 : Method := { name := "compare", desc := "(JJ)I", sig := { parameters := [.long, .long], returnType := some .int }, accessFlags := 9, code := some k8c3 }
def k8c4 : Code := { maxStack := 2, maxLocals := 2, code := jdk_35_method_64_code, exceptionTable := #[], attributes := #[] }
def k8m4 : Method := { name := "compareTo", desc := "(Ljava/lang/Object;)I", sig := { parameters := [(.object "java/lang/Object")], returnType := some .int }, accessFlags := 4161, code := some k8c4 }
/-- java/lang/Long -/
def k8 : Class := { plain "java/lang/Long" (some 4) with
  accessFlags := 49
  interfaces := #[5, 6, 7]
  cf := some (fileOf pool8 1 #[.nestMembers #[235]] #[{ accessFlags := 9, nameIndex := 85, descriptorIndex := 229, attributes := #[] }, { accessFlags := 1, nameIndex := 59, descriptorIndex := 242, attributes := #[] }, { accessFlags := 1, nameIndex := 345, descriptorIndex := 346, attributes := #[] }, { accessFlags := 9, nameIndex := 304, descriptorIndex := 305, attributes := #[] }, { accessFlags := 4161, nameIndex := 345, descriptorIndex := 506, attributes := #[] }] 49 271 #[363, 365, 367] #[{ accessFlags := 25, nameIndex := 369, descriptorIndex := 276, attributes := #[] }, { accessFlags := 25, nameIndex := 371, descriptorIndex := 276, attributes := #[] }, { accessFlags := 25, nameIndex := 361, descriptorIndex := 362, attributes := #[] }, { accessFlags := 18, nameIndex := 275, descriptorIndex := 276, attributes := #[] }, { accessFlags := 25, nameIndex := 376, descriptorIndex := 377, attributes := #[] }, { accessFlags := 25, nameIndex := 379, descriptorIndex := 377, attributes := #[] }, { accessFlags := 26, nameIndex := 381, descriptorIndex := 276, attributes := #[] }])
  fields := #[{ name := "MIN_VALUE", type := .long, accessFlags := 25, slot := 0, constantValue := 0 }, { name := "MAX_VALUE", type := .long, accessFlags := 25, slot := 1, constantValue := 0 }, { name := "TYPE", type := (.object "java/lang/Class"), accessFlags := 25, slot := 2, constantValue := 0 }, { name := "value", type := .long, accessFlags := 18, slot := 0, constantValue := 0 }, { name := "SIZE", type := .int, accessFlags := 25, slot := 3, constantValue := 0 }, { name := "BYTES", type := .int, accessFlags := 25, slot := 4, constantValue := 0 }, { name := "serialVersionUID", type := .long, accessFlags := 26, slot := 5, constantValue := 0 }]
  methods := #[k8m0, k8m1, k8m2, k8m3, k8m4]
  instanceTypes := #[.long]
  staticTypes := #[.long, .long, (.object "java/lang/Class"), .int, .int, .long]
  resolved := Array.replicate 524 none
  statics := none }

def pool9 : Array CpInfo := pool [(2, .class_ 4), (1, u "java/lang/Object"), (0, u "<init>"), (0, u "()V"), (0, .class_ 8), (0, u "java/lang/Long"), (7, .class_ 18), (1, u "java/lang/Long$LongCache"), (0, u "$assertionsDisabled"), (0, u "Z"), (8, u "archivedCache"), (0, u "[Ljava/lang/Long;"), (7, u "cache")] 24

def k9m0 : Method := { name := "<init>", desc := "()V", sig := { parameters := [], returnType := none }, accessFlags := 2, code := none }
/-- java/lang/Long$LongCache -/
def k9 : Class := { plain "java/lang/Long$LongCache" (some 0) with
  accessFlags := 48
  interfaces := #[]
  cf := some (fileOf pool9 16 #[.nestHost 7] #[{ accessFlags := 2, nameIndex := 5, descriptorIndex := 6, attributes := #[] }] 48 2 #[] #[{ accessFlags := 24, nameIndex := 38, descriptorIndex := 30, attributes := #[] }, { accessFlags := 8, nameIndex := 29, descriptorIndex := 30, attributes := #[] }, { accessFlags := 4120, nameIndex := 19, descriptorIndex := 20, attributes := #[] }])
  fields := #[{ name := "cache", type := (.array (.object "java/lang/Long")), accessFlags := 24, slot := 0, constantValue := 0 }, { name := "archivedCache", type := (.array (.object "java/lang/Long")), accessFlags := 8, slot := 1, constantValue := 0 }, { name := "$assertionsDisabled", type := .boolean, accessFlags := 4120, slot := 2, constantValue := 0 }]
  methods := #[k9m0]
  instanceTypes := #[]
  staticTypes := #[(.array (.object "java/lang/Long")), (.array (.object "java/lang/Long")), .boolean]
  resolved := Array.replicate 63 none
  statics := some 0 }

def pool10 : Array CpInfo := pool [(1, .methodref 2 3), (0, .class_ 4), (0, .nameAndType 5 6), (0, u "java/lang/Object"), (0, u "<init>"), (0, u "()V"), (0, .class_ 8), (0, u "java/lang/Record")] 13

def k10c0 : Code := { maxStack := 1, maxLocals := 1, code := jdk_30_method_1_code, exceptionTable := #[], attributes := #[] }
def k10m0 : Method := { name := "<init>", desc := "()V", sig := { parameters := [], returnType := none }, accessFlags := 4, code := some k10c0 }
/-- java/lang/Record -/
def k10 : Class := { plain "java/lang/Record" (some 0) with
  accessFlags := 1057
  interfaces := #[]
  cf := some (fileOf pool10 7 #[] #[{ accessFlags := 4, nameIndex := 5, descriptorIndex := 6, attributes := #[] }] 1057 2 #[] #[])
  fields := #[]
  methods := #[k10m0]
  instanceTypes := #[]
  staticTypes := #[]
  resolved := Array.replicate 22 none
  statics := none }

def pool11 : Array CpInfo := pool [(1, .methodref 2 3), (0, .class_ 4), (0, .nameAndType 5 6), (0, u "java/lang/Record"), (0, u "<init>"), (0, u "()V"), (0, .fieldref 8 9), (0, .class_ 10), (0, .nameAndType 11 12), (0, u "com/example/rootkeep/rootkeep/KeyRange"), (0, u "descending"), (0, u "Z"), (0, .fieldref 8 14), (0, .nameAndType 15 12), (0, u "fromStart"), (0, .fieldref 8 17), (0, .nameAndType 18 19), (0, u "lo"), (0, u "Ljava/lang/Object;"), (0, .fieldref 8 21), (0, .nameAndType 22 12), (0, u "loInclusive"), (0, .fieldref 8 24), (0, .nameAndType 25 12), (0, u "toEnd"), (0, .fieldref 8 27), (0, .nameAndType 28 19), (0, u "hi"), (0, .fieldref 8 30), (0, .nameAndType 31 12), (0, u "hiInclusive"), (0, .methodref 33 34), (0, .class_ 35), (0, .nameAndType 36 37), (0, u "com/example/rootkeep/rootkeep/object/SortedTree"), (0, u "compare"), (0, u "(Ljava/lang/Object;Ljava/lang/Object;)I"), (7, .methodref 8 46), (0, .nameAndType 5 47), (0, u "(ZZLjava/lang/Object;ZZLjava/lang/Object;Z)V"), (14, u "tooLow"), (0, u "(Ljava/lang/Object;)Z"), (2, u "tooHigh"), (24, u "DESCENDING"), (0, u "Lcom/example/rootkeep/rootkeep/KeyRange;"), (12, u "reversed"), (0, u "()Lcom/example/rootkeep/rootkeep/KeyRange;"), (0, u "isWhole"), (0, u "()Z")] 38

def k11c0 : Code := { maxStack := 2, maxLocals := 8, code := prog_1_method_1_code, exceptionTable := #[], attributes := #[] }
def k11m0 : Method := { name := "<init>", desc := "(ZZLjava/lang/Object;ZZLjava/lang/Object;Z)V", sig := { parameters := [.boolean, .boolean, (.object "java/lang/Object"), .boolean, .boolean, (.object "java/lang/Object"), .boolean], returnType := none }, accessFlags := 0, code := some k11c0 }
def k11c1 : Code := { maxStack := 9, maxLocals := 1, code := prog_1_method_9_code, exceptionTable := #[], attributes := #[] }
def k11m1 : Method := { name := "reversed", desc := "()Lcom/example/rootkeep/rootkeep/KeyRange;", sig := { parameters := [], returnType := some (.object "com/example/rootkeep/rootkeep/KeyRange") }, accessFlags := 0, code := some k11c1 }
def k11c2 : Code := { maxStack := 1, maxLocals := 1, code := prog_1_method_10_code, exceptionTable := #[], attributes := #[] }
def k11m2 : Method := { name := "isWhole", desc := "()Z", sig := { parameters := [], returnType := some .boolean }, accessFlags := 0, code := some k11c2 }
def k11c3 : Code := { maxStack := 2, maxLocals := 4, code := prog_1_method_11_code, exceptionTable := #[], attributes := #[] }
def k11m3 : Method := { name := "tooLow", desc := "(Ljava/lang/Object;)Z", sig := { parameters := [(.object "java/lang/Object")], returnType := some .boolean }, accessFlags := 0, code := some k11c3 }
def k11c4 : Code := { maxStack := 2, maxLocals := 4, code := prog_1_method_12_code, exceptionTable := #[], attributes := #[] }
def k11m4 : Method := { name := "tooHigh", desc := "(Ljava/lang/Object;)Z", sig := { parameters := [(.object "java/lang/Object")], returnType := some .boolean }, accessFlags := 0, code := some k11c4 }
/-- com/example/rootkeep/rootkeep/KeyRange -/
def k11 : Class := { plain "com/example/rootkeep/rootkeep/KeyRange" (some 10) with
  accessFlags := 48
  interfaces := #[]
  cf := some (fileOf pool11 8 #[] #[{ accessFlags := 0, nameIndex := 5, descriptorIndex := 47, attributes := #[] }, { accessFlags := 0, nameIndex := 105, descriptorIndex := 106, attributes := #[] }, { accessFlags := 0, nameIndex := 107, descriptorIndex := 108, attributes := #[] }, { accessFlags := 0, nameIndex := 62, descriptorIndex := 63, attributes := #[] }, { accessFlags := 0, nameIndex := 66, descriptorIndex := 63, attributes := #[] }] 48 2 #[] #[{ accessFlags := 18, nameIndex := 11, descriptorIndex := 12, attributes := #[] }, { accessFlags := 18, nameIndex := 15, descriptorIndex := 12, attributes := #[] }, { accessFlags := 18, nameIndex := 18, descriptorIndex := 19, attributes := #[] }, { accessFlags := 18, nameIndex := 22, descriptorIndex := 12, attributes := #[] }, { accessFlags := 18, nameIndex := 25, descriptorIndex := 12, attributes := #[] }, { accessFlags := 18, nameIndex := 28, descriptorIndex := 19, attributes := #[] }, { accessFlags := 18, nameIndex := 31, descriptorIndex := 12, attributes := #[] }, { accessFlags := 24, nameIndex := 91, descriptorIndex := 92, attributes := #[] }])
  fields := #[{ name := "descending", type := .boolean, accessFlags := 18, slot := 0, constantValue := 0 }, { name := "fromStart", type := .boolean, accessFlags := 18, slot := 1, constantValue := 0 }, { name := "lo", type := (.object "java/lang/Object"), accessFlags := 18, slot := 2, constantValue := 0 }, { name := "loInclusive", type := .boolean, accessFlags := 18, slot := 3, constantValue := 0 }, { name := "toEnd", type := .boolean, accessFlags := 18, slot := 4, constantValue := 0 }, { name := "hi", type := (.object "java/lang/Object"), accessFlags := 18, slot := 5, constantValue := 0 }, { name := "hiInclusive", type := .boolean, accessFlags := 18, slot := 6, constantValue := 0 }, { name := "DESCENDING", type := (.object "com/example/rootkeep/rootkeep/KeyRange"), accessFlags := 24, slot := 0, constantValue := 0 }]
  methods := #[k11m0, k11m1, k11m2, k11m3, k11m4]
  instanceTypes := #[.boolean, .boolean, (.object "java/lang/Object"), .boolean, .boolean, (.object "java/lang/Object"), .boolean]
  staticTypes := #[(.object "com/example/rootkeep/rootkeep/KeyRange")]
  resolved := Array.replicate 147 none
  statics := none }

def pool12 : Array CpInfo := pool [(1, .class_ 2), (0, u "com/example/rootkeep/rootkeep/object/SortedTree"), (2, u "<init>"), (2, .class_ 10), (1, u "java/lang/Object"), (0, u "()V"), (2, u "TREES"), (0, u "Ljava/util/concurrent/atomic/AtomicLong;"), (8, u "serial"), (0, u "J"), (8, u "written"), (0, u "Ljava/util/List;"), (2, u "writtenIds"), (0, u "[J"), (5, u "dropped"), (2, u "size"), (2, u "committedSize"), (2, u "storedRoot"), (0, .class_ 56), (0, u "java/lang/Comparable"), (0, .interfaceMethodref 55 58), (0, .nameAndType 59 60), (0, u "compareTo"), (0, u "(Ljava/lang/Object;)I"), (30, u "modCount"), (0, u "I"), (2, u "version"), (0, .class_ 97), (0, u "com/example/rootkeep/rootkeep/object/SortedTree$Cursor"), (13, u "ABSENT"), (0, u "Ljava/lang/Object;"), (14, .class_ 128), (0, u "com/example/rootkeep/rootkeep/object/SortedTree$Leaf"), (31, u "root"), (0, u "Lcom/example/rootkeep/rootkeep/object/SortedTree$Node;"), (10, u "height"), (4, .class_ 178), (0, u "com/example/rootkeep/rootkeep/object/SortedTree$Inner"), (4, .class_ 185), (1, u "com/example/rootkeep/rootkeep/object/SortedTree$Node"), (6, u "owner"), (0, u "Lcom/example/rootkeep/rootkeep/object/ObjectGraph;"), (2, u "generation"), (11, u "committedRoot"), (2, u "committedHeight"), (35, .class_ 248), (0, u "com/example/rootkeep/rootkeep/object/SortedTree$NodeKey"), (10, .class_ 260), (0, u "com/example/rootkeep/rootkeep/object/SortedTree$ById"), (103, .class_ 366), (1, u "com/example/rootkeep/rootkeep/object/SortedTree$Split"), (70, u "CAPACITY"), (2, u "MINIMUM"), (1, u "NODE_BYTES"), (2, u "SLOTS_BYTES"), (2, u "VALUE_BYTES"), (5, u "compare"), (0, u "(Ljava/lang/Object;Ljava/lang/Object;)I")] 54

def k12m0 : Method := { name := "<init>", desc := "()V", sig := { parameters := [], returnType := none }, accessFlags := 1, code := none }
def k12c1 : Code := { maxStack := 2, maxLocals := 2, code := prog_78_method_3_code, exceptionTable := #[], attributes := #[] }
def k12m1 : Method := { name := "compare", desc := "(Ljava/lang/Object;Ljava/lang/Object;)I", sig := { parameters := [(.object "java/lang/Object"), (.object "java/lang/Object")], returnType := some .int }, accessFlags := 9, code := some k12c1 }
/-- com/example/rootkeep/rootkeep/object/SortedTree -/
def k12 : Class := { plain "com/example/rootkeep/rootkeep/object/SortedTree" (some 0) with
  accessFlags := 49
  interfaces := #[]
  cf := some (fileOf pool12 1 #[.nestMembers #[96, 177, 127, 183, 259, 247, 364]] #[{ accessFlags := 1, nameIndex := 5, descriptorIndex := 11, attributes := #[] }, { accessFlags := 9, nameIndex := 454, descriptorIndex := 455, attributes := #[] }] 49 8 #[] #[{ accessFlags := 25, nameIndex := 111, descriptorIndex := 112, attributes := #[] }, { accessFlags := 24, nameIndex := 437, descriptorIndex := 92, attributes := #[] }, { accessFlags := 26, nameIndex := 440, descriptorIndex := 92, attributes := #[] }, { accessFlags := 26, nameIndex := 14, descriptorIndex := 15, attributes := #[] }, { accessFlags := 26, nameIndex := 442, descriptorIndex := 25, attributes := #[] }, { accessFlags := 26, nameIndex := 445, descriptorIndex := 25, attributes := #[] }, { accessFlags := 26, nameIndex := 448, descriptorIndex := 25, attributes := #[] }, { accessFlags := 18, nameIndex := 24, descriptorIndex := 25, attributes := #[] }, { accessFlags := 18, nameIndex := 54, descriptorIndex := 25, attributes := #[] }, { accessFlags := 2, nameIndex := 160, descriptorIndex := 161, attributes := #[] }, { accessFlags := 2, nameIndex := 172, descriptorIndex := 92, attributes := #[] }, { accessFlags := 2, nameIndex := 48, descriptorIndex := 25, attributes := #[] }, { accessFlags := 2, nameIndex := 91, descriptorIndex := 92, attributes := #[] }, { accessFlags := 2, nameIndex := 95, descriptorIndex := 25, attributes := #[] }, { accessFlags := 2, nameIndex := 196, descriptorIndex := 92, attributes := #[] }, { accessFlags := 2, nameIndex := 208, descriptorIndex := 161, attributes := #[] }, { accessFlags := 2, nameIndex := 211, descriptorIndex := 92, attributes := #[] }, { accessFlags := 2, nameIndex := 51, descriptorIndex := 25, attributes := #[] }, { accessFlags := 2, nameIndex := 192, descriptorIndex := 193, attributes := #[] }, { accessFlags := 2, nameIndex := 34, descriptorIndex := 35, attributes := #[] }, { accessFlags := 2, nameIndex := 38, descriptorIndex := 39, attributes := #[] }, { accessFlags := 18, nameIndex := 45, descriptorIndex := 35, attributes := #[] }])
  fields := #[{ name := "ABSENT", type := (.object "java/lang/Object"), accessFlags := 25, slot := 0, constantValue := 0 }, { name := "CAPACITY", type := .int, accessFlags := 24, slot := 1, constantValue := 0 }, { name := "MINIMUM", type := .int, accessFlags := 26, slot := 2, constantValue := 0 }, { name := "TREES", type := (.object "java/util/concurrent/atomic/AtomicLong"), accessFlags := 26, slot := 3, constantValue := 0 }, { name := "NODE_BYTES", type := .long, accessFlags := 26, slot := 4, constantValue := 0 }, { name := "SLOTS_BYTES", type := .long, accessFlags := 26, slot := 5, constantValue := 0 }, { name := "VALUE_BYTES", type := .long, accessFlags := 26, slot := 6, constantValue := 0 }, { name := "serial", type := .long, accessFlags := 18, slot := 0, constantValue := 0 }, { name := "storedRoot", type := .long, accessFlags := 18, slot := 1, constantValue := 0 }, { name := "root", type := (.object "com/example/rootkeep/rootkeep/object/SortedTree$Node"), accessFlags := 2, slot := 2, constantValue := 0 }, { name := "height", type := .int, accessFlags := 2, slot := 3, constantValue := 0 }, { name := "size", type := .long, accessFlags := 2, slot := 4, constantValue := 0 }, { name := "modCount", type := .int, accessFlags := 2, slot := 5, constantValue := 0 }, { name := "version", type := .long, accessFlags := 2, slot := 6, constantValue := 0 }, { name := "generation", type := .int, accessFlags := 2, slot := 7, constantValue := 0 }, { name := "committedRoot", type := (.object "com/example/rootkeep/rootkeep/object/SortedTree$Node"), accessFlags := 2, slot := 8, constantValue := 0 }, { name := "committedHeight", type := .int, accessFlags := 2, slot := 9, constantValue := 0 }, { name := "committedSize", type := .long, accessFlags := 2, slot := 10, constantValue := 0 }, { name := "owner", type := (.object "com/example/rootkeep/rootkeep/object/ObjectGraph"), accessFlags := 2, slot := 11, constantValue := 0 }, { name := "written", type := (.object "java/util/List"), accessFlags := 2, slot := 12, constantValue := 0 }, { name := "writtenIds", type := (.array .long), accessFlags := 2, slot := 13, constantValue := 0 }, { name := "dropped", type := (.object "java/util/List"), accessFlags := 18, slot := 14, constantValue := 0 }]
  methods := #[k12m0, k12m1]
  instanceTypes := #[.long, .long, (.object "com/example/rootkeep/rootkeep/object/SortedTree$Node"), .int, .long, .int, .long, .int, (.object "com/example/rootkeep/rootkeep/object/SortedTree$Node"), .int, .long, (.object "com/example/rootkeep/rootkeep/object/ObjectGraph"), (.object "java/util/List"), (.array .long), (.object "java/util/List")]
  staticTypes := #[(.object "java/lang/Object"), .int, .int, (.object "java/util/concurrent/atomic/AtomicLong"), .long, .long, .long]
  resolved := Array.replicate 510 none
  statics := none }

def pool13 : Array CpInfo := pool [(1, u "java/lang/Cloneable"), (0, .class_ 1), (0, u "java/lang/Object"), (0, .class_ 3)] 3

/-- java/lang/Cloneable -/
def k13 : Class := { plain "java/lang/Cloneable" (some 0) with
  accessFlags := 1537
  interfaces := #[]
  cf := some (fileOf pool13 2 #[] #[] 1537 4 #[] #[])
  fields := #[]
  methods := #[]
  instanceTypes := #[]
  staticTypes := #[]
  resolved := Array.replicate 8 none
  statics := none }

/-- the primitive byte -/
def k14 : Class := { plain "byte" none with kind := .primitive 'B', accessFlags := 0x411 }
/-- [B -/
def k15 : Class := { plain "[B" (some 0) with kind := .array 14 .byte, interfaces := #[13, 3], accessFlags := 1041 }

/-- the primitive int -/
def k16 : Class := { plain "int" none with kind := .primitive 'I', accessFlags := 0x411 }
/-- [I -/
def k17 : Class := { plain "[I" (some 0) with kind := .array 16 .int, interfaces := #[13, 3], accessFlags := 1041 }

/-- [Ljava/lang/Long; -/
def k18 : Class := { plain "[Ljava/lang/Long;" (some 0) with kind := .array 8 (.object "java/lang/Long"), interfaces := #[13, 3], accessFlags := 1041 }

def heap : Heap := #[{ cls := 9, slots := #[.ref 1, .null, .int 0], vm := .statics 9 },
  { cls := 18, slots := #[.ref 2, .ref 3, .ref 4, .ref 5, .ref 6, .ref 7, .ref 8, .ref 9, .ref 10, .ref 11, .ref 12, .ref 13, .ref 14, .ref 15, .ref 16, .ref 17, .ref 18, .ref 19, .ref 20, .ref 21, .ref 22, .ref 23, .ref 24, .ref 25, .ref 26, .ref 27, .ref 28, .ref 29, .ref 30, .ref 31, .ref 32, .ref 33, .ref 34, .ref 35, .ref 36, .ref 37, .ref 38, .ref 39, .ref 40, .ref 41, .ref 42, .ref 43, .ref 44, .ref 45, .ref 46, .ref 47, .ref 48, .ref 49, .ref 50, .ref 51, .ref 52, .ref 53, .ref 54, .ref 55, .ref 56, .ref 57, .ref 58, .ref 59, .ref 60, .ref 61, .ref 62, .ref 63, .ref 64, .ref 65, .ref 66, .ref 67, .ref 68, .ref 69, .ref 70, .ref 71, .ref 72, .ref 73, .ref 74, .ref 75, .ref 76, .ref 77, .ref 78, .ref 79, .ref 80, .ref 81, .ref 82, .ref 83, .ref 84, .ref 85, .ref 86, .ref 87, .ref 88, .ref 89, .ref 90, .ref 91, .ref 92, .ref 93, .ref 94, .ref 95, .ref 96, .ref 97, .ref 98, .ref 99, .ref 100, .ref 101, .ref 102, .ref 103, .ref 104, .ref 105, .ref 106, .ref 107, .ref 108, .ref 109, .ref 110, .ref 111, .ref 112, .ref 113, .ref 114, .ref 115, .ref 116, .ref 117, .ref 118, .ref 119, .ref 120, .ref 121, .ref 122, .ref 123, .ref 124, .ref 125, .ref 126, .ref 127, .ref 128, .ref 129, .ref 130, .ref 131, .ref 132, .ref 133, .ref 134, .ref 135, .ref 136, .ref 137, .ref 138, .ref 139, .ref 140, .ref 141, .ref 142, .ref 143, .ref 144, .ref 145, .ref 146, .ref 147, .ref 148, .ref 149, .ref 150, .ref 151, .ref 152, .ref 153, .ref 154, .ref 155, .ref 156, .ref 157, .ref 158, .ref 159, .ref 160, .ref 161, .ref 162, .ref 163, .ref 164, .ref 165, .ref 166, .ref 167, .ref 168, .ref 169, .ref 170, .ref 171, .ref 172, .ref 173, .ref 174, .ref 175, .ref 176, .ref 177, .ref 178, .ref 179, .ref 180, .ref 181, .ref 182, .ref 183, .ref 184, .ref 185, .ref 186, .ref 187, .ref 188, .ref 189, .ref 190, .ref 191, .ref 192, .ref 193, .ref 194, .ref 195, .ref 196, .ref 197, .ref 198, .ref 199, .ref 200, .ref 201, .ref 202, .ref 203, .ref 204, .ref 205, .ref 206, .ref 207, .ref 208, .ref 209, .ref 210, .ref 211, .ref 212, .ref 213, .ref 214, .ref 215, .ref 216, .ref 217, .ref 218, .ref 219, .ref 220, .ref 221, .ref 222, .ref 223, .ref 224, .ref 225, .ref 226, .ref 227, .ref 228, .ref 229, .ref 230, .ref 231, .ref 232, .ref 233, .ref 234, .ref 235, .ref 236, .ref 237, .ref 238, .ref 239, .ref 240, .ref 241, .ref 242, .ref 243, .ref 244, .ref 245, .ref 246, .ref 247, .ref 248, .ref 249, .ref 250, .ref 251, .ref 252, .ref 253, .ref 254, .ref 255, .ref 256, .ref 257], vm := .none },
  { cls := 8, slots := #[.long (-128)], vm := .none },
  { cls := 8, slots := #[.long (-127)], vm := .none },
  { cls := 8, slots := #[.long (-126)], vm := .none },
  { cls := 8, slots := #[.long (-125)], vm := .none },
  { cls := 8, slots := #[.long (-124)], vm := .none },
  { cls := 8, slots := #[.long (-123)], vm := .none },
  { cls := 8, slots := #[.long (-122)], vm := .none },
  { cls := 8, slots := #[.long (-121)], vm := .none },
  { cls := 8, slots := #[.long (-120)], vm := .none },
  { cls := 8, slots := #[.long (-119)], vm := .none },
  { cls := 8, slots := #[.long (-118)], vm := .none },
  { cls := 8, slots := #[.long (-117)], vm := .none },
  { cls := 8, slots := #[.long (-116)], vm := .none },
  { cls := 8, slots := #[.long (-115)], vm := .none },
  { cls := 8, slots := #[.long (-114)], vm := .none },
  { cls := 8, slots := #[.long (-113)], vm := .none },
  { cls := 8, slots := #[.long (-112)], vm := .none },
  { cls := 8, slots := #[.long (-111)], vm := .none },
  { cls := 8, slots := #[.long (-110)], vm := .none },
  { cls := 8, slots := #[.long (-109)], vm := .none },
  { cls := 8, slots := #[.long (-108)], vm := .none },
  { cls := 8, slots := #[.long (-107)], vm := .none },
  { cls := 8, slots := #[.long (-106)], vm := .none },
  { cls := 8, slots := #[.long (-105)], vm := .none },
  { cls := 8, slots := #[.long (-104)], vm := .none },
  { cls := 8, slots := #[.long (-103)], vm := .none },
  { cls := 8, slots := #[.long (-102)], vm := .none },
  { cls := 8, slots := #[.long (-101)], vm := .none },
  { cls := 8, slots := #[.long (-100)], vm := .none },
  { cls := 8, slots := #[.long (-99)], vm := .none },
  { cls := 8, slots := #[.long (-98)], vm := .none },
  { cls := 8, slots := #[.long (-97)], vm := .none },
  { cls := 8, slots := #[.long (-96)], vm := .none },
  { cls := 8, slots := #[.long (-95)], vm := .none },
  { cls := 8, slots := #[.long (-94)], vm := .none },
  { cls := 8, slots := #[.long (-93)], vm := .none },
  { cls := 8, slots := #[.long (-92)], vm := .none },
  { cls := 8, slots := #[.long (-91)], vm := .none },
  { cls := 8, slots := #[.long (-90)], vm := .none },
  { cls := 8, slots := #[.long (-89)], vm := .none },
  { cls := 8, slots := #[.long (-88)], vm := .none },
  { cls := 8, slots := #[.long (-87)], vm := .none },
  { cls := 8, slots := #[.long (-86)], vm := .none },
  { cls := 8, slots := #[.long (-85)], vm := .none },
  { cls := 8, slots := #[.long (-84)], vm := .none },
  { cls := 8, slots := #[.long (-83)], vm := .none },
  { cls := 8, slots := #[.long (-82)], vm := .none },
  { cls := 8, slots := #[.long (-81)], vm := .none },
  { cls := 8, slots := #[.long (-80)], vm := .none },
  { cls := 8, slots := #[.long (-79)], vm := .none },
  { cls := 8, slots := #[.long (-78)], vm := .none },
  { cls := 8, slots := #[.long (-77)], vm := .none },
  { cls := 8, slots := #[.long (-76)], vm := .none },
  { cls := 8, slots := #[.long (-75)], vm := .none },
  { cls := 8, slots := #[.long (-74)], vm := .none },
  { cls := 8, slots := #[.long (-73)], vm := .none },
  { cls := 8, slots := #[.long (-72)], vm := .none },
  { cls := 8, slots := #[.long (-71)], vm := .none },
  { cls := 8, slots := #[.long (-70)], vm := .none },
  { cls := 8, slots := #[.long (-69)], vm := .none },
  { cls := 8, slots := #[.long (-68)], vm := .none },
  { cls := 8, slots := #[.long (-67)], vm := .none },
  { cls := 8, slots := #[.long (-66)], vm := .none },
  { cls := 8, slots := #[.long (-65)], vm := .none },
  { cls := 8, slots := #[.long (-64)], vm := .none },
  { cls := 8, slots := #[.long (-63)], vm := .none },
  { cls := 8, slots := #[.long (-62)], vm := .none },
  { cls := 8, slots := #[.long (-61)], vm := .none },
  { cls := 8, slots := #[.long (-60)], vm := .none },
  { cls := 8, slots := #[.long (-59)], vm := .none },
  { cls := 8, slots := #[.long (-58)], vm := .none },
  { cls := 8, slots := #[.long (-57)], vm := .none },
  { cls := 8, slots := #[.long (-56)], vm := .none },
  { cls := 8, slots := #[.long (-55)], vm := .none },
  { cls := 8, slots := #[.long (-54)], vm := .none },
  { cls := 8, slots := #[.long (-53)], vm := .none },
  { cls := 8, slots := #[.long (-52)], vm := .none },
  { cls := 8, slots := #[.long (-51)], vm := .none },
  { cls := 8, slots := #[.long (-50)], vm := .none },
  { cls := 8, slots := #[.long (-49)], vm := .none },
  { cls := 8, slots := #[.long (-48)], vm := .none },
  { cls := 8, slots := #[.long (-47)], vm := .none },
  { cls := 8, slots := #[.long (-46)], vm := .none },
  { cls := 8, slots := #[.long (-45)], vm := .none },
  { cls := 8, slots := #[.long (-44)], vm := .none },
  { cls := 8, slots := #[.long (-43)], vm := .none },
  { cls := 8, slots := #[.long (-42)], vm := .none },
  { cls := 8, slots := #[.long (-41)], vm := .none },
  { cls := 8, slots := #[.long (-40)], vm := .none },
  { cls := 8, slots := #[.long (-39)], vm := .none },
  { cls := 8, slots := #[.long (-38)], vm := .none },
  { cls := 8, slots := #[.long (-37)], vm := .none },
  { cls := 8, slots := #[.long (-36)], vm := .none },
  { cls := 8, slots := #[.long (-35)], vm := .none },
  { cls := 8, slots := #[.long (-34)], vm := .none },
  { cls := 8, slots := #[.long (-33)], vm := .none },
  { cls := 8, slots := #[.long (-32)], vm := .none },
  { cls := 8, slots := #[.long (-31)], vm := .none },
  { cls := 8, slots := #[.long (-30)], vm := .none },
  { cls := 8, slots := #[.long (-29)], vm := .none },
  { cls := 8, slots := #[.long (-28)], vm := .none },
  { cls := 8, slots := #[.long (-27)], vm := .none },
  { cls := 8, slots := #[.long (-26)], vm := .none },
  { cls := 8, slots := #[.long (-25)], vm := .none },
  { cls := 8, slots := #[.long (-24)], vm := .none },
  { cls := 8, slots := #[.long (-23)], vm := .none },
  { cls := 8, slots := #[.long (-22)], vm := .none },
  { cls := 8, slots := #[.long (-21)], vm := .none },
  { cls := 8, slots := #[.long (-20)], vm := .none },
  { cls := 8, slots := #[.long (-19)], vm := .none },
  { cls := 8, slots := #[.long (-18)], vm := .none },
  { cls := 8, slots := #[.long (-17)], vm := .none },
  { cls := 8, slots := #[.long (-16)], vm := .none },
  { cls := 8, slots := #[.long (-15)], vm := .none },
  { cls := 8, slots := #[.long (-14)], vm := .none },
  { cls := 8, slots := #[.long (-13)], vm := .none },
  { cls := 8, slots := #[.long (-12)], vm := .none },
  { cls := 8, slots := #[.long (-11)], vm := .none },
  { cls := 8, slots := #[.long (-10)], vm := .none },
  { cls := 8, slots := #[.long (-9)], vm := .none },
  { cls := 8, slots := #[.long (-8)], vm := .none },
  { cls := 8, slots := #[.long (-7)], vm := .none },
  { cls := 8, slots := #[.long (-6)], vm := .none },
  { cls := 8, slots := #[.long (-5)], vm := .none },
  { cls := 8, slots := #[.long (-4)], vm := .none },
  { cls := 8, slots := #[.long (-3)], vm := .none },
  { cls := 8, slots := #[.long (-2)], vm := .none },
  { cls := 8, slots := #[.long (-1)], vm := .none },
  { cls := 8, slots := #[.long (0)], vm := .none },
  { cls := 8, slots := #[.long (1)], vm := .none },
  { cls := 8, slots := #[.long (2)], vm := .none },
  { cls := 8, slots := #[.long (3)], vm := .none },
  { cls := 8, slots := #[.long (4)], vm := .none },
  { cls := 8, slots := #[.long (5)], vm := .none },
  { cls := 8, slots := #[.long (6)], vm := .none },
  { cls := 8, slots := #[.long (7)], vm := .none },
  { cls := 8, slots := #[.long (8)], vm := .none },
  { cls := 8, slots := #[.long (9)], vm := .none },
  { cls := 8, slots := #[.long (10)], vm := .none },
  { cls := 8, slots := #[.long (11)], vm := .none },
  { cls := 8, slots := #[.long (12)], vm := .none },
  { cls := 8, slots := #[.long (13)], vm := .none },
  { cls := 8, slots := #[.long (14)], vm := .none },
  { cls := 8, slots := #[.long (15)], vm := .none },
  { cls := 8, slots := #[.long (16)], vm := .none },
  { cls := 8, slots := #[.long (17)], vm := .none },
  { cls := 8, slots := #[.long (18)], vm := .none },
  { cls := 8, slots := #[.long (19)], vm := .none },
  { cls := 8, slots := #[.long (20)], vm := .none },
  { cls := 8, slots := #[.long (21)], vm := .none },
  { cls := 8, slots := #[.long (22)], vm := .none },
  { cls := 8, slots := #[.long (23)], vm := .none },
  { cls := 8, slots := #[.long (24)], vm := .none },
  { cls := 8, slots := #[.long (25)], vm := .none },
  { cls := 8, slots := #[.long (26)], vm := .none },
  { cls := 8, slots := #[.long (27)], vm := .none },
  { cls := 8, slots := #[.long (28)], vm := .none },
  { cls := 8, slots := #[.long (29)], vm := .none },
  { cls := 8, slots := #[.long (30)], vm := .none },
  { cls := 8, slots := #[.long (31)], vm := .none },
  { cls := 8, slots := #[.long (32)], vm := .none },
  { cls := 8, slots := #[.long (33)], vm := .none },
  { cls := 8, slots := #[.long (34)], vm := .none },
  { cls := 8, slots := #[.long (35)], vm := .none },
  { cls := 8, slots := #[.long (36)], vm := .none },
  { cls := 8, slots := #[.long (37)], vm := .none },
  { cls := 8, slots := #[.long (38)], vm := .none },
  { cls := 8, slots := #[.long (39)], vm := .none },
  { cls := 8, slots := #[.long (40)], vm := .none },
  { cls := 8, slots := #[.long (41)], vm := .none },
  { cls := 8, slots := #[.long (42)], vm := .none },
  { cls := 8, slots := #[.long (43)], vm := .none },
  { cls := 8, slots := #[.long (44)], vm := .none },
  { cls := 8, slots := #[.long (45)], vm := .none },
  { cls := 8, slots := #[.long (46)], vm := .none },
  { cls := 8, slots := #[.long (47)], vm := .none },
  { cls := 8, slots := #[.long (48)], vm := .none },
  { cls := 8, slots := #[.long (49)], vm := .none },
  { cls := 8, slots := #[.long (50)], vm := .none },
  { cls := 8, slots := #[.long (51)], vm := .none },
  { cls := 8, slots := #[.long (52)], vm := .none },
  { cls := 8, slots := #[.long (53)], vm := .none },
  { cls := 8, slots := #[.long (54)], vm := .none },
  { cls := 8, slots := #[.long (55)], vm := .none },
  { cls := 8, slots := #[.long (56)], vm := .none },
  { cls := 8, slots := #[.long (57)], vm := .none },
  { cls := 8, slots := #[.long (58)], vm := .none },
  { cls := 8, slots := #[.long (59)], vm := .none },
  { cls := 8, slots := #[.long (60)], vm := .none },
  { cls := 8, slots := #[.long (61)], vm := .none },
  { cls := 8, slots := #[.long (62)], vm := .none },
  { cls := 8, slots := #[.long (63)], vm := .none },
  { cls := 8, slots := #[.long (64)], vm := .none },
  { cls := 8, slots := #[.long (65)], vm := .none },
  { cls := 8, slots := #[.long (66)], vm := .none },
  { cls := 8, slots := #[.long (67)], vm := .none },
  { cls := 8, slots := #[.long (68)], vm := .none },
  { cls := 8, slots := #[.long (69)], vm := .none },
  { cls := 8, slots := #[.long (70)], vm := .none },
  { cls := 8, slots := #[.long (71)], vm := .none },
  { cls := 8, slots := #[.long (72)], vm := .none },
  { cls := 8, slots := #[.long (73)], vm := .none },
  { cls := 8, slots := #[.long (74)], vm := .none },
  { cls := 8, slots := #[.long (75)], vm := .none },
  { cls := 8, slots := #[.long (76)], vm := .none },
  { cls := 8, slots := #[.long (77)], vm := .none },
  { cls := 8, slots := #[.long (78)], vm := .none },
  { cls := 8, slots := #[.long (79)], vm := .none },
  { cls := 8, slots := #[.long (80)], vm := .none },
  { cls := 8, slots := #[.long (81)], vm := .none },
  { cls := 8, slots := #[.long (82)], vm := .none },
  { cls := 8, slots := #[.long (83)], vm := .none },
  { cls := 8, slots := #[.long (84)], vm := .none },
  { cls := 8, slots := #[.long (85)], vm := .none },
  { cls := 8, slots := #[.long (86)], vm := .none },
  { cls := 8, slots := #[.long (87)], vm := .none },
  { cls := 8, slots := #[.long (88)], vm := .none },
  { cls := 8, slots := #[.long (89)], vm := .none },
  { cls := 8, slots := #[.long (90)], vm := .none },
  { cls := 8, slots := #[.long (91)], vm := .none },
  { cls := 8, slots := #[.long (92)], vm := .none },
  { cls := 8, slots := #[.long (93)], vm := .none },
  { cls := 8, slots := #[.long (94)], vm := .none },
  { cls := 8, slots := #[.long (95)], vm := .none },
  { cls := 8, slots := #[.long (96)], vm := .none },
  { cls := 8, slots := #[.long (97)], vm := .none },
  { cls := 8, slots := #[.long (98)], vm := .none },
  { cls := 8, slots := #[.long (99)], vm := .none },
  { cls := 8, slots := #[.long (100)], vm := .none },
  { cls := 8, slots := #[.long (101)], vm := .none },
  { cls := 8, slots := #[.long (102)], vm := .none },
  { cls := 8, slots := #[.long (103)], vm := .none },
  { cls := 8, slots := #[.long (104)], vm := .none },
  { cls := 8, slots := #[.long (105)], vm := .none },
  { cls := 8, slots := #[.long (106)], vm := .none },
  { cls := 8, slots := #[.long (107)], vm := .none },
  { cls := 8, slots := #[.long (108)], vm := .none },
  { cls := 8, slots := #[.long (109)], vm := .none },
  { cls := 8, slots := #[.long (110)], vm := .none },
  { cls := 8, slots := #[.long (111)], vm := .none },
  { cls := 8, slots := #[.long (112)], vm := .none },
  { cls := 8, slots := #[.long (113)], vm := .none },
  { cls := 8, slots := #[.long (114)], vm := .none },
  { cls := 8, slots := #[.long (115)], vm := .none },
  { cls := 8, slots := #[.long (116)], vm := .none },
  { cls := 8, slots := #[.long (117)], vm := .none },
  { cls := 8, slots := #[.long (118)], vm := .none },
  { cls := 8, slots := #[.long (119)], vm := .none },
  { cls := 8, slots := #[.long (120)], vm := .none },
  { cls := 8, slots := #[.long (121)], vm := .none },
  { cls := 8, slots := #[.long (122)], vm := .none },
  { cls := 8, slots := #[.long (123)], vm := .none },
  { cls := 8, slots := #[.long (124)], vm := .none },
  { cls := 8, slots := #[.long (125)], vm := .none },
  { cls := 8, slots := #[.long (126)], vm := .none },
  { cls := 8, slots := #[.long (127)], vm := .none }]
def classes : Array Class := #[k0, k1, k2, k3, k4, k5, k6, k7, k8, k9, k10, k11, k12, k13, k14, k15, k16, k17, k18]
def interned : List (Array UInt16 × Addr) := []
def slotsUsed : Nat := 515
def theMethod : MethodId := ⟨1, 1⟩
def args0 : Array Value := #[.int 5, .long 7, .long 8]
def aboutOver (below : List Frame) : State where
  vm := { classes := classes, interned := interned.toArray }
  heap := heap
  slotsUsed := slotsUsed
  threads := #[{ frames := .invoking theMethod args0 :: below }]
def below0 : List Frame := [.native { method := ⟨0, 0⟩, args := #[] }]
def about1 : State := aboutOver below0
def p0 : Program := .bare "" "" ""
def e0 : Env := launch0.env 0 0 0
theorem w_frames : about1.frames = Frame.invoking theMethod args0 :: below0 := rfl
set_option maxRecDepth 65536 in
theorem w_args : argsFit about1.vm theMethod args0 = true := by decide +kernel
set_option maxRecDepth 65536 in
theorem w_heap : heapFits about1 = true := by decide +kernel
set_option maxRecDepth 65536 in
theorem w_runnable : about1.curStatus? = some .runnable := by decide +kernel
set_option maxRecDepth 65536 in
theorem w_alone : about1.alone = true := by decide +kernel
set_option maxRecDepth 65536 in
theorem w_named : about1.methodNamed? x = some theMethod := by decide +kernel
set_option maxRecDepth 65536 in
theorem w_hears : about1.hears theMethod below0 = true := by decide +kernel
set_option maxRecDepth 65536 in
theorem w_ripe : about1.ripe theMethod args0 below0 = true := by decide +kernel
theorem w_running : about1.status = .running := rfl
set_option maxRecDepth 65536 in
theorem w_room : about1.hasRoom e0.platform room_1 = true :=
  launch0.hasRoom_least _ room_1 (by decide +kernel) (by decide +kernel) (by decide +kernel) (by decide +kernel) (by decide +kernel) (by decide +kernel)
theorem allAtoms_all (ts : List Jvm.Cond) (a : Array Jvm.Value) (st : Jvm.State) : (allAtoms ts).before a st = ts.all (fun c => c.before a st) := by
  induction ts with
  | nil => rfl
  | cons c t ih =>
    show (Jvm.Cond.and c (allAtoms t)).before a st = _
    rw [Jvm.Cond.before_and, ih, List.all_cons]
def words1 : List Jvm.Cond := Jvm.Cond.code x code maxLocals ret :: tables_1
/-- a 'code' word, met by the world's own term for the bytes: nothing is compared byte by byte -/
theorem code_word {y : MethodName} {bytes : ByteArray} {mx : Nat} {rt : Option FieldType} {a : Array Value} {s : State} {m : MethodId} {meth : Method} {c : Code} (h1 : s.methodNamed? y = some m) (h2 : s.vm.method? m = some meth) (h3 : meth.code = some c) (h4 : c.code = bytes)
    (h5 : (c.maxLocals == mx && c.exceptionTable.isEmpty && decide (c.maxStack ≤ mostOperands) && decide (meth.sig.returnType = rt) && !meth.locks && decide (parseMethodDescriptor y.desc = some meth.sig)) = true) : (Jvm.Cond.code y bytes mx rt).before a s = true := by
  simp only [Bool.and_eq_true, beq_iff_eq, Bool.not_eq_true', decide_eq_true_eq] at h5
  obtain ⟨⟨⟨⟨⟨g1, g2⟩, g3⟩, g4⟩, g5⟩, g6⟩ := h5
  simp [Cond.before, Cond.holds, Cond.value, h1, h2, h3, h4, g1, g2, g3, g4, g5, g6]
def isCode : Jvm.Cond → Bool
  | .code _ _ _ _ => true
  | _ => false
theorem all_split {L : List Jvm.Cond} {P : Jvm.Cond → Bool} (h1 : L.all (fun c => isCode c || P c) = true) (h2 : ∀ c ∈ L.filter isCode, P c = true) : L.all P = true := by
  refine List.all_eq_true.mpr fun c hc => ?_
  have h := List.all_eq_true.mp h1 c hc
  rcases Bool.eq_false_or_eq_true (isCode c) with hi | hi
  · exact h2 c (List.mem_filter.mpr ⟨hc, hi⟩)
  · simpa [hi] using h
set_option maxRecDepth 65536 in
theorem w_c0 : (Jvm.Cond.code x code maxLocals ret).before args0 about1 = true := code_word (m := ⟨1, 1⟩) (meth := k1m1) (c := k1c1) (by decide +kernel) rfl rfl rfl (by decide +kernel)
set_option maxRecDepth 65536 in
theorem w_c1 : (Jvm.Cond.code ({ cls := "java/lang/Math", name := "max", desc := "(JJ)J" } : Jvm.MethodName) jdk_29_method_66_code (4 : Nat) (Option.some Jvm.ClassFile.FieldType.long)).before args0 about1 = true := code_word (m := ⟨2, 1⟩) (meth := k2m1) (c := k2c1) (by decide +kernel) rfl rfl rfl (by decide +kernel)
set_option maxRecDepth 65536 in
theorem w_c2 : (Jvm.Cond.code ({ cls := "java/lang/Long", name := "valueOf", desc := "(J)Ljava/lang/Long;" } : Jvm.MethodName) jdk_35_method_24_code (3 : Nat) (Option.some (Jvm.ClassFile.FieldType.object "java/lang/Long"))).before args0 about1 = true := code_word (m := ⟨8, 0⟩) (meth := k8m0) (c := k8c0) (by decide +kernel) rfl rfl rfl (by decide +kernel)
set_option maxRecDepth 65536 in
theorem w_c3 : (Jvm.Cond.code ({ cls := "java/lang/Math", name := "min", desc := "(JJ)J" } : Jvm.MethodName) jdk_29_method_70_code (4 : Nat) (Option.some Jvm.ClassFile.FieldType.long)).before args0 about1 = true := code_word (m := ⟨2, 2⟩) (meth := k2m2) (c := k2c2) (by decide +kernel) rfl rfl rfl (by decide +kernel)
set_option maxRecDepth 65536 in
theorem w_c4 : (Jvm.Cond.code ({ cls := "java/lang/Long", name := "<init>", desc := "(J)V" } : Jvm.MethodName) jdk_35_method_26_code (3 : Nat) (Option.none : Option Jvm.ClassFile.FieldType)).before args0 about1 = true := code_word (m := ⟨8, 1⟩) (meth := k8m1) (c := k8c1) (by decide +kernel) rfl rfl rfl (by decide +kernel)
set_option maxRecDepth 65536 in
theorem w_c5 : (Jvm.Cond.code ({ cls := "java/lang/Number", name := "<init>", desc := "()V" } : Jvm.MethodName) jdk_18_method_1_code (1 : Nat) (Option.none : Option Jvm.ClassFile.FieldType)).before args0 about1 = true := code_word (m := ⟨4, 0⟩) (meth := k4m0) (c := k4c0) (by decide +kernel) rfl rfl rfl (by decide +kernel)
set_option maxRecDepth 65536 in
theorem w_c6 : (Jvm.Cond.code ({ cls := "java/lang/Object", name := "<init>", desc := "()V" } : Jvm.MethodName) object_method_1_code (1 : Nat) (Option.none : Option Jvm.ClassFile.FieldType)).before args0 about1 = true := code_word (m := ⟨0, 0⟩) (meth := k0m0) (c := k0c0) (by decide +kernel) rfl rfl rfl (by decide +kernel)
set_option maxRecDepth 65536 in
theorem w_c7 : (Jvm.Cond.code ({ cls := "com/example/rootkeep/rootkeep/KeyRange", name := "<init>", desc := "(ZZLjava/lang/Object;ZZLjava/lang/Object;Z)V" } : Jvm.MethodName) prog_1_method_1_code (8 : Nat) (Option.none : Option Jvm.ClassFile.FieldType)).before args0 about1 = true := code_word (m := ⟨11, 0⟩) (meth := k11m0) (c := k11c0) (by decide +kernel) rfl rfl rfl (by decide +kernel)
set_option maxRecDepth 65536 in
theorem w_c8 : (Jvm.Cond.code ({ cls := "java/lang/Record", name := "<init>", desc := "()V" } : Jvm.MethodName) jdk_30_method_1_code (1 : Nat) (Option.none : Option Jvm.ClassFile.FieldType)).before args0 about1 = true := code_word (m := ⟨10, 0⟩) (meth := k10m0) (c := k10c0) (by decide +kernel) rfl rfl rfl (by decide +kernel)
set_option maxRecDepth 65536 in
theorem w_c9 : (Jvm.Cond.code ({ cls := "com/example/rootkeep/rootkeep/KeyRange", name := "isWhole", desc := "()Z" } : Jvm.MethodName) prog_1_method_10_code (1 : Nat) (Option.some Jvm.ClassFile.FieldType.boolean)).before args0 about1 = true := code_word (m := ⟨11, 2⟩) (meth := k11m2) (c := k11c2) (by decide +kernel) rfl rfl rfl (by decide +kernel)
set_option maxRecDepth 65536 in
theorem w_c10 : (Jvm.Cond.code ({ cls := "com/example/rootkeep/rootkeep/KeyRange", name := "tooLow", desc := "(Ljava/lang/Object;)Z" } : Jvm.MethodName) prog_1_method_11_code (4 : Nat) (Option.some Jvm.ClassFile.FieldType.boolean)).before args0 about1 = true := code_word (m := ⟨11, 3⟩) (meth := k11m3) (c := k11c3) (by decide +kernel) rfl rfl rfl (by decide +kernel)
set_option maxRecDepth 65536 in
theorem w_c11 : (Jvm.Cond.code ({ cls := "com/example/rootkeep/rootkeep/object/SortedTree", name := "compare", desc := "(Ljava/lang/Object;Ljava/lang/Object;)I" } : Jvm.MethodName) prog_78_method_3_code (2 : Nat) (Option.some Jvm.ClassFile.FieldType.int)).before args0 about1 = true := code_word (m := ⟨12, 1⟩) (meth := k12m1) (c := k12c1) (by decide +kernel) rfl rfl rfl (by decide +kernel)
set_option maxRecDepth 65536 in
theorem w_c12 : (Jvm.Cond.code ({ cls := "java/lang/Long", name := "compareTo", desc := "(Ljava/lang/Object;)I" } : Jvm.MethodName) jdk_35_method_64_code (2 : Nat) (Option.some Jvm.ClassFile.FieldType.int)).before args0 about1 = true := code_word (m := ⟨8, 4⟩) (meth := k8m4) (c := k8c4) (by decide +kernel) rfl rfl rfl (by decide +kernel)
set_option maxRecDepth 65536 in
theorem w_c13 : (Jvm.Cond.code ({ cls := "java/lang/Long", name := "compareTo", desc := "(Ljava/lang/Long;)I" } : Jvm.MethodName) jdk_35_method_41_code (2 : Nat) (Option.some Jvm.ClassFile.FieldType.int)).before args0 about1 = true := code_word (m := ⟨8, 2⟩) (meth := k8m2) (c := k8c2) (by decide +kernel) rfl rfl rfl (by decide +kernel)
set_option maxRecDepth 65536 in
theorem w_c14 : (Jvm.Cond.code ({ cls := "java/lang/Long", name := "compare", desc := "(JJ)I" } : Jvm.MethodName) jdk_35_method_42_code (4 : Nat) (Option.some Jvm.ClassFile.FieldType.int)).before args0 about1 = true := code_word (m := ⟨8, 3⟩) (meth := k8m3) (c := k8c3) (by decide +kernel) rfl rfl rfl (by decide +kernel)
set_option maxRecDepth 65536 in
theorem w_c15 : (Jvm.Cond.code ({ cls := "com/example/rootkeep/rootkeep/KeyRange", name := "reversed", desc := "()Lcom/example/rootkeep/rootkeep/KeyRange;" } : Jvm.MethodName) prog_1_method_9_code (1 : Nat) (Option.some (Jvm.ClassFile.FieldType.object "com/example/rootkeep/rootkeep/KeyRange"))).before args0 about1 = true := code_word (m := ⟨11, 1⟩) (meth := k11m1) (c := k11c1) (by decide +kernel) rfl rfl rfl (by decide +kernel)
set_option maxRecDepth 65536 in
theorem w_c16 : (Jvm.Cond.code ({ cls := "com/example/rootkeep/rootkeep/KeyRange", name := "tooHigh", desc := "(Ljava/lang/Object;)Z" } : Jvm.MethodName) prog_1_method_12_code (4 : Nat) (Option.some Jvm.ClassFile.FieldType.boolean)).before args0 about1 = true := code_word (m := ⟨11, 4⟩) (meth := k11m4) (c := k11c4) (by decide +kernel) rfl rfl rfl (by decide +kernel)
def codes1 : List Jvm.Cond := [Jvm.Cond.code x code maxLocals ret, Jvm.Cond.code ({ cls := "java/lang/Math", name := "max", desc := "(JJ)J" } : Jvm.MethodName) jdk_29_method_66_code (4 : Nat) (Option.some Jvm.ClassFile.FieldType.long), Jvm.Cond.code ({ cls := "java/lang/Long", name := "valueOf", desc := "(J)Ljava/lang/Long;" } : Jvm.MethodName) jdk_35_method_24_code (3 : Nat) (Option.some (Jvm.ClassFile.FieldType.object "java/lang/Long")), Jvm.Cond.code ({ cls := "java/lang/Math", name := "min", desc := "(JJ)J" } : Jvm.MethodName) jdk_29_method_70_code (4 : Nat) (Option.some Jvm.ClassFile.FieldType.long), Jvm.Cond.code ({ cls := "java/lang/Long", name := "<init>", desc := "(J)V" } : Jvm.MethodName) jdk_35_method_26_code (3 : Nat) (Option.none : Option Jvm.ClassFile.FieldType), Jvm.Cond.code ({ cls := "java/lang/Number", name := "<init>", desc := "()V" } : Jvm.MethodName) jdk_18_method_1_code (1 : Nat) (Option.none : Option Jvm.ClassFile.FieldType), Jvm.Cond.code ({ cls := "java/lang/Object", name := "<init>", desc := "()V" } : Jvm.MethodName) object_method_1_code (1 : Nat) (Option.none : Option Jvm.ClassFile.FieldType), Jvm.Cond.code ({ cls := "com/example/rootkeep/rootkeep/KeyRange", name := "<init>", desc := "(ZZLjava/lang/Object;ZZLjava/lang/Object;Z)V" } : Jvm.MethodName) prog_1_method_1_code (8 : Nat) (Option.none : Option Jvm.ClassFile.FieldType), Jvm.Cond.code ({ cls := "java/lang/Record", name := "<init>", desc := "()V" } : Jvm.MethodName) jdk_30_method_1_code (1 : Nat) (Option.none : Option Jvm.ClassFile.FieldType), Jvm.Cond.code ({ cls := "com/example/rootkeep/rootkeep/KeyRange", name := "isWhole", desc := "()Z" } : Jvm.MethodName) prog_1_method_10_code (1 : Nat) (Option.some Jvm.ClassFile.FieldType.boolean), Jvm.Cond.code ({ cls := "com/example/rootkeep/rootkeep/KeyRange", name := "tooLow", desc := "(Ljava/lang/Object;)Z" } : Jvm.MethodName) prog_1_method_11_code (4 : Nat) (Option.some Jvm.ClassFile.FieldType.boolean), Jvm.Cond.code ({ cls := "com/example/rootkeep/rootkeep/object/SortedTree", name := "compare", desc := "(Ljava/lang/Object;Ljava/lang/Object;)I" } : Jvm.MethodName) prog_78_method_3_code (2 : Nat) (Option.some Jvm.ClassFile.FieldType.int), Jvm.Cond.code ({ cls := "java/lang/Long", name := "compareTo", desc := "(Ljava/lang/Object;)I" } : Jvm.MethodName) jdk_35_method_64_code (2 : Nat) (Option.some Jvm.ClassFile.FieldType.int), Jvm.Cond.code ({ cls := "java/lang/Long", name := "compareTo", desc := "(Ljava/lang/Long;)I" } : Jvm.MethodName) jdk_35_method_41_code (2 : Nat) (Option.some Jvm.ClassFile.FieldType.int), Jvm.Cond.code ({ cls := "java/lang/Long", name := "compare", desc := "(JJ)I" } : Jvm.MethodName) jdk_35_method_42_code (4 : Nat) (Option.some Jvm.ClassFile.FieldType.int), Jvm.Cond.code ({ cls := "com/example/rootkeep/rootkeep/KeyRange", name := "reversed", desc := "()Lcom/example/rootkeep/rootkeep/KeyRange;" } : Jvm.MethodName) prog_1_method_9_code (1 : Nat) (Option.some (Jvm.ClassFile.FieldType.object "com/example/rootkeep/rootkeep/KeyRange")), Jvm.Cond.code ({ cls := "com/example/rootkeep/rootkeep/KeyRange", name := "tooHigh", desc := "(Ljava/lang/Object;)Z" } : Jvm.MethodName) prog_1_method_12_code (4 : Nat) (Option.some Jvm.ClassFile.FieldType.boolean)]
set_option maxRecDepth 65536 in
theorem codes_eq : words1.filter isCode = codes1 := rfl
theorem w_codes : ∀ c ∈ words1.filter isCode, c.before args0 about1 = true := by
  rw [codes_eq]
  intro c hc
  simp only [codes1, List.mem_cons, List.not_mem_nil, or_false] at hc
  rcases hc with rfl | rfl | rfl | rfl | rfl | rfl | rfl | rfl | rfl | rfl | rfl | rfl | rfl | rfl | rfl | rfl | rfl
  · exact w_c0
  · exact w_c1
  · exact w_c2
  · exact w_c3
  · exact w_c4
  · exact w_c5
  · exact w_c6
  · exact w_c7
  · exact w_c8
  · exact w_c9
  · exact w_c10
  · exact w_c11
  · exact w_c12
  · exact w_c13
  · exact w_c14
  · exact w_c15
  · exact w_c16
set_option maxRecDepth 65536 in
theorem w_t1 : (words1.take 24).all (fun c => isCode c || c.before args0 about1) = true := by decide +kernel
set_option maxRecDepth 65536 in
theorem w_t2 : ((words1.drop 24).take 24).all (fun c => isCode c || c.before args0 about1) = true := by decide +kernel
set_option maxRecDepth 65536 in
theorem w_t3 : (((words1.drop 24).drop 24).take 24).all (fun c => isCode c || c.before args0 about1) = true := by decide +kernel
set_option maxRecDepth 65536 in
theorem w_t4 : ((((words1.drop 24).drop 24).drop 24).take 24).all (fun c => isCode c || c.before args0 about1) = true := by decide +kernel
set_option maxRecDepth 65536 in
theorem w_t5 : ((((words1.drop 24).drop 24).drop 24).drop 24).all (fun c => isCode c || c.before args0 about1) = true := by decide +kernel
theorem w_tables : (allAtoms (Jvm.Cond.code x code maxLocals ret :: tables_1)).before args0 about1 = true := by
  rw [allAtoms_all]
  show words1.all (fun c => c.before args0 about1) = true
  refine all_split ?_ w_codes
  rw [← List.take_append_drop 24 words1, List.all_append, w_t1, ← List.take_append_drop 24 (words1.drop 24), List.all_append, w_t2, ← List.take_append_drop 24 ((words1.drop 24).drop 24), List.all_append, w_t3, ← List.take_append_drop 24 (((words1.drop 24).drop 24).drop 24), List.all_append, w_t4, w_t5]
  rfl
set_option maxRecDepth 65536 in
theorem w_rest : rest_1_c.before args0 about1 = true := by decide +kernel
set_option maxRecDepth 65536 in
theorem w_case : (Jvm.Cond.and given_1 narrow_1).before args0 about1 = true := by decide +kernel
theorem w_applies : (headSpec (Jvm.Cond.code x code maxLocals ret :: tables_1) room_1).applies x e0.platform about1 = true :=
  (Spec.applies_iff w_frames).mpr ⟨w_running, w_runnable, w_alone, w_named, w_hears, w_ripe, w_room, w_tables⟩
theorem atStart : AtStart classFile x code maxLocals ret World_1 tables_1 room_1 Calls_1 rest_1 Pre_1 launch0 p0 e0 about1 theMethod args0 below0 :=
  ⟨lists_1, trivial, launch0.admits_env _ _ _, launch0.least_env, fairChoices_fair.cas, fairChoices_fair.clock, w_frames, w_args, w_heap, w_applies, trivial, w_rest, w_case⟩
end start1
theorem witness_1 : WitnessClaimed_1 := ⟨start1.p0, start1.e0, start1.about1, start1.theMethod, start1.args0, start1.below0, start1.atStart⟩
end Jvm.Pilot.@@N@@
