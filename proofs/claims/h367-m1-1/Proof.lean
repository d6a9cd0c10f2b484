import JvmDerived
import JvmDerived.Pilot.@@N@@Statement
import JvmDerived.Pilot.@@N@@Code
set_option linter.unusedVariables false
set_option linter.unusedSimpArgs false
namespace Jvm.Pilot.@@N@@
open Jvm Jvm.ClassFile Sem Op Lib Jvm.Free Jvm.Stand Jvm.LawKit Jvm.RoadKit Bundle Jvm.Pilot.@@N@@.Jvm.D
section Own
variable {p : Program} {l : Launch} {e : Env} {R : Room} {s : State} {m : MethodId} {args : Array Value} {below : List Frame} {meth : Method} {c : Code} {T : State} {locs : List Loc} {cells slots : Nat} {Z : State} {h h' : Heap} {a b : Addr}
/-- from the state σ the run comes to a return that meets Qk -/
def Go (p : Program) (e : Env) (below : List Frame) (s : State) (Qk : Option Value → Heap → List Loc → Prop) (C S : Nat) (σ : State) : Prop :=
  ∃ s₂ o, Steps p.tables e below σ s₂ ∧ s₂.status = .running ∧ Ended s₂ below o ∧ ∃ v L, o = .returned v ∧ Qk v s₂.heap L ∧ FrameEnd s o s₂ L C S
variable {Qk : Option Value → Heap → List Loc → Prop} {C S : Nat}
theorem Go.step {σ σ' : State} (hs : ∀ t, Steps p.tables e below σ' t → Steps p.tables e below σ t) (k : Go p e below s Qk C S σ') : Go p e below s Qk C S σ := by
  obtain ⟨s₂, o, h1, r⟩ := k
  exact ⟨s₂, o, hs _ h1, r⟩
theorem Go.retV (X : Stand p l e R s m args below meth c T locs cells slots) (hlk : meth.locks = false) (hx : p.tables.exec = Jvm.exec) {pc : Nat} {Ls : Array Slot} (hret : meth.sig.returnType = none) (hd : decode c.code pc = .ok (.return_, 1)) (hc : cells ≤ C) (hs : slots ≤ S) (hQ : Qk none T.heap locs) :
    Go p e below s Qk C S (T.setTop (mkF m pc Ls [])) := by
  obtain ⟨fs, hr, hrun, hended, hW, hsame⟩ := X.leave (v := none) (fun _ => rfl) hlk
  exact ⟨_, _, X.returnOut hx hret hd hr, hrun, hended, _, _, rfl, hQ, ⟨_, rfl⟩, hW, hsame.mono hc hs⟩
theorem Go.retW (X : Stand p l e R s m args below meth c T locs cells slots) (hlk : meth.locks = false) (hx : p.tables.exec = Jvm.exec) {pc : Nat} {Ls : Array Slot} {w : Value} {t : FieldType} {i : Instr} {rest : List Value} (hret : meth.sig.returnType = some t) (hn : narrow t w = w)
    (hi : (i = .ireturn ∧ (t = .int ∨ t = .boolean ∨ t = .byte ∨ t = .char ∨ t = .short) ∧ ∃ z, w = .int z) ∨ (i = .lreturn ∧ t = .long ∧ ∃ z, w = .long z) ∨ (i = .dreturn ∧ t = .double ∧ ∃ z, w = .double z) ∨ (i = .freturn ∧ t = .float ∧ ∃ z, w = .float z) ∨ (i = .areturn ∧ t.isReference = true ∧ w.isRef = true))
    (hd : decode c.code pc = .ok (i, 1)) (hc : cells ≤ C) (hs : slots ≤ S) (hQ : Qk (some w) T.heap locs) :
    Go p e below s Qk C S (T.setTop (mkF m pc Ls (w :: rest))) := by
  obtain ⟨fs, hr, hrun, hended, hW, hsame⟩ := X.leave (v := some w) (fun q => by rw [hret] at q; cases q) hlk
  exact ⟨_, _, retOut X hx hret hn hi hd hr, hrun, hended, _, _, rfl, hQ, ⟨_, rfl⟩, hW, hsame.mono hc hs⟩
theorem Go.retI (X : Stand p l e R s m args below meth c T locs cells slots) (hlk : meth.locks = false) (hx : p.tables.exec = Jvm.exec) {pc : Nat} {Ls : Array Slot} {z : Int32} {rest : List Value} (hret : meth.sig.returnType = some .int) (hd : decode c.code pc = .ok (.ireturn, 1)) (hc : cells ≤ C) (hs : slots ≤ S) (hQ : Qk (some (.int z)) T.heap locs) :
    Go p e below s Qk C S (T.setTop (mkF m pc Ls (.int z :: rest))) :=
  Go.retW X hlk hx hret rfl (Or.inl ⟨rfl, Or.inl rfl, z, rfl⟩) hd hc hs hQ
theorem Go.retJ (X : Stand p l e R s m args below meth c T locs cells slots) (hlk : meth.locks = false) (hx : p.tables.exec = Jvm.exec) {pc : Nat} {Ls : Array Slot} {z : Int64} {rest : List Value} (hret : meth.sig.returnType = some .long) (hd : decode c.code pc = .ok (.lreturn, 1)) (hc : cells ≤ C) (hs : slots ≤ S) (hQ : Qk (some (.long z)) T.heap locs) :
    Go p e below s Qk C S (T.setTop (mkF m pc Ls (.long z :: rest))) :=
  Go.retW X hlk hx hret rfl (Or.inr (Or.inl ⟨rfl, rfl, z, rfl⟩)) hd hc hs hQ
theorem Go.retA (X : Stand p l e R s m args below meth c T locs cells slots) (hlk : meth.locks = false) (hx : p.tables.exec = Jvm.exec) {pc : Nat} {Ls : Array Slot} {w : Value} {t : FieldType} {rest : List Value} (hret : meth.sig.returnType = some t) (hn : narrow t w = w) (ht : t.isReference = true) (hw : w.isRef = true) (hd : decode c.code pc = .ok (.areturn, 1)) (hc : cells ≤ C) (hs : slots ≤ S) (hQ : Qk (some w) T.heap locs) :
    Go p e below s Qk C S (T.setTop (mkF m pc Ls (w :: rest))) :=
  Go.retW X hlk hx hret hn (Or.inr (Or.inr (Or.inr (Or.inr ⟨rfl, ht, hw⟩)))) hd hc hs hQ
theorem Go.retN (X : Stand p l e R s m args below meth c T locs cells slots) (hlk : meth.locks = false) (hx : p.tables.exec = Jvm.exec) {pc : Nat} {Ls : Array Slot} {z : Int32} {t : FieldType} {rest : List Value} (hret : meth.sig.returnType = some t) (ht : t = .boolean ∨ t = .byte ∨ t = .char ∨ t = .short) (hd : decode c.code pc = .ok (.ireturn, 1)) (hc : cells ≤ C) (hs : slots ≤ S) (z' : Int32) (hz : nar t z = z') (hQ : Qk (some (.int z')) T.heap locs) :
    Go p e below s Qk C S (T.setTop (mkF m pc Ls (.int z :: rest))) := by
  subst hz
  obtain ⟨fs, hr, hrun, hended, hW, hsame⟩ := X.leave (v := some (.int (nar t z))) (fun q => by rw [hret] at q; cases q) hlk
  exact ⟨_, _, Jvm.RoadKit.retN X hx hret ht hd hr, hrun, hended, _, _, rfl, hQ, ⟨_, rfl⟩, hW, hsame.mono hc hs⟩
theorem own_narb {P : Prop} [Decidable P] : nar .boolean (if P then (1 : Int32) else (0 : Int32)) = (if P then (1 : Int32) else (0 : Int32)) := by split <;> rfl
theorem own_narb01 {z : Int32} (h : z = 0 ∨ z = 1) : nar .boolean z = z := by rcases h with rfl | rfl <;> rfl
/-- a function turned at one place -/
def up {α : Type} (f : Nat → α) (k : Nat) (v : α) : Nat → α := fun i => if i = k then v else f i
theorem up_same {α : Type} (f : Nat → α) (k : Nat) (v : α) : up f k v k = v := if_pos rfl
theorem up_ne {α : Type} (f : Nat → α) {k i : Nat} (v : α) (q : i ≠ k) : up f k v i = f i := if_neg q
/-- an array of n places; place i holds g i -/
def Ary (Z : State) (h : Heap) (a : Addr) (ty : FieldType) (n : Nat) (g : Nat → Value) : Prop := ∃ c : Cell, Arr Z h a c ty ∧ c.slots.size = n ∧ n < 2 ^ 31 ∧ ∀ i, i < n → c.slots[i]? = some (g i)
variable {ty : FieldType} {n : Nat} {g : Nat → Value}
theorem Ary.lt (F : Ary Z h a ty n g) : a < h.size := by obtain ⟨c, A, -⟩ := F; exact A.lt
theorem Ary.ext (F : Ary Z h a ty n g) (E : Ext h h') : Ary Z h' a ty n g := by obtain ⟨c, A, r⟩ := F; exact ⟨c, A.ext E, r⟩
theorem Ary.other {sl : Nat} {v : Value} (F : Ary Z h b ty n g) (W : Wr h h' a sl v) (q : b ≠ a) : Ary Z h' b ty n g := by obtain ⟨c, A, r⟩ := F; exact ⟨c, A.other W q, r⟩
theorem Ary.keep {ws : List Addr} (F : Ary Z h a ty n g) (K : Keep h h' ws) (q : a ∉ ws) : Ary Z h' a ty n g := by obtain ⟨c, A, r⟩ := F; exact ⟨c, ⟨K.2.1 a c A.1 q, A.2⟩, r⟩
theorem Ary.set {k : Nat} {v : Value} (F : Ary Z h a ty n g) (W : Wr h h' a k v) : Ary Z h' a ty n (up g k v) := by
  obtain ⟨c, A, S, B, H⟩ := F
  refine ⟨_, A.same W, by rw [sz_set]; exact S, B, fun i hi => ?_⟩
  by_cases q : k = i
  · subst q; rw [up_same]; simp [Cell.setSlot, S, hi]
  · rw [up_ne _ _ (Ne.symm q), ← H i hi]; simp only [Cell.setSlot]; rw [Array.getElem?_setIfInBounds_ne q]
theorem Ary.new {k : ClassId} {z : Int32} (A : Arr Z h a (newA k ty z) ty) (q : z.toInt = n) : Ary Z h a ty n (fun _ => defaultValue ty) := by
  have e1 : z.toNatClampNeg = n := by simp only [Int32.toNatClampNeg]; omega
  refine ⟨_, A, by rw [sz_new]; exact e1, ?_, fun i hi => ?_⟩
  · have := Int32.toInt_lt z; omega
  · simp [newA, e1, hi]
theorem Ary.congr {g' : Nat → Value} (F : Ary Z h a ty n g) (q : ∀ i, i < n → g i = g' i) : Ary Z h a ty n g' := by
  obtain ⟨c, A, S, B, H⟩ := F
  exact ⟨c, A, S, B, fun i hi => by rw [← q i hi]; exact H i hi⟩
abbrev AryI (Z : State) (h : Heap) (a : Addr) (ty : FieldType) (n : Nat) (g : Nat → Int32) : Prop := Ary Z h a ty n (fun i => .int (g i))
abbrev AryJ (Z : State) (h : Heap) (a : Addr) (n : Nat) (g : Nat → Int64) : Prop := Ary Z h a .long n (fun i => .long (g i))
theorem own_upI (f : Nat → Int32) (k : Nat) (v : Int32) : up (fun i => Value.int (f i)) k (.int v) = fun i => Value.int (up f k v i) := by funext i; simp only [up]; split <;> rfl
theorem own_upJ (f : Nat → Int64) (k : Nat) (v : Int64) : up (fun i => Value.long (f i)) k (.long v) = fun i => Value.long (up f k v i) := by funext i; simp only [up]; split <;> rfl
theorem Ary.setI {f : Nat → Int32} {k : Nat} {v : Int32} (F : AryI Z h a ty n f) (W : Wr h h' a k (.int v)) : AryI Z h' a ty n (up f k v) := by have r := Ary.set F W; rw [own_upI] at r; exact r
theorem Ary.setJ {f : Nat → Int64} {k : Nat} {v : Int64} (F : AryJ Z h a n f) (W : Wr h h' a k (.long v)) : AryJ Z h' a n (up f k v) := by have r := Ary.set F W; rw [own_upJ] at r; exact r
theorem own_idx {c : Cell} {j : Int32} {k : Nat} (S : c.slots.size = n) (q : j.toInt = k) (hk : k < n) : ¬ (j < 0 ∨ c.slots.size ≤ j.toNatClampNeg) ∧ j.toNatClampNeg = k := by
  have e1 : j.toNatClampNeg = k := by simp only [Int32.toNatClampNeg]; omega
  have e0 : (0 : Int32).toInt = 0 := rfl
  refine ⟨?_, e1⟩
  rw [e1, S, Int32.lt_iff_toInt_lt]; omega
theorem own_ld (X : Stand p l e R s m args below meth c T locs cells slots) (hx : p.tables.exec = Jvm.exec) (hZ : Z.Warmed39 s.vm) (eT : T.heap = h) (F : Ary Z h a ty n g) {j : Int32} (k : Nat) (q : j.toInt = k) (hk : k < n) {v : Value} (hv : g k = v) {i : Instr}
    (hi : (i = .iaload ∧ ty = .int) ∨ (i = .laload ∧ ty = .long) ∨ (i = .caload ∧ ty = .char) ∨ (i = .baload ∧ ty = .byte)) {f : JFrame} (hg : f.method = m) {rest : List Value} (hs : f.stack = .int j :: .ref a :: rest) (hd : decode c.code f.pc = .ok (i, 1)) :
    ∀ target, Steps p.tables e below (T.setTop { f with pc := f.pc + 1, stack := v :: rest }) target → Steps p.tables e below (T.setTop f) target := by
  subst hv
  obtain ⟨cl, A, S, -, H⟩ := F
  obtain ⟨hin, e1⟩ := own_idx S q hk
  have hat : cl.slots[j.toNatClampNeg]? = some (g k) := by rw [e1]; exact H k hk
  intro t kt
  rcases hi with ⟨rfl, rfl⟩ | ⟨rfl, rfl⟩ | ⟨rfl, rfl⟩ | ⟨rfl, rfl⟩
  · exact X.iaload hx (by rw [eT]; exact A.1) (State.isArrayOf_alike hZ.alike A.2.1) A.2.2 hin hat hg hs hd t kt
  · exact X.laload hx (by rw [eT]; exact A.1) (State.isArrayOf_alike hZ.alike A.2.1) A.2.2 hin hat hg hs hd t kt
  · exact X.caload hx (by rw [eT]; exact A.1) (State.isArrayOf_alike hZ.alike A.2.1) A.2.2 hin hat hg hs hd t kt
  · exact X.baloadBytes hx (by rw [eT]; exact A.1) (State.isArrayOf_alike hZ.alike A.2.1) A.2.2 hin hat hg hs hd t kt
theorem own_len (X : Stand p l e R s m args below meth c T locs cells slots) (hx : p.tables.exec = Jvm.exec) (hZ : Z.Warmed39 s.vm) (eT : T.heap = h) (F : Ary Z h a ty n g) {z : Int32} (hz : n.toInt32 = z) {f : JFrame} (hg : f.method = m) {rest : List Value} (hs : f.stack = .ref a :: rest) (hd : decode c.code f.pc = .ok (.arraylength, 1)) :
    ∀ target, Steps p.tables e below (T.setTop { f with pc := f.pc + 1, stack := .int z :: rest }) target → Steps p.tables e below (T.setTop f) target := by
  subst hz
  obtain ⟨cl, A, S, -⟩ := F
  intro t kt
  refine X.arraylength hx (by rw [eT]; exact A.1) (State.isArrayOf_alike hZ.alike A.2.1) hg hs hd t ?_
  rw [S]; exact kt
theorem own_stI (X : Stand p l e R s m args below meth c T locs cells slots) (hx : p.tables.exec = Jvm.exec) (hZ : Z.Warmed39 s.vm) (eT : T.heap = h) (F : Ary Z h a .int n g) {j x : Int32} (k : Nat) (q : j.toInt = k) (hk : k < n) {f : JFrame} (hg : f.method = m) {rest : List Value} (hs : f.stack = .int x :: .int j :: .ref a :: rest) (hd : decode c.code f.pc = .ok (.iastore, 1)) :
    ∃ T' h', Stand p l e R s m args below meth c T' (locs ++ [⟨a, k⟩]) cells slots ∧ T'.heap = h' ∧ Wr h h' a k (.int x) ∧ ∀ target, Steps p.tables e below (T'.setTop { f with pc := f.pc + 1, stack := rest }) target → Steps p.tables e below (T.setTop f) target := by
  obtain ⟨cl, A, S, -, -⟩ := F
  obtain ⟨hin, e1⟩ := own_idx S q hk
  have r := stI X hx hZ eT A hin hg hs hd
  rw [e1] at r; exact r
theorem own_stJ (X : Stand p l e R s m args below meth c T locs cells slots) (hx : p.tables.exec = Jvm.exec) (hZ : Z.Warmed39 s.vm) (eT : T.heap = h) (F : Ary Z h a .long n g) {j : Int32} {x : Int64} (k : Nat) (q : j.toInt = k) (hk : k < n) {f : JFrame} (hg : f.method = m) {rest : List Value} (hs : f.stack = .long x :: .int j :: .ref a :: rest) (hd : decode c.code f.pc = .ok (.lastore, 1)) :
    ∃ T' h', Stand p l e R s m args below meth c T' (locs ++ [⟨a, k⟩]) cells slots ∧ T'.heap = h' ∧ Wr h h' a k (.long x) ∧ ∀ target, Steps p.tables e below (T'.setTop { f with pc := f.pc + 1, stack := rest }) target → Steps p.tables e below (T.setTop f) target := by
  obtain ⟨cl, A, S, -, -⟩ := F
  obtain ⟨hin, e1⟩ := own_idx S q hk
  have r := stJ X hx hZ eT A hin hg hs hd
  rw [e1] at r; exact r
theorem own_stB (X : Stand p l e R s m args below meth c T locs cells slots) (hx : p.tables.exec = Jvm.exec) (hZ : Z.Warmed39 s.vm) (eT : T.heap = h) (F : Ary Z h a .byte n g) {j x : Int32} (k : Nat) (q : j.toInt = k) (hk : k < n) {f : JFrame} (hg : f.method = m) {rest : List Value} (hs : f.stack = .int x :: .int j :: .ref a :: rest) (hd : decode c.code f.pc = .ok (.bastore, 1)) :
    ∃ T' h', Stand p l e R s m args below meth c T' (locs ++ [⟨a, k⟩]) cells slots ∧ T'.heap = h' ∧ Wr h h' a k (.int (nar .byte x)) ∧ ∀ target, Steps p.tables e below (T'.setTop { f with pc := f.pc + 1, stack := rest }) target → Steps p.tables e below (T.setTop f) target := by
  obtain ⟨cl, A, S, -, -⟩ := F
  obtain ⟨hin, e1⟩ := own_idx S q hk
  have r := stB X hx hZ eT A hin hg hs hd
  rw [e1] at r; exact r
theorem own_stC (X : Stand p l e R s m args below meth c T locs cells slots) (hx : p.tables.exec = Jvm.exec) (hZ : Z.Warmed39 s.vm) (eT : T.heap = h) (F : Ary Z h a .char n g) {j x : Int32} (k : Nat) (q : j.toInt = k) (hk : k < n) {f : JFrame} (hg : f.method = m) {rest : List Value} (hs : f.stack = .int x :: .int j :: .ref a :: rest) (hd : decode c.code f.pc = .ok (.castore, 1)) :
    ∃ T' h', Stand p l e R s m args below meth c T' (locs ++ [⟨a, k⟩]) cells slots ∧ T'.heap = h' ∧ Wr h h' a k (.int (nar .char x)) ∧ ∀ target, Steps p.tables e below (T'.setTop { f with pc := f.pc + 1, stack := rest }) target → Steps p.tables e below (T.setTop f) target := by
  obtain ⟨cl, A, S, -, -⟩ := F
  obtain ⟨hin, e1⟩ := own_idx S q hk
  have r := stC X hx hZ eT A hin hg hs hd
  rw [e1] at r; exact r
theorem own_neA {a0 : Array Value} {k : Nat} {K : String} (F : Exa Z h a K) (wi : (Cond.instantiable K k).before a0 Z = true) (G : Ary Z h b ty n g) : a ≠ b := by
  obtain ⟨cl, A, -⟩ := G
  exact ne_arr F wi A
theorem own_selP {y : MethodName} {k : Nat} {a0 as' : Array Value} (hZ : Z.Warmed39 s.vm) (wi : (Cond.instantiable y.cls k).before a0 Z = true) (wn : (Cond.instanceMethod y).before a0 Z = true) (wp : (Cond.privateMethod y).before a0 Z = true) (hy : y.cls ≠ "java/lang/invoke/MethodHandle" ∧ y.cls ≠ "java/lang/invoke/VarHandle") : (Cond.selects y.cls y y).before as' s = true := by
  have wi' : (Cond.instantiable y.cls k).before as' s = true := mvT hZ wi
  obtain ⟨c, kc, h1, h2, -, h4, -⟩ := Cond.instantiable_spec wi'
  refine selects_self_of_private h1 h2 ?_ (Cond.privateMethod_at (mvP hZ wp (args := #[]))) (mvT hZ wn) hy
  cases hi : kc.isInterface with
  | false => rfl
  | true => rw [hi] at h4; simp at h4
/-- long comparisons -/
theorem own_lwlt {x y : Int64} (h : x < y) : lcmpW x y < 0 := (lw_lt x y).mpr h
theorem own_nlwlt {x y : Int64} (h : ¬ x < y) : ¬ lcmpW x y < 0 := fun q => h ((lw_lt x y).mp q)
theorem own_lwgt {x y : Int64} (h : y < x) : 0 < lcmpW x y := (lw_gt x y).mpr h
theorem own_nlwgt {x y : Int64} (h : ¬ y < x) : ¬ 0 < lcmpW x y := fun q => h ((lw_gt x y).mp q)
theorem own_lweq {x y : Int64} (h : x = y) : lcmpW x y = 0 := (lw_eq x y).mpr h
theorem own_nlweq {x y : Int64} (h : ¬ x = y) : ¬ lcmpW x y = 0 := fun q => h ((lw_eq x y).mp q)
end Own
theorem own_lt {x y : Int32} (h : x < y) : x.toInt < y.toInt := Int32.lt_iff_toInt_lt.mp h
theorem own_nlt {x y : Int32} (h : ¬ x < y) : ¬ x.toInt < y.toInt := fun q => h (Int32.lt_iff_toInt_lt.mpr q)
theorem own_eq {x y : Int32} (h : x = y) : x.toInt = y.toInt := by rw [h]
theorem own_neq {x y : Int32} (h : ¬ x = y) : ¬ x.toInt = y.toInt := fun q => h (Int32.toInt_inj.mp q)
theorem own_ltL {x y : Int64} (h : x < y) : x.toInt < y.toInt := Int64.lt_iff_toInt_lt.mp h
theorem own_nltL {x y : Int64} (h : ¬ x < y) : ¬ x.toInt < y.toInt := fun q => h (Int64.lt_iff_toInt_lt.mpr q)
theorem own_eqL {x y : Int64} (h : x = y) : x.toInt = y.toInt := by rw [h]
theorem own_neqL {x y : Int64} (h : ¬ x = y) : ¬ x.toInt = y.toInt := fun q => h (Int64.toInt_inj.mp q)
theorem own_rng32 (x : Int32) : -2147483648 ≤ x.toInt ∧ x.toInt ≤ 2147483647 := by
  have h1 := Int32.le_toInt x
  have h2 := Int32.toInt_lt x
  omega
theorem own_rng64 (x : Int64) : -9223372036854775808 ≤ x.toInt ∧ x.toInt ≤ 9223372036854775807 := by
  have h1 := Int64.le_toInt x
  have h2 := Int64.toInt_lt x
  omega

abbrev own_isid (c : Int32) : Prop := (97 ≤ c.toInt ∧ c.toInt ≤ 122) ∨ (65 ≤ c.toInt ∧ c.toInt ≤ 90) ∨ (48 ≤ c.toInt ∧ c.toInt ≤ 57) ∨ c.toInt = 45 ∨ c.toInt = 95 ∨ c.toInt = 46
theorem own_low0 : ∀ k : Fin 64, (((((288054454291267584 : Int64).toUInt64 >>> (((Int32.ofNat k.1) &&& (63 : Int32)) &&& 0x3f).toInt64.toUInt64).toInt64) &&& (1 : Int64)) = (0 : Int64)) ↔ ¬ own_isid (Int32.ofNat k.1) := by decide +kernel
theorem own_high0 : ∀ k : Fin 64, (((((576460745995190270 : Int64).toUInt64 >>> (((Int32.ofNat (64 + k.1)) &&& (63 : Int32)) &&& 0x3f).toInt64.toUInt64).toInt64) &&& (1 : Int64)) = (0 : Int64)) ↔ ¬ own_isid (Int32.ofNat (64 + k.1)) := by decide +kernel
theorem own_ofN {c : Int32} {k : Nat} (h : c.toInt = k) (hk : k < 2 ^ 31) : c = Int32.ofNat k := by
  apply Int32.toInt_inj.mp
  rw [h]; exact (Int32.toInt_ofNat_small hk).symm
theorem own_low (c : Int32) (h0 : ¬ c.toInt < 0) (h1 : c.toInt < 64) : (((((288054454291267584 : Int64).toUInt64 >>> ((c &&& (63 : Int32)) &&& 0x3f).toInt64.toUInt64).toInt64) &&& (1 : Int64)) = (0 : Int64)) ↔ ¬ own_isid c := by
  have e := own_ofN (c := c) (k := c.toInt.toNat) (by omega) (by omega)
  have q := own_low0 ⟨c.toInt.toNat, by omega⟩
  rw [← e] at q; exact q
theorem own_high (c : Int32) (h0 : ¬ c.toInt < 64) (h1 : ¬ 127 < c.toInt) : (((((576460745995190270 : Int64).toUInt64 >>> ((c &&& (63 : Int32)) &&& 0x3f).toInt64.toUInt64).toInt64) &&& (1 : Int64)) = (0 : Int64)) ↔ ¬ own_isid c := by
  have e := own_ofN (c := c) (k := 64 + (c.toInt.toNat - 64)) (by omega) (by omega)
  have q := own_high0 ⟨c.toInt.toNat - 64, by omega⟩
  simp only at q
  rw [← e] at q; exact q
theorem own_same {z w : Int32} {P : Prop} (h1 : (z = 1 ∧ P) ∨ (z = 0 ∧ ¬ P)) (h2 : (w = 1 ∧ P) ∨ (w = 0 ∧ ¬ P)) : z = w := by
  rcases h1 with ⟨rfl, p⟩ | ⟨rfl, p⟩ <;> rcases h2 with ⟨rfl, q⟩ | ⟨rfl, q⟩ <;> first | rfl | exact absurd p q | exact absurd q p
theorem d1_0 : decode prog_2_method_4_code 0 = .ok (.iload_n 0, 1) := by decide +kernel
theorem d1_1 : decode prog_2_method_4_code 1 = .ok (.bipush 97, 2) := by decide +kernel
theorem d1_3 : decode prog_2_method_4_code 3 = .ok (.if_icmp .lt 9, 3) := by decide +kernel
theorem d1_6 : decode prog_2_method_4_code 6 = .ok (.iload_n 0, 1) := by decide +kernel
theorem d1_7 : decode prog_2_method_4_code 7 = .ok (.bipush 122, 2) := by decide +kernel
theorem d1_9 : decode prog_2_method_4_code 9 = .ok (.if_icmp .le 45, 3) := by decide +kernel
theorem d1_12 : decode prog_2_method_4_code 12 = .ok (.iload_n 0, 1) := by decide +kernel
theorem d1_13 : decode prog_2_method_4_code 13 = .ok (.bipush 65, 2) := by decide +kernel
theorem d1_15 : decode prog_2_method_4_code 15 = .ok (.if_icmp .lt 9, 3) := by decide +kernel
theorem d1_18 : decode prog_2_method_4_code 18 = .ok (.iload_n 0, 1) := by decide +kernel
theorem d1_19 : decode prog_2_method_4_code 19 = .ok (.bipush 90, 2) := by decide +kernel
theorem d1_21 : decode prog_2_method_4_code 21 = .ok (.if_icmp .le 33, 3) := by decide +kernel
theorem d1_24 : decode prog_2_method_4_code 24 = .ok (.iload_n 0, 1) := by decide +kernel
theorem d1_25 : decode prog_2_method_4_code 25 = .ok (.bipush 48, 2) := by decide +kernel
theorem d1_27 : decode prog_2_method_4_code 27 = .ok (.if_icmp .lt 9, 3) := by decide +kernel
theorem d1_30 : decode prog_2_method_4_code 30 = .ok (.iload_n 0, 1) := by decide +kernel
theorem d1_31 : decode prog_2_method_4_code 31 = .ok (.bipush 57, 2) := by decide +kernel
theorem d1_33 : decode prog_2_method_4_code 33 = .ok (.if_icmp .le 21, 3) := by decide +kernel
theorem d1_36 : decode prog_2_method_4_code 36 = .ok (.iload_n 0, 1) := by decide +kernel
theorem d1_37 : decode prog_2_method_4_code 37 = .ok (.bipush 45, 2) := by decide +kernel
theorem d1_39 : decode prog_2_method_4_code 39 = .ok (.if_icmp .eq 15, 3) := by decide +kernel
theorem d1_42 : decode prog_2_method_4_code 42 = .ok (.iload_n 0, 1) := by decide +kernel
theorem d1_43 : decode prog_2_method_4_code 43 = .ok (.bipush 95, 2) := by decide +kernel
theorem d1_45 : decode prog_2_method_4_code 45 = .ok (.if_icmp .eq 9, 3) := by decide +kernel
theorem d1_48 : decode prog_2_method_4_code 48 = .ok (.iload_n 0, 1) := by decide +kernel
theorem d1_49 : decode prog_2_method_4_code 49 = .ok (.bipush 46, 2) := by decide +kernel
theorem d1_51 : decode prog_2_method_4_code 51 = .ok (.if_icmp .ne 7, 3) := by decide +kernel
theorem d1_54 : decode prog_2_method_4_code 54 = .ok (.iconst 1, 1) := by decide +kernel
theorem d1_55 : decode prog_2_method_4_code 55 = .ok (.goto 4, 3) := by decide +kernel
theorem d1_58 : decode prog_2_method_4_code 58 = .ok (.iconst 0, 1) := by decide +kernel
theorem d1_59 : decode prog_2_method_4_code 59 = .ok (.ireturn, 1) := by decide +kernel
theorem pn_1 : plainName "com/example/matchstone/matchstone/Ascii" = true := by first | (simp [plainName, overriddenIn]; done) | decide +kernel
theorem ef_1 (m : MethodId) (x0 : Int32) : entryFrame m #[(.int x0)] 1 = mkF m 0 #[.val (.int x0)] [] := by first | (simp [entryFrame, mkF, argsToLocals, Value.category]; done) | rfl
def Q1 (Z : State) (cc : Int32) (h0 : Heap) (n0 : Nat) (v : Option Value) (h : Heap) (L : List Loc) : Prop := ∃ z : Int32, v = some (.int z) ∧ Fr n0 L ∧ h = h0 ∧ ((z = 1 ∧ own_isid cc) ∨ (z = 0 ∧ ¬ own_isid cc))
set_option maxRecDepth 65536 in
set_option maxHeartbeats 40000000 in
theorem rm1 (l : Launch) (Z : State) (a0 : Array Value) (hw : ∀ d ∈ tables_1, d.before a0 Z = true) (ws : List Jvm.Cond) (cc : Int32) (h0 : Heap) (n0 : Nat) (Z0 : n0 ≤ h0.size) :
    MetFree l (⟨"com/example/matchstone/matchstone/Ascii", "isIdCharacter", "(I)Z"⟩ : MethodName) (head1 (Jvm.Cond.code (⟨"com/example/matchstone/matchstone/Ascii", "isIdCharacter", "(I)Z"⟩ : MethodName) prog_2_method_4_code 1 (some .boolean) :: ws) ({ frames := 0, cells := 0, slots := 0, locals := 0 } : Room)) (fun a U => a = #[(.int cc)] ∧ Z.Warmed39 U.vm ∧ U.heap = h0) (fun _ _ _ _ _ => True) (fun _ U o U' => ∃ v L, o = .returned v ∧ Q1 Z cc h0 n0 v U'.heap L ∧ FrameEnd U o U' L ({ frames := 0, cells := 0, slots := 0, locals := 0 } : Room).cells ({ frames := 0, cells := 0, slots := 0, locals := 0 } : Room).slots) := by
  refine MetFree.of_bodySF (plainFor_of_name pn_1) hisR ?_
  intro p e s m args below meth c s₁ Bd hml0 hP hK
  obtain ⟨rfl, hZ, hh⟩ := hP
  have hx := Bd.exec
  have hby := Bd.bytes
  have hml : c.maxLocals = 1 := hml0
  have hown : s.vm.findClass "com/example/matchstone/matchstone/Ascii" = some m.cls := findClass_of_methodNamed Bd.named
  have hnm := (name_of_methodNamed Bd.named Bd.method).1
  have X0 : Stand p l e ({ frames := 0, cells := 0, slots := 0, locals := 0 } : Room) s m #[(.int cc)] below meth c s₁ [] 0 0 := Stand.of_body Bd
  have e0 : s₁.heap = h0 := by rw [← hh, Bd.state]; rfl
  have N0 := Fr.nil n0
  show Go p e below s (Q1 Z cc h0 n0) ({ frames := 0, cells := 0, slots := 0, locals := 0 } : Room).cells ({ frames := 0, cells := 0, slots := 0, locals := 0 } : Room).slots (s₁.setTop (entryFrame m #[(.int cc)] 1))
  rw [ef_1]
  show Go _ _ _ _ _ _ _ (s₁.setTop (mkF m 0 #[.val (.int cc)] []))
  refine Go.step (fun t k => XS.iloadN X0.here hx rfl (hb hby d1_0) rfl k) ?_
  show Go _ _ _ _ _ _ _ (s₁.setTop (mkF m 1 #[.val (.int cc)] [(.int cc)]))
  refine Go.step (fun t k => XS.bipush X0.here hx rfl (hb hby d1_1) k) ?_
  show Go _ _ _ _ _ _ _ (s₁.setTop (mkF m 3 #[.val (.int cc)] [(.int (97 : Int32)), (.int cc)]))
  by_cases hc3_1 : cc < (97 : Int32)
  · refine Go.step (fun t k => XS.icmpYes X0.here hx rfl (pc0 := 3) (pc' := 12) rfl (hb hby d1_3) rfl (tlt hc3_1).1 (by decide) (by decide) k) ?_
    show Go _ _ _ _ _ _ _ (s₁.setTop (mkF m 12 #[.val (.int cc)] []))
    refine Go.step (fun t k => XS.iloadN X0.here hx rfl (hb hby d1_12) rfl k) ?_
    show Go _ _ _ _ _ _ _ (s₁.setTop (mkF m 13 #[.val (.int cc)] [(.int cc)]))
    refine Go.step (fun t k => XS.bipush X0.here hx rfl (hb hby d1_13) k) ?_
    show Go _ _ _ _ _ _ _ (s₁.setTop (mkF m 15 #[.val (.int cc)] [(.int (65 : Int32)), (.int cc)]))
    by_cases hc15_2 : cc < (65 : Int32)
    · refine Go.step (fun t k => XS.icmpYes X0.here hx rfl (pc0 := 15) (pc' := 24) rfl (hb hby d1_15) rfl (tlt hc15_2).1 (by decide) (by decide) k) ?_
      show Go _ _ _ _ _ _ _ (s₁.setTop (mkF m 24 #[.val (.int cc)] []))
      refine Go.step (fun t k => XS.iloadN X0.here hx rfl (hb hby d1_24) rfl k) ?_
      show Go _ _ _ _ _ _ _ (s₁.setTop (mkF m 25 #[.val (.int cc)] [(.int cc)]))
      refine Go.step (fun t k => XS.bipush X0.here hx rfl (hb hby d1_25) k) ?_
      show Go _ _ _ _ _ _ _ (s₁.setTop (mkF m 27 #[.val (.int cc)] [(.int (48 : Int32)), (.int cc)]))
      by_cases hc27_3 : cc < (48 : Int32)
      · refine Go.step (fun t k => XS.icmpYes X0.here hx rfl (pc0 := 27) (pc' := 36) rfl (hb hby d1_27) rfl (tlt hc27_3).1 (by decide) (by decide) k) ?_
        show Go _ _ _ _ _ _ _ (s₁.setTop (mkF m 36 #[.val (.int cc)] []))
        refine Go.step (fun t k => XS.iloadN X0.here hx rfl (hb hby d1_36) rfl k) ?_
        show Go _ _ _ _ _ _ _ (s₁.setTop (mkF m 37 #[.val (.int cc)] [(.int cc)]))
        refine Go.step (fun t k => XS.bipush X0.here hx rfl (hb hby d1_37) k) ?_
        show Go _ _ _ _ _ _ _ (s₁.setTop (mkF m 39 #[.val (.int cc)] [(.int (45 : Int32)), (.int cc)]))
        by_cases hc39_4 : cc = (45 : Int32)
        · refine Go.step (fun t k => XS.icmpYes X0.here hx rfl (pc0 := 39) (pc' := 54) rfl (hb hby d1_39) rfl (teq hc39_4).1 (by decide) (by decide) k) ?_
          show Go _ _ _ _ _ _ _ (s₁.setTop (mkF m 54 #[.val (.int cc)] []))
          refine Go.step (fun t k => XS.iconst X0.here hx rfl (hb hby d1_54) k) ?_
          show Go _ _ _ _ _ _ _ (s₁.setTop (mkF m 55 #[.val (.int cc)] [(.int (1 : Int32))]))
          refine Go.step (fun t k => XS.goto X0.here hx rfl (pc0 := 55) (pc' := 59) rfl (hb hby d1_55) (by decide) (by decide) k) ?_
          show Go _ _ _ _ _ _ _ (s₁.setTop (mkF m 59 #[.val (.int cc)] [(.int (1 : Int32))]))
          refine Go.retN X0 Bd.notSynchronized hx (t := .boolean) Bd.returns (by simp) (hb hby d1_59) (by decide) (by decide) (1 : Int32) rfl ?_
          rw [e0]
          have ihc3_1 : (cc).toInt < 97 := own_lt hc3_1
          have ihc15_2 : (cc).toInt < 65 := own_lt hc15_2
          have ihc27_3 : (cc).toInt < 48 := own_lt hc27_3
          have ihc39_4 : (cc).toInt = 45 := own_eq hc39_4
          exact ⟨(1 : Int32), rfl, N0, rfl, (Or.inl ⟨rfl, (by unfold own_isid; omega)⟩)⟩
        · refine Go.step (fun t k => XS.icmpNo X0.here hx rfl (hb hby d1_39) rfl (feq hc39_4).1 k) ?_
          show Go _ _ _ _ _ _ _ (s₁.setTop (mkF m 42 #[.val (.int cc)] []))
          refine Go.step (fun t k => XS.iloadN X0.here hx rfl (hb hby d1_42) rfl k) ?_
          show Go _ _ _ _ _ _ _ (s₁.setTop (mkF m 43 #[.val (.int cc)] [(.int cc)]))
          refine Go.step (fun t k => XS.bipush X0.here hx rfl (hb hby d1_43) k) ?_
          show Go _ _ _ _ _ _ _ (s₁.setTop (mkF m 45 #[.val (.int cc)] [(.int (95 : Int32)), (.int cc)]))
          by_cases hc45_5 : cc = (95 : Int32)
          · refine Go.step (fun t k => XS.icmpYes X0.here hx rfl (pc0 := 45) (pc' := 54) rfl (hb hby d1_45) rfl (teq hc45_5).1 (by decide) (by decide) k) ?_
            show Go _ _ _ _ _ _ _ (s₁.setTop (mkF m 54 #[.val (.int cc)] []))
            refine Go.step (fun t k => XS.iconst X0.here hx rfl (hb hby d1_54) k) ?_
            show Go _ _ _ _ _ _ _ (s₁.setTop (mkF m 55 #[.val (.int cc)] [(.int (1 : Int32))]))
            refine Go.step (fun t k => XS.goto X0.here hx rfl (pc0 := 55) (pc' := 59) rfl (hb hby d1_55) (by decide) (by decide) k) ?_
            show Go _ _ _ _ _ _ _ (s₁.setTop (mkF m 59 #[.val (.int cc)] [(.int (1 : Int32))]))
            refine Go.retN X0 Bd.notSynchronized hx (t := .boolean) Bd.returns (by simp) (hb hby d1_59) (by decide) (by decide) (1 : Int32) rfl ?_
            rw [e0]
            have ihc3_1 : (cc).toInt < 97 := own_lt hc3_1
            have ihc15_2 : (cc).toInt < 65 := own_lt hc15_2
            have ihc27_3 : (cc).toInt < 48 := own_lt hc27_3
            have ihc39_4 : ¬ (cc).toInt = 45 := own_neq hc39_4
            have ihc45_5 : (cc).toInt = 95 := own_eq hc45_5
            exact ⟨(1 : Int32), rfl, N0, rfl, (Or.inl ⟨rfl, (by unfold own_isid; omega)⟩)⟩
          · refine Go.step (fun t k => XS.icmpNo X0.here hx rfl (hb hby d1_45) rfl (feq hc45_5).1 k) ?_
            show Go _ _ _ _ _ _ _ (s₁.setTop (mkF m 48 #[.val (.int cc)] []))
            refine Go.step (fun t k => XS.iloadN X0.here hx rfl (hb hby d1_48) rfl k) ?_
            show Go _ _ _ _ _ _ _ (s₁.setTop (mkF m 49 #[.val (.int cc)] [(.int cc)]))
            refine Go.step (fun t k => XS.bipush X0.here hx rfl (hb hby d1_49) k) ?_
            show Go _ _ _ _ _ _ _ (s₁.setTop (mkF m 51 #[.val (.int cc)] [(.int (46 : Int32)), (.int cc)]))
            by_cases hc51_6 : cc = (46 : Int32)
            · refine Go.step (fun t k => XS.icmpNo X0.here hx rfl (hb hby d1_51) rfl (teq hc51_6).2 k) ?_
              show Go _ _ _ _ _ _ _ (s₁.setTop (mkF m 54 #[.val (.int cc)] []))
              refine Go.step (fun t k => XS.iconst X0.here hx rfl (hb hby d1_54) k) ?_
              show Go _ _ _ _ _ _ _ (s₁.setTop (mkF m 55 #[.val (.int cc)] [(.int (1 : Int32))]))
              refine Go.step (fun t k => XS.goto X0.here hx rfl (pc0 := 55) (pc' := 59) rfl (hb hby d1_55) (by decide) (by decide) k) ?_
              show Go _ _ _ _ _ _ _ (s₁.setTop (mkF m 59 #[.val (.int cc)] [(.int (1 : Int32))]))
              refine Go.retN X0 Bd.notSynchronized hx (t := .boolean) Bd.returns (by simp) (hb hby d1_59) (by decide) (by decide) (1 : Int32) rfl ?_
              rw [e0]
              have ihc3_1 : (cc).toInt < 97 := own_lt hc3_1
              have ihc15_2 : (cc).toInt < 65 := own_lt hc15_2
              have ihc27_3 : (cc).toInt < 48 := own_lt hc27_3
              have ihc39_4 : ¬ (cc).toInt = 45 := own_neq hc39_4
              have ihc45_5 : ¬ (cc).toInt = 95 := own_neq hc45_5
              have ihc51_6 : (cc).toInt = 46 := own_eq hc51_6
              exact ⟨(1 : Int32), rfl, N0, rfl, (Or.inl ⟨rfl, (by unfold own_isid; omega)⟩)⟩
            · refine Go.step (fun t k => XS.icmpYes X0.here hx rfl (pc0 := 51) (pc' := 58) rfl (hb hby d1_51) rfl (feq hc51_6).2 (by decide) (by decide) k) ?_
              show Go _ _ _ _ _ _ _ (s₁.setTop (mkF m 58 #[.val (.int cc)] []))
              refine Go.step (fun t k => XS.iconst X0.here hx rfl (hb hby d1_58) k) ?_
              show Go _ _ _ _ _ _ _ (s₁.setTop (mkF m 59 #[.val (.int cc)] [(.int (0 : Int32))]))
              refine Go.retN X0 Bd.notSynchronized hx (t := .boolean) Bd.returns (by simp) (hb hby d1_59) (by decide) (by decide) (0 : Int32) rfl ?_
              rw [e0]
              have ihc3_1 : (cc).toInt < 97 := own_lt hc3_1
              have ihc15_2 : (cc).toInt < 65 := own_lt hc15_2
              have ihc27_3 : (cc).toInt < 48 := own_lt hc27_3
              have ihc39_4 : ¬ (cc).toInt = 45 := own_neq hc39_4
              have ihc45_5 : ¬ (cc).toInt = 95 := own_neq hc45_5
              have ihc51_6 : ¬ (cc).toInt = 46 := own_neq hc51_6
              exact ⟨(0 : Int32), rfl, N0, rfl, (Or.inr ⟨rfl, (by unfold own_isid; omega)⟩)⟩
      · refine Go.step (fun t k => XS.icmpNo X0.here hx rfl (hb hby d1_27) rfl (flt hc27_3).1 k) ?_
        show Go _ _ _ _ _ _ _ (s₁.setTop (mkF m 30 #[.val (.int cc)] []))
        refine Go.step (fun t k => XS.iloadN X0.here hx rfl (hb hby d1_30) rfl k) ?_
        show Go _ _ _ _ _ _ _ (s₁.setTop (mkF m 31 #[.val (.int cc)] [(.int cc)]))
        refine Go.step (fun t k => XS.bipush X0.here hx rfl (hb hby d1_31) k) ?_
        show Go _ _ _ _ _ _ _ (s₁.setTop (mkF m 33 #[.val (.int cc)] [(.int (57 : Int32)), (.int cc)]))
        by_cases hc33_7 : (57 : Int32) < cc
        · refine Go.step (fun t k => XS.icmpNo X0.here hx rfl (hb hby d1_33) rfl (tlt hc33_7).2.2.2 k) ?_
          show Go _ _ _ _ _ _ _ (s₁.setTop (mkF m 36 #[.val (.int cc)] []))
          refine Go.step (fun t k => XS.iloadN X0.here hx rfl (hb hby d1_36) rfl k) ?_
          show Go _ _ _ _ _ _ _ (s₁.setTop (mkF m 37 #[.val (.int cc)] [(.int cc)]))
          refine Go.step (fun t k => XS.bipush X0.here hx rfl (hb hby d1_37) k) ?_
          show Go _ _ _ _ _ _ _ (s₁.setTop (mkF m 39 #[.val (.int cc)] [(.int (45 : Int32)), (.int cc)]))
          by_cases hc39_8 : cc = (45 : Int32)
          · refine Go.step (fun t k => XS.icmpYes X0.here hx rfl (pc0 := 39) (pc' := 54) rfl (hb hby d1_39) rfl (teq hc39_8).1 (by decide) (by decide) k) ?_
            show Go _ _ _ _ _ _ _ (s₁.setTop (mkF m 54 #[.val (.int cc)] []))
            refine Go.step (fun t k => XS.iconst X0.here hx rfl (hb hby d1_54) k) ?_
            show Go _ _ _ _ _ _ _ (s₁.setTop (mkF m 55 #[.val (.int cc)] [(.int (1 : Int32))]))
            refine Go.step (fun t k => XS.goto X0.here hx rfl (pc0 := 55) (pc' := 59) rfl (hb hby d1_55) (by decide) (by decide) k) ?_
            show Go _ _ _ _ _ _ _ (s₁.setTop (mkF m 59 #[.val (.int cc)] [(.int (1 : Int32))]))
            refine Go.retN X0 Bd.notSynchronized hx (t := .boolean) Bd.returns (by simp) (hb hby d1_59) (by decide) (by decide) (1 : Int32) rfl ?_
            rw [e0]
            have ihc3_1 : (cc).toInt < 97 := own_lt hc3_1
            have ihc15_2 : (cc).toInt < 65 := own_lt hc15_2
            have ihc27_3 : ¬ (cc).toInt < 48 := own_nlt hc27_3
            have ihc33_7 : 57 < (cc).toInt := own_lt hc33_7
            have ihc39_8 : (cc).toInt = 45 := own_eq hc39_8
            exact ⟨(1 : Int32), rfl, N0, rfl, (Or.inl ⟨rfl, (by unfold own_isid; omega)⟩)⟩
          · refine Go.step (fun t k => XS.icmpNo X0.here hx rfl (hb hby d1_39) rfl (feq hc39_8).1 k) ?_
            show Go _ _ _ _ _ _ _ (s₁.setTop (mkF m 42 #[.val (.int cc)] []))
            refine Go.step (fun t k => XS.iloadN X0.here hx rfl (hb hby d1_42) rfl k) ?_
            show Go _ _ _ _ _ _ _ (s₁.setTop (mkF m 43 #[.val (.int cc)] [(.int cc)]))
            refine Go.step (fun t k => XS.bipush X0.here hx rfl (hb hby d1_43) k) ?_
            show Go _ _ _ _ _ _ _ (s₁.setTop (mkF m 45 #[.val (.int cc)] [(.int (95 : Int32)), (.int cc)]))
            by_cases hc45_9 : cc = (95 : Int32)
            · refine Go.step (fun t k => XS.icmpYes X0.here hx rfl (pc0 := 45) (pc' := 54) rfl (hb hby d1_45) rfl (teq hc45_9).1 (by decide) (by decide) k) ?_
              show Go _ _ _ _ _ _ _ (s₁.setTop (mkF m 54 #[.val (.int cc)] []))
              refine Go.step (fun t k => XS.iconst X0.here hx rfl (hb hby d1_54) k) ?_
              show Go _ _ _ _ _ _ _ (s₁.setTop (mkF m 55 #[.val (.int cc)] [(.int (1 : Int32))]))
              refine Go.step (fun t k => XS.goto X0.here hx rfl (pc0 := 55) (pc' := 59) rfl (hb hby d1_55) (by decide) (by decide) k) ?_
              show Go _ _ _ _ _ _ _ (s₁.setTop (mkF m 59 #[.val (.int cc)] [(.int (1 : Int32))]))
              refine Go.retN X0 Bd.notSynchronized hx (t := .boolean) Bd.returns (by simp) (hb hby d1_59) (by decide) (by decide) (1 : Int32) rfl ?_
              rw [e0]
              have ihc3_1 : (cc).toInt < 97 := own_lt hc3_1
              have ihc15_2 : (cc).toInt < 65 := own_lt hc15_2
              have ihc27_3 : ¬ (cc).toInt < 48 := own_nlt hc27_3
              have ihc33_7 : 57 < (cc).toInt := own_lt hc33_7
              have ihc39_8 : ¬ (cc).toInt = 45 := own_neq hc39_8
              have ihc45_9 : (cc).toInt = 95 := own_eq hc45_9
              exact ⟨(1 : Int32), rfl, N0, rfl, (Or.inl ⟨rfl, (by unfold own_isid; omega)⟩)⟩
            · refine Go.step (fun t k => XS.icmpNo X0.here hx rfl (hb hby d1_45) rfl (feq hc45_9).1 k) ?_
              show Go _ _ _ _ _ _ _ (s₁.setTop (mkF m 48 #[.val (.int cc)] []))
              refine Go.step (fun t k => XS.iloadN X0.here hx rfl (hb hby d1_48) rfl k) ?_
              show Go _ _ _ _ _ _ _ (s₁.setTop (mkF m 49 #[.val (.int cc)] [(.int cc)]))
              refine Go.step (fun t k => XS.bipush X0.here hx rfl (hb hby d1_49) k) ?_
              show Go _ _ _ _ _ _ _ (s₁.setTop (mkF m 51 #[.val (.int cc)] [(.int (46 : Int32)), (.int cc)]))
              by_cases hc51_10 : cc = (46 : Int32)
              · refine Go.step (fun t k => XS.icmpNo X0.here hx rfl (hb hby d1_51) rfl (teq hc51_10).2 k) ?_
                show Go _ _ _ _ _ _ _ (s₁.setTop (mkF m 54 #[.val (.int cc)] []))
                refine Go.step (fun t k => XS.iconst X0.here hx rfl (hb hby d1_54) k) ?_
                show Go _ _ _ _ _ _ _ (s₁.setTop (mkF m 55 #[.val (.int cc)] [(.int (1 : Int32))]))
                refine Go.step (fun t k => XS.goto X0.here hx rfl (pc0 := 55) (pc' := 59) rfl (hb hby d1_55) (by decide) (by decide) k) ?_
                show Go _ _ _ _ _ _ _ (s₁.setTop (mkF m 59 #[.val (.int cc)] [(.int (1 : Int32))]))
                refine Go.retN X0 Bd.notSynchronized hx (t := .boolean) Bd.returns (by simp) (hb hby d1_59) (by decide) (by decide) (1 : Int32) rfl ?_
                rw [e0]
                have ihc3_1 : (cc).toInt < 97 := own_lt hc3_1
                have ihc15_2 : (cc).toInt < 65 := own_lt hc15_2
                have ihc27_3 : ¬ (cc).toInt < 48 := own_nlt hc27_3
                have ihc33_7 : 57 < (cc).toInt := own_lt hc33_7
                have ihc39_8 : ¬ (cc).toInt = 45 := own_neq hc39_8
                have ihc45_9 : ¬ (cc).toInt = 95 := own_neq hc45_9
                have ihc51_10 : (cc).toInt = 46 := own_eq hc51_10
                exact ⟨(1 : Int32), rfl, N0, rfl, (Or.inl ⟨rfl, (by unfold own_isid; omega)⟩)⟩
              · refine Go.step (fun t k => XS.icmpYes X0.here hx rfl (pc0 := 51) (pc' := 58) rfl (hb hby d1_51) rfl (feq hc51_10).2 (by decide) (by decide) k) ?_
                show Go _ _ _ _ _ _ _ (s₁.setTop (mkF m 58 #[.val (.int cc)] []))
                refine Go.step (fun t k => XS.iconst X0.here hx rfl (hb hby d1_58) k) ?_
                show Go _ _ _ _ _ _ _ (s₁.setTop (mkF m 59 #[.val (.int cc)] [(.int (0 : Int32))]))
                refine Go.retN X0 Bd.notSynchronized hx (t := .boolean) Bd.returns (by simp) (hb hby d1_59) (by decide) (by decide) (0 : Int32) rfl ?_
                rw [e0]
                have ihc3_1 : (cc).toInt < 97 := own_lt hc3_1
                have ihc15_2 : (cc).toInt < 65 := own_lt hc15_2
                have ihc27_3 : ¬ (cc).toInt < 48 := own_nlt hc27_3
                have ihc33_7 : 57 < (cc).toInt := own_lt hc33_7
                have ihc39_8 : ¬ (cc).toInt = 45 := own_neq hc39_8
                have ihc45_9 : ¬ (cc).toInt = 95 := own_neq hc45_9
                have ihc51_10 : ¬ (cc).toInt = 46 := own_neq hc51_10
                exact ⟨(0 : Int32), rfl, N0, rfl, (Or.inr ⟨rfl, (by unfold own_isid; omega)⟩)⟩
        · refine Go.step (fun t k => XS.icmpYes X0.here hx rfl (pc0 := 33) (pc' := 54) rfl (hb hby d1_33) rfl (flt hc33_7).2.2.2 (by decide) (by decide) k) ?_
          show Go _ _ _ _ _ _ _ (s₁.setTop (mkF m 54 #[.val (.int cc)] []))
          refine Go.step (fun t k => XS.iconst X0.here hx rfl (hb hby d1_54) k) ?_
          show Go _ _ _ _ _ _ _ (s₁.setTop (mkF m 55 #[.val (.int cc)] [(.int (1 : Int32))]))
          refine Go.step (fun t k => XS.goto X0.here hx rfl (pc0 := 55) (pc' := 59) rfl (hb hby d1_55) (by decide) (by decide) k) ?_
          show Go _ _ _ _ _ _ _ (s₁.setTop (mkF m 59 #[.val (.int cc)] [(.int (1 : Int32))]))
          refine Go.retN X0 Bd.notSynchronized hx (t := .boolean) Bd.returns (by simp) (hb hby d1_59) (by decide) (by decide) (1 : Int32) rfl ?_
          rw [e0]
          have ihc3_1 : (cc).toInt < 97 := own_lt hc3_1
          have ihc15_2 : (cc).toInt < 65 := own_lt hc15_2
          have ihc27_3 : ¬ (cc).toInt < 48 := own_nlt hc27_3
          have ihc33_7 : ¬ 57 < (cc).toInt := own_nlt hc33_7
          exact ⟨(1 : Int32), rfl, N0, rfl, (Or.inl ⟨rfl, (by unfold own_isid; omega)⟩)⟩
    · refine Go.step (fun t k => XS.icmpNo X0.here hx rfl (hb hby d1_15) rfl (flt hc15_2).1 k) ?_
      show Go _ _ _ _ _ _ _ (s₁.setTop (mkF m 18 #[.val (.int cc)] []))
      refine Go.step (fun t k => XS.iloadN X0.here hx rfl (hb hby d1_18) rfl k) ?_
      show Go _ _ _ _ _ _ _ (s₁.setTop (mkF m 19 #[.val (.int cc)] [(.int cc)]))
      refine Go.step (fun t k => XS.bipush X0.here hx rfl (hb hby d1_19) k) ?_
      show Go _ _ _ _ _ _ _ (s₁.setTop (mkF m 21 #[.val (.int cc)] [(.int (90 : Int32)), (.int cc)]))
      by_cases hc21_11 : (90 : Int32) < cc
      · refine Go.step (fun t k => XS.icmpNo X0.here hx rfl (hb hby d1_21) rfl (tlt hc21_11).2.2.2 k) ?_
        show Go _ _ _ _ _ _ _ (s₁.setTop (mkF m 24 #[.val (.int cc)] []))
        refine Go.step (fun t k => XS.iloadN X0.here hx rfl (hb hby d1_24) rfl k) ?_
        show Go _ _ _ _ _ _ _ (s₁.setTop (mkF m 25 #[.val (.int cc)] [(.int cc)]))
        refine Go.step (fun t k => XS.bipush X0.here hx rfl (hb hby d1_25) k) ?_
        show Go _ _ _ _ _ _ _ (s₁.setTop (mkF m 27 #[.val (.int cc)] [(.int (48 : Int32)), (.int cc)]))
        by_cases hc27_12 : cc < (48 : Int32)
        · refine Go.step (fun t k => XS.icmpYes X0.here hx rfl (pc0 := 27) (pc' := 36) rfl (hb hby d1_27) rfl (tlt hc27_12).1 (by decide) (by decide) k) ?_
          show Go _ _ _ _ _ _ _ (s₁.setTop (mkF m 36 #[.val (.int cc)] []))
          refine Go.step (fun t k => XS.iloadN X0.here hx rfl (hb hby d1_36) rfl k) ?_
          show Go _ _ _ _ _ _ _ (s₁.setTop (mkF m 37 #[.val (.int cc)] [(.int cc)]))
          refine Go.step (fun t k => XS.bipush X0.here hx rfl (hb hby d1_37) k) ?_
          show Go _ _ _ _ _ _ _ (s₁.setTop (mkF m 39 #[.val (.int cc)] [(.int (45 : Int32)), (.int cc)]))
          by_cases hc39_13 : cc = (45 : Int32)
          · refine Go.step (fun t k => XS.icmpYes X0.here hx rfl (pc0 := 39) (pc' := 54) rfl (hb hby d1_39) rfl (teq hc39_13).1 (by decide) (by decide) k) ?_
            show Go _ _ _ _ _ _ _ (s₁.setTop (mkF m 54 #[.val (.int cc)] []))
            refine Go.step (fun t k => XS.iconst X0.here hx rfl (hb hby d1_54) k) ?_
            show Go _ _ _ _ _ _ _ (s₁.setTop (mkF m 55 #[.val (.int cc)] [(.int (1 : Int32))]))
            refine Go.step (fun t k => XS.goto X0.here hx rfl (pc0 := 55) (pc' := 59) rfl (hb hby d1_55) (by decide) (by decide) k) ?_
            show Go _ _ _ _ _ _ _ (s₁.setTop (mkF m 59 #[.val (.int cc)] [(.int (1 : Int32))]))
            refine Go.retN X0 Bd.notSynchronized hx (t := .boolean) Bd.returns (by simp) (hb hby d1_59) (by decide) (by decide) (1 : Int32) rfl ?_
            rw [e0]
            have ihc3_1 : (cc).toInt < 97 := own_lt hc3_1
            have ihc15_2 : ¬ (cc).toInt < 65 := own_nlt hc15_2
            have ihc21_11 : 90 < (cc).toInt := own_lt hc21_11
            have ihc27_12 : (cc).toInt < 48 := own_lt hc27_12
            have ihc39_13 : (cc).toInt = 45 := own_eq hc39_13
            exact ⟨(1 : Int32), rfl, N0, rfl, (Or.inl ⟨rfl, (by unfold own_isid; omega)⟩)⟩
          · refine Go.step (fun t k => XS.icmpNo X0.here hx rfl (hb hby d1_39) rfl (feq hc39_13).1 k) ?_
            show Go _ _ _ _ _ _ _ (s₁.setTop (mkF m 42 #[.val (.int cc)] []))
            refine Go.step (fun t k => XS.iloadN X0.here hx rfl (hb hby d1_42) rfl k) ?_
            show Go _ _ _ _ _ _ _ (s₁.setTop (mkF m 43 #[.val (.int cc)] [(.int cc)]))
            refine Go.step (fun t k => XS.bipush X0.here hx rfl (hb hby d1_43) k) ?_
            show Go _ _ _ _ _ _ _ (s₁.setTop (mkF m 45 #[.val (.int cc)] [(.int (95 : Int32)), (.int cc)]))
            by_cases hc45_14 : cc = (95 : Int32)
            · refine Go.step (fun t k => XS.icmpYes X0.here hx rfl (pc0 := 45) (pc' := 54) rfl (hb hby d1_45) rfl (teq hc45_14).1 (by decide) (by decide) k) ?_
              show Go _ _ _ _ _ _ _ (s₁.setTop (mkF m 54 #[.val (.int cc)] []))
              refine Go.step (fun t k => XS.iconst X0.here hx rfl (hb hby d1_54) k) ?_
              show Go _ _ _ _ _ _ _ (s₁.setTop (mkF m 55 #[.val (.int cc)] [(.int (1 : Int32))]))
              refine Go.step (fun t k => XS.goto X0.here hx rfl (pc0 := 55) (pc' := 59) rfl (hb hby d1_55) (by decide) (by decide) k) ?_
              show Go _ _ _ _ _ _ _ (s₁.setTop (mkF m 59 #[.val (.int cc)] [(.int (1 : Int32))]))
              refine Go.retN X0 Bd.notSynchronized hx (t := .boolean) Bd.returns (by simp) (hb hby d1_59) (by decide) (by decide) (1 : Int32) rfl ?_
              rw [e0]
              have ihc3_1 : (cc).toInt < 97 := own_lt hc3_1
              have ihc15_2 : ¬ (cc).toInt < 65 := own_nlt hc15_2
              have ihc21_11 : 90 < (cc).toInt := own_lt hc21_11
              have ihc27_12 : (cc).toInt < 48 := own_lt hc27_12
              have ihc39_13 : ¬ (cc).toInt = 45 := own_neq hc39_13
              have ihc45_14 : (cc).toInt = 95 := own_eq hc45_14
              exact ⟨(1 : Int32), rfl, N0, rfl, (Or.inl ⟨rfl, (by unfold own_isid; omega)⟩)⟩
            · refine Go.step (fun t k => XS.icmpNo X0.here hx rfl (hb hby d1_45) rfl (feq hc45_14).1 k) ?_
              show Go _ _ _ _ _ _ _ (s₁.setTop (mkF m 48 #[.val (.int cc)] []))
              refine Go.step (fun t k => XS.iloadN X0.here hx rfl (hb hby d1_48) rfl k) ?_
              show Go _ _ _ _ _ _ _ (s₁.setTop (mkF m 49 #[.val (.int cc)] [(.int cc)]))
              refine Go.step (fun t k => XS.bipush X0.here hx rfl (hb hby d1_49) k) ?_
              show Go _ _ _ _ _ _ _ (s₁.setTop (mkF m 51 #[.val (.int cc)] [(.int (46 : Int32)), (.int cc)]))
              by_cases hc51_15 : cc = (46 : Int32)
              · refine Go.step (fun t k => XS.icmpNo X0.here hx rfl (hb hby d1_51) rfl (teq hc51_15).2 k) ?_
                show Go _ _ _ _ _ _ _ (s₁.setTop (mkF m 54 #[.val (.int cc)] []))
                refine Go.step (fun t k => XS.iconst X0.here hx rfl (hb hby d1_54) k) ?_
                show Go _ _ _ _ _ _ _ (s₁.setTop (mkF m 55 #[.val (.int cc)] [(.int (1 : Int32))]))
                refine Go.step (fun t k => XS.goto X0.here hx rfl (pc0 := 55) (pc' := 59) rfl (hb hby d1_55) (by decide) (by decide) k) ?_
                show Go _ _ _ _ _ _ _ (s₁.setTop (mkF m 59 #[.val (.int cc)] [(.int (1 : Int32))]))
                refine Go.retN X0 Bd.notSynchronized hx (t := .boolean) Bd.returns (by simp) (hb hby d1_59) (by decide) (by decide) (1 : Int32) rfl ?_
                rw [e0]
                have ihc3_1 : (cc).toInt < 97 := own_lt hc3_1
                have ihc15_2 : ¬ (cc).toInt < 65 := own_nlt hc15_2
                have ihc21_11 : 90 < (cc).toInt := own_lt hc21_11
                have ihc27_12 : (cc).toInt < 48 := own_lt hc27_12
                have ihc39_13 : ¬ (cc).toInt = 45 := own_neq hc39_13
                have ihc45_14 : ¬ (cc).toInt = 95 := own_neq hc45_14
                have ihc51_15 : (cc).toInt = 46 := own_eq hc51_15
                exact ⟨(1 : Int32), rfl, N0, rfl, (Or.inl ⟨rfl, (by unfold own_isid; omega)⟩)⟩
              · refine Go.step (fun t k => XS.icmpYes X0.here hx rfl (pc0 := 51) (pc' := 58) rfl (hb hby d1_51) rfl (feq hc51_15).2 (by decide) (by decide) k) ?_
                show Go _ _ _ _ _ _ _ (s₁.setTop (mkF m 58 #[.val (.int cc)] []))
                refine Go.step (fun t k => XS.iconst X0.here hx rfl (hb hby d1_58) k) ?_
                show Go _ _ _ _ _ _ _ (s₁.setTop (mkF m 59 #[.val (.int cc)] [(.int (0 : Int32))]))
                refine Go.retN X0 Bd.notSynchronized hx (t := .boolean) Bd.returns (by simp) (hb hby d1_59) (by decide) (by decide) (0 : Int32) rfl ?_
                rw [e0]
                have ihc3_1 : (cc).toInt < 97 := own_lt hc3_1
                have ihc15_2 : ¬ (cc).toInt < 65 := own_nlt hc15_2
                have ihc21_11 : 90 < (cc).toInt := own_lt hc21_11
                have ihc27_12 : (cc).toInt < 48 := own_lt hc27_12
                have ihc39_13 : ¬ (cc).toInt = 45 := own_neq hc39_13
                have ihc45_14 : ¬ (cc).toInt = 95 := own_neq hc45_14
                have ihc51_15 : ¬ (cc).toInt = 46 := own_neq hc51_15
                exact ⟨(0 : Int32), rfl, N0, rfl, (Or.inr ⟨rfl, (by unfold own_isid; omega)⟩)⟩
        · refine Go.step (fun t k => XS.icmpNo X0.here hx rfl (hb hby d1_27) rfl (flt hc27_12).1 k) ?_
          show Go _ _ _ _ _ _ _ (s₁.setTop (mkF m 30 #[.val (.int cc)] []))
          refine Go.step (fun t k => XS.iloadN X0.here hx rfl (hb hby d1_30) rfl k) ?_
          show Go _ _ _ _ _ _ _ (s₁.setTop (mkF m 31 #[.val (.int cc)] [(.int cc)]))
          refine Go.step (fun t k => XS.bipush X0.here hx rfl (hb hby d1_31) k) ?_
          show Go _ _ _ _ _ _ _ (s₁.setTop (mkF m 33 #[.val (.int cc)] [(.int (57 : Int32)), (.int cc)]))
          by_cases hc33_16 : (57 : Int32) < cc
          · refine Go.step (fun t k => XS.icmpNo X0.here hx rfl (hb hby d1_33) rfl (tlt hc33_16).2.2.2 k) ?_
            show Go _ _ _ _ _ _ _ (s₁.setTop (mkF m 36 #[.val (.int cc)] []))
            refine Go.step (fun t k => XS.iloadN X0.here hx rfl (hb hby d1_36) rfl k) ?_
            show Go _ _ _ _ _ _ _ (s₁.setTop (mkF m 37 #[.val (.int cc)] [(.int cc)]))
            refine Go.step (fun t k => XS.bipush X0.here hx rfl (hb hby d1_37) k) ?_
            show Go _ _ _ _ _ _ _ (s₁.setTop (mkF m 39 #[.val (.int cc)] [(.int (45 : Int32)), (.int cc)]))
            by_cases hc39_17 : cc = (45 : Int32)
            · refine Go.step (fun t k => XS.icmpYes X0.here hx rfl (pc0 := 39) (pc' := 54) rfl (hb hby d1_39) rfl (teq hc39_17).1 (by decide) (by decide) k) ?_
              show Go _ _ _ _ _ _ _ (s₁.setTop (mkF m 54 #[.val (.int cc)] []))
              refine Go.step (fun t k => XS.iconst X0.here hx rfl (hb hby d1_54) k) ?_
              show Go _ _ _ _ _ _ _ (s₁.setTop (mkF m 55 #[.val (.int cc)] [(.int (1 : Int32))]))
              refine Go.step (fun t k => XS.goto X0.here hx rfl (pc0 := 55) (pc' := 59) rfl (hb hby d1_55) (by decide) (by decide) k) ?_
              show Go _ _ _ _ _ _ _ (s₁.setTop (mkF m 59 #[.val (.int cc)] [(.int (1 : Int32))]))
              refine Go.retN X0 Bd.notSynchronized hx (t := .boolean) Bd.returns (by simp) (hb hby d1_59) (by decide) (by decide) (1 : Int32) rfl ?_
              rw [e0]
              have ihc3_1 : (cc).toInt < 97 := own_lt hc3_1
              have ihc15_2 : ¬ (cc).toInt < 65 := own_nlt hc15_2
              have ihc21_11 : 90 < (cc).toInt := own_lt hc21_11
              have ihc27_12 : ¬ (cc).toInt < 48 := own_nlt hc27_12
              have ihc33_16 : 57 < (cc).toInt := own_lt hc33_16
              have ihc39_17 : (cc).toInt = 45 := own_eq hc39_17
              exact ⟨(1 : Int32), rfl, N0, rfl, (Or.inl ⟨rfl, (by unfold own_isid; omega)⟩)⟩
            · refine Go.step (fun t k => XS.icmpNo X0.here hx rfl (hb hby d1_39) rfl (feq hc39_17).1 k) ?_
              show Go _ _ _ _ _ _ _ (s₁.setTop (mkF m 42 #[.val (.int cc)] []))
              refine Go.step (fun t k => XS.iloadN X0.here hx rfl (hb hby d1_42) rfl k) ?_
              show Go _ _ _ _ _ _ _ (s₁.setTop (mkF m 43 #[.val (.int cc)] [(.int cc)]))
              refine Go.step (fun t k => XS.bipush X0.here hx rfl (hb hby d1_43) k) ?_
              show Go _ _ _ _ _ _ _ (s₁.setTop (mkF m 45 #[.val (.int cc)] [(.int (95 : Int32)), (.int cc)]))
              by_cases hc45_18 : cc = (95 : Int32)
              · refine Go.step (fun t k => XS.icmpYes X0.here hx rfl (pc0 := 45) (pc' := 54) rfl (hb hby d1_45) rfl (teq hc45_18).1 (by decide) (by decide) k) ?_
                show Go _ _ _ _ _ _ _ (s₁.setTop (mkF m 54 #[.val (.int cc)] []))
                refine Go.step (fun t k => XS.iconst X0.here hx rfl (hb hby d1_54) k) ?_
                show Go _ _ _ _ _ _ _ (s₁.setTop (mkF m 55 #[.val (.int cc)] [(.int (1 : Int32))]))
                refine Go.step (fun t k => XS.goto X0.here hx rfl (pc0 := 55) (pc' := 59) rfl (hb hby d1_55) (by decide) (by decide) k) ?_
                show Go _ _ _ _ _ _ _ (s₁.setTop (mkF m 59 #[.val (.int cc)] [(.int (1 : Int32))]))
                refine Go.retN X0 Bd.notSynchronized hx (t := .boolean) Bd.returns (by simp) (hb hby d1_59) (by decide) (by decide) (1 : Int32) rfl ?_
                rw [e0]
                have ihc3_1 : (cc).toInt < 97 := own_lt hc3_1
                have ihc15_2 : ¬ (cc).toInt < 65 := own_nlt hc15_2
                have ihc21_11 : 90 < (cc).toInt := own_lt hc21_11
                have ihc27_12 : ¬ (cc).toInt < 48 := own_nlt hc27_12
                have ihc33_16 : 57 < (cc).toInt := own_lt hc33_16
                have ihc39_17 : ¬ (cc).toInt = 45 := own_neq hc39_17
                have ihc45_18 : (cc).toInt = 95 := own_eq hc45_18
                exact ⟨(1 : Int32), rfl, N0, rfl, (Or.inl ⟨rfl, (by unfold own_isid; omega)⟩)⟩
              · refine Go.step (fun t k => XS.icmpNo X0.here hx rfl (hb hby d1_45) rfl (feq hc45_18).1 k) ?_
                show Go _ _ _ _ _ _ _ (s₁.setTop (mkF m 48 #[.val (.int cc)] []))
                refine Go.step (fun t k => XS.iloadN X0.here hx rfl (hb hby d1_48) rfl k) ?_
                show Go _ _ _ _ _ _ _ (s₁.setTop (mkF m 49 #[.val (.int cc)] [(.int cc)]))
                refine Go.step (fun t k => XS.bipush X0.here hx rfl (hb hby d1_49) k) ?_
                show Go _ _ _ _ _ _ _ (s₁.setTop (mkF m 51 #[.val (.int cc)] [(.int (46 : Int32)), (.int cc)]))
                by_cases hc51_19 : cc = (46 : Int32)
                · refine Go.step (fun t k => XS.icmpNo X0.here hx rfl (hb hby d1_51) rfl (teq hc51_19).2 k) ?_
                  show Go _ _ _ _ _ _ _ (s₁.setTop (mkF m 54 #[.val (.int cc)] []))
                  refine Go.step (fun t k => XS.iconst X0.here hx rfl (hb hby d1_54) k) ?_
                  show Go _ _ _ _ _ _ _ (s₁.setTop (mkF m 55 #[.val (.int cc)] [(.int (1 : Int32))]))
                  refine Go.step (fun t k => XS.goto X0.here hx rfl (pc0 := 55) (pc' := 59) rfl (hb hby d1_55) (by decide) (by decide) k) ?_
                  show Go _ _ _ _ _ _ _ (s₁.setTop (mkF m 59 #[.val (.int cc)] [(.int (1 : Int32))]))
                  refine Go.retN X0 Bd.notSynchronized hx (t := .boolean) Bd.returns (by simp) (hb hby d1_59) (by decide) (by decide) (1 : Int32) rfl ?_
                  rw [e0]
                  have ihc3_1 : (cc).toInt < 97 := own_lt hc3_1
                  have ihc15_2 : ¬ (cc).toInt < 65 := own_nlt hc15_2
                  have ihc21_11 : 90 < (cc).toInt := own_lt hc21_11
                  have ihc27_12 : ¬ (cc).toInt < 48 := own_nlt hc27_12
                  have ihc33_16 : 57 < (cc).toInt := own_lt hc33_16
                  have ihc39_17 : ¬ (cc).toInt = 45 := own_neq hc39_17
                  have ihc45_18 : ¬ (cc).toInt = 95 := own_neq hc45_18
                  have ihc51_19 : (cc).toInt = 46 := own_eq hc51_19
                  exact ⟨(1 : Int32), rfl, N0, rfl, (Or.inl ⟨rfl, (by unfold own_isid; omega)⟩)⟩
                · refine Go.step (fun t k => XS.icmpYes X0.here hx rfl (pc0 := 51) (pc' := 58) rfl (hb hby d1_51) rfl (feq hc51_19).2 (by decide) (by decide) k) ?_
                  show Go _ _ _ _ _ _ _ (s₁.setTop (mkF m 58 #[.val (.int cc)] []))
                  refine Go.step (fun t k => XS.iconst X0.here hx rfl (hb hby d1_58) k) ?_
                  show Go _ _ _ _ _ _ _ (s₁.setTop (mkF m 59 #[.val (.int cc)] [(.int (0 : Int32))]))
                  refine Go.retN X0 Bd.notSynchronized hx (t := .boolean) Bd.returns (by simp) (hb hby d1_59) (by decide) (by decide) (0 : Int32) rfl ?_
                  rw [e0]
                  have ihc3_1 : (cc).toInt < 97 := own_lt hc3_1
                  have ihc15_2 : ¬ (cc).toInt < 65 := own_nlt hc15_2
                  have ihc21_11 : 90 < (cc).toInt := own_lt hc21_11
                  have ihc27_12 : ¬ (cc).toInt < 48 := own_nlt hc27_12
                  have ihc33_16 : 57 < (cc).toInt := own_lt hc33_16
                  have ihc39_17 : ¬ (cc).toInt = 45 := own_neq hc39_17
                  have ihc45_18 : ¬ (cc).toInt = 95 := own_neq hc45_18
                  have ihc51_19 : ¬ (cc).toInt = 46 := own_neq hc51_19
                  exact ⟨(0 : Int32), rfl, N0, rfl, (Or.inr ⟨rfl, (by unfold own_isid; omega)⟩)⟩
          · refine Go.step (fun t k => XS.icmpYes X0.here hx rfl (pc0 := 33) (pc' := 54) rfl (hb hby d1_33) rfl (flt hc33_16).2.2.2 (by decide) (by decide) k) ?_
            show Go _ _ _ _ _ _ _ (s₁.setTop (mkF m 54 #[.val (.int cc)] []))
            refine Go.step (fun t k => XS.iconst X0.here hx rfl (hb hby d1_54) k) ?_
            show Go _ _ _ _ _ _ _ (s₁.setTop (mkF m 55 #[.val (.int cc)] [(.int (1 : Int32))]))
            refine Go.step (fun t k => XS.goto X0.here hx rfl (pc0 := 55) (pc' := 59) rfl (hb hby d1_55) (by decide) (by decide) k) ?_
            show Go _ _ _ _ _ _ _ (s₁.setTop (mkF m 59 #[.val (.int cc)] [(.int (1 : Int32))]))
            refine Go.retN X0 Bd.notSynchronized hx (t := .boolean) Bd.returns (by simp) (hb hby d1_59) (by decide) (by decide) (1 : Int32) rfl ?_
            rw [e0]
            have ihc3_1 : (cc).toInt < 97 := own_lt hc3_1
            have ihc15_2 : ¬ (cc).toInt < 65 := own_nlt hc15_2
            have ihc21_11 : 90 < (cc).toInt := own_lt hc21_11
            have ihc27_12 : ¬ (cc).toInt < 48 := own_nlt hc27_12
            have ihc33_16 : ¬ 57 < (cc).toInt := own_nlt hc33_16
            exact ⟨(1 : Int32), rfl, N0, rfl, (Or.inl ⟨rfl, (by unfold own_isid; omega)⟩)⟩
      · refine Go.step (fun t k => XS.icmpYes X0.here hx rfl (pc0 := 21) (pc' := 54) rfl (hb hby d1_21) rfl (flt hc21_11).2.2.2 (by decide) (by decide) k) ?_
        show Go _ _ _ _ _ _ _ (s₁.setTop (mkF m 54 #[.val (.int cc)] []))
        refine Go.step (fun t k => XS.iconst X0.here hx rfl (hb hby d1_54) k) ?_
        show Go _ _ _ _ _ _ _ (s₁.setTop (mkF m 55 #[.val (.int cc)] [(.int (1 : Int32))]))
        refine Go.step (fun t k => XS.goto X0.here hx rfl (pc0 := 55) (pc' := 59) rfl (hb hby d1_55) (by decide) (by decide) k) ?_
        show Go _ _ _ _ _ _ _ (s₁.setTop (mkF m 59 #[.val (.int cc)] [(.int (1 : Int32))]))
        refine Go.retN X0 Bd.notSynchronized hx (t := .boolean) Bd.returns (by simp) (hb hby d1_59) (by decide) (by decide) (1 : Int32) rfl ?_
        rw [e0]
        have ihc3_1 : (cc).toInt < 97 := own_lt hc3_1
        have ihc15_2 : ¬ (cc).toInt < 65 := own_nlt hc15_2
        have ihc21_11 : ¬ 90 < (cc).toInt := own_nlt hc21_11
        exact ⟨(1 : Int32), rfl, N0, rfl, (Or.inl ⟨rfl, (by unfold own_isid; omega)⟩)⟩
  · refine Go.step (fun t k => XS.icmpNo X0.here hx rfl (hb hby d1_3) rfl (flt hc3_1).1 k) ?_
    show Go _ _ _ _ _ _ _ (s₁.setTop (mkF m 6 #[.val (.int cc)] []))
    refine Go.step (fun t k => XS.iloadN X0.here hx rfl (hb hby d1_6) rfl k) ?_
    show Go _ _ _ _ _ _ _ (s₁.setTop (mkF m 7 #[.val (.int cc)] [(.int cc)]))
    refine Go.step (fun t k => XS.bipush X0.here hx rfl (hb hby d1_7) k) ?_
    show Go _ _ _ _ _ _ _ (s₁.setTop (mkF m 9 #[.val (.int cc)] [(.int (122 : Int32)), (.int cc)]))
    by_cases hc9_20 : (122 : Int32) < cc
    · refine Go.step (fun t k => XS.icmpNo X0.here hx rfl (hb hby d1_9) rfl (tlt hc9_20).2.2.2 k) ?_
      show Go _ _ _ _ _ _ _ (s₁.setTop (mkF m 12 #[.val (.int cc)] []))
      refine Go.step (fun t k => XS.iloadN X0.here hx rfl (hb hby d1_12) rfl k) ?_
      show Go _ _ _ _ _ _ _ (s₁.setTop (mkF m 13 #[.val (.int cc)] [(.int cc)]))
      refine Go.step (fun t k => XS.bipush X0.here hx rfl (hb hby d1_13) k) ?_
      show Go _ _ _ _ _ _ _ (s₁.setTop (mkF m 15 #[.val (.int cc)] [(.int (65 : Int32)), (.int cc)]))
      by_cases hc15_21 : cc < (65 : Int32)
      · refine Go.step (fun t k => XS.icmpYes X0.here hx rfl (pc0 := 15) (pc' := 24) rfl (hb hby d1_15) rfl (tlt hc15_21).1 (by decide) (by decide) k) ?_
        show Go _ _ _ _ _ _ _ (s₁.setTop (mkF m 24 #[.val (.int cc)] []))
        refine Go.step (fun t k => XS.iloadN X0.here hx rfl (hb hby d1_24) rfl k) ?_
        show Go _ _ _ _ _ _ _ (s₁.setTop (mkF m 25 #[.val (.int cc)] [(.int cc)]))
        refine Go.step (fun t k => XS.bipush X0.here hx rfl (hb hby d1_25) k) ?_
        show Go _ _ _ _ _ _ _ (s₁.setTop (mkF m 27 #[.val (.int cc)] [(.int (48 : Int32)), (.int cc)]))
        by_cases hc27_22 : cc < (48 : Int32)
        · refine Go.step (fun t k => XS.icmpYes X0.here hx rfl (pc0 := 27) (pc' := 36) rfl (hb hby d1_27) rfl (tlt hc27_22).1 (by decide) (by decide) k) ?_
          show Go _ _ _ _ _ _ _ (s₁.setTop (mkF m 36 #[.val (.int cc)] []))
          refine Go.step (fun t k => XS.iloadN X0.here hx rfl (hb hby d1_36) rfl k) ?_
          show Go _ _ _ _ _ _ _ (s₁.setTop (mkF m 37 #[.val (.int cc)] [(.int cc)]))
          refine Go.step (fun t k => XS.bipush X0.here hx rfl (hb hby d1_37) k) ?_
          show Go _ _ _ _ _ _ _ (s₁.setTop (mkF m 39 #[.val (.int cc)] [(.int (45 : Int32)), (.int cc)]))
          by_cases hc39_23 : cc = (45 : Int32)
          · refine Go.step (fun t k => XS.icmpYes X0.here hx rfl (pc0 := 39) (pc' := 54) rfl (hb hby d1_39) rfl (teq hc39_23).1 (by decide) (by decide) k) ?_
            show Go _ _ _ _ _ _ _ (s₁.setTop (mkF m 54 #[.val (.int cc)] []))
            refine Go.step (fun t k => XS.iconst X0.here hx rfl (hb hby d1_54) k) ?_
            show Go _ _ _ _ _ _ _ (s₁.setTop (mkF m 55 #[.val (.int cc)] [(.int (1 : Int32))]))
            refine Go.step (fun t k => XS.goto X0.here hx rfl (pc0 := 55) (pc' := 59) rfl (hb hby d1_55) (by decide) (by decide) k) ?_
            show Go _ _ _ _ _ _ _ (s₁.setTop (mkF m 59 #[.val (.int cc)] [(.int (1 : Int32))]))
            refine Go.retN X0 Bd.notSynchronized hx (t := .boolean) Bd.returns (by simp) (hb hby d1_59) (by decide) (by decide) (1 : Int32) rfl ?_
            rw [e0]
            have ihc3_1 : ¬ (cc).toInt < 97 := own_nlt hc3_1
            have ihc9_20 : 122 < (cc).toInt := own_lt hc9_20
            have ihc15_21 : (cc).toInt < 65 := own_lt hc15_21
            have ihc27_22 : (cc).toInt < 48 := own_lt hc27_22
            have ihc39_23 : (cc).toInt = 45 := own_eq hc39_23
            exact ⟨(1 : Int32), rfl, N0, rfl, (Or.inl ⟨rfl, (by unfold own_isid; omega)⟩)⟩
          · refine Go.step (fun t k => XS.icmpNo X0.here hx rfl (hb hby d1_39) rfl (feq hc39_23).1 k) ?_
            show Go _ _ _ _ _ _ _ (s₁.setTop (mkF m 42 #[.val (.int cc)] []))
            refine Go.step (fun t k => XS.iloadN X0.here hx rfl (hb hby d1_42) rfl k) ?_
            show Go _ _ _ _ _ _ _ (s₁.setTop (mkF m 43 #[.val (.int cc)] [(.int cc)]))
            refine Go.step (fun t k => XS.bipush X0.here hx rfl (hb hby d1_43) k) ?_
            show Go _ _ _ _ _ _ _ (s₁.setTop (mkF m 45 #[.val (.int cc)] [(.int (95 : Int32)), (.int cc)]))
            by_cases hc45_24 : cc = (95 : Int32)
            · refine Go.step (fun t k => XS.icmpYes X0.here hx rfl (pc0 := 45) (pc' := 54) rfl (hb hby d1_45) rfl (teq hc45_24).1 (by decide) (by decide) k) ?_
              show Go _ _ _ _ _ _ _ (s₁.setTop (mkF m 54 #[.val (.int cc)] []))
              refine Go.step (fun t k => XS.iconst X0.here hx rfl (hb hby d1_54) k) ?_
              show Go _ _ _ _ _ _ _ (s₁.setTop (mkF m 55 #[.val (.int cc)] [(.int (1 : Int32))]))
              refine Go.step (fun t k => XS.goto X0.here hx rfl (pc0 := 55) (pc' := 59) rfl (hb hby d1_55) (by decide) (by decide) k) ?_
              show Go _ _ _ _ _ _ _ (s₁.setTop (mkF m 59 #[.val (.int cc)] [(.int (1 : Int32))]))
              refine Go.retN X0 Bd.notSynchronized hx (t := .boolean) Bd.returns (by simp) (hb hby d1_59) (by decide) (by decide) (1 : Int32) rfl ?_
              rw [e0]
              have ihc3_1 : ¬ (cc).toInt < 97 := own_nlt hc3_1
              have ihc9_20 : 122 < (cc).toInt := own_lt hc9_20
              have ihc15_21 : (cc).toInt < 65 := own_lt hc15_21
              have ihc27_22 : (cc).toInt < 48 := own_lt hc27_22
              have ihc39_23 : ¬ (cc).toInt = 45 := own_neq hc39_23
              have ihc45_24 : (cc).toInt = 95 := own_eq hc45_24
              exact ⟨(1 : Int32), rfl, N0, rfl, (Or.inl ⟨rfl, (by unfold own_isid; omega)⟩)⟩
            · refine Go.step (fun t k => XS.icmpNo X0.here hx rfl (hb hby d1_45) rfl (feq hc45_24).1 k) ?_
              show Go _ _ _ _ _ _ _ (s₁.setTop (mkF m 48 #[.val (.int cc)] []))
              refine Go.step (fun t k => XS.iloadN X0.here hx rfl (hb hby d1_48) rfl k) ?_
              show Go _ _ _ _ _ _ _ (s₁.setTop (mkF m 49 #[.val (.int cc)] [(.int cc)]))
              refine Go.step (fun t k => XS.bipush X0.here hx rfl (hb hby d1_49) k) ?_
              show Go _ _ _ _ _ _ _ (s₁.setTop (mkF m 51 #[.val (.int cc)] [(.int (46 : Int32)), (.int cc)]))
              by_cases hc51_25 : cc = (46 : Int32)
              · refine Go.step (fun t k => XS.icmpNo X0.here hx rfl (hb hby d1_51) rfl (teq hc51_25).2 k) ?_
                show Go _ _ _ _ _ _ _ (s₁.setTop (mkF m 54 #[.val (.int cc)] []))
                refine Go.step (fun t k => XS.iconst X0.here hx rfl (hb hby d1_54) k) ?_
                show Go _ _ _ _ _ _ _ (s₁.setTop (mkF m 55 #[.val (.int cc)] [(.int (1 : Int32))]))
                refine Go.step (fun t k => XS.goto X0.here hx rfl (pc0 := 55) (pc' := 59) rfl (hb hby d1_55) (by decide) (by decide) k) ?_
                show Go _ _ _ _ _ _ _ (s₁.setTop (mkF m 59 #[.val (.int cc)] [(.int (1 : Int32))]))
                refine Go.retN X0 Bd.notSynchronized hx (t := .boolean) Bd.returns (by simp) (hb hby d1_59) (by decide) (by decide) (1 : Int32) rfl ?_
                rw [e0]
                have ihc3_1 : ¬ (cc).toInt < 97 := own_nlt hc3_1
                have ihc9_20 : 122 < (cc).toInt := own_lt hc9_20
                have ihc15_21 : (cc).toInt < 65 := own_lt hc15_21
                have ihc27_22 : (cc).toInt < 48 := own_lt hc27_22
                have ihc39_23 : ¬ (cc).toInt = 45 := own_neq hc39_23
                have ihc45_24 : ¬ (cc).toInt = 95 := own_neq hc45_24
                have ihc51_25 : (cc).toInt = 46 := own_eq hc51_25
                exact ⟨(1 : Int32), rfl, N0, rfl, (Or.inl ⟨rfl, (by unfold own_isid; omega)⟩)⟩
              · refine Go.step (fun t k => XS.icmpYes X0.here hx rfl (pc0 := 51) (pc' := 58) rfl (hb hby d1_51) rfl (feq hc51_25).2 (by decide) (by decide) k) ?_
                show Go _ _ _ _ _ _ _ (s₁.setTop (mkF m 58 #[.val (.int cc)] []))
                refine Go.step (fun t k => XS.iconst X0.here hx rfl (hb hby d1_58) k) ?_
                show Go _ _ _ _ _ _ _ (s₁.setTop (mkF m 59 #[.val (.int cc)] [(.int (0 : Int32))]))
                refine Go.retN X0 Bd.notSynchronized hx (t := .boolean) Bd.returns (by simp) (hb hby d1_59) (by decide) (by decide) (0 : Int32) rfl ?_
                rw [e0]
                have ihc3_1 : ¬ (cc).toInt < 97 := own_nlt hc3_1
                have ihc9_20 : 122 < (cc).toInt := own_lt hc9_20
                have ihc15_21 : (cc).toInt < 65 := own_lt hc15_21
                have ihc27_22 : (cc).toInt < 48 := own_lt hc27_22
                have ihc39_23 : ¬ (cc).toInt = 45 := own_neq hc39_23
                have ihc45_24 : ¬ (cc).toInt = 95 := own_neq hc45_24
                have ihc51_25 : ¬ (cc).toInt = 46 := own_neq hc51_25
                exact ⟨(0 : Int32), rfl, N0, rfl, (Or.inr ⟨rfl, (by unfold own_isid; omega)⟩)⟩
        · refine Go.step (fun t k => XS.icmpNo X0.here hx rfl (hb hby d1_27) rfl (flt hc27_22).1 k) ?_
          show Go _ _ _ _ _ _ _ (s₁.setTop (mkF m 30 #[.val (.int cc)] []))
          refine Go.step (fun t k => XS.iloadN X0.here hx rfl (hb hby d1_30) rfl k) ?_
          show Go _ _ _ _ _ _ _ (s₁.setTop (mkF m 31 #[.val (.int cc)] [(.int cc)]))
          refine Go.step (fun t k => XS.bipush X0.here hx rfl (hb hby d1_31) k) ?_
          show Go _ _ _ _ _ _ _ (s₁.setTop (mkF m 33 #[.val (.int cc)] [(.int (57 : Int32)), (.int cc)]))
          by_cases hc33_26 : (57 : Int32) < cc
          · refine Go.step (fun t k => XS.icmpNo X0.here hx rfl (hb hby d1_33) rfl (tlt hc33_26).2.2.2 k) ?_
            show Go _ _ _ _ _ _ _ (s₁.setTop (mkF m 36 #[.val (.int cc)] []))
            refine Go.step (fun t k => XS.iloadN X0.here hx rfl (hb hby d1_36) rfl k) ?_
            show Go _ _ _ _ _ _ _ (s₁.setTop (mkF m 37 #[.val (.int cc)] [(.int cc)]))
            refine Go.step (fun t k => XS.bipush X0.here hx rfl (hb hby d1_37) k) ?_
            show Go _ _ _ _ _ _ _ (s₁.setTop (mkF m 39 #[.val (.int cc)] [(.int (45 : Int32)), (.int cc)]))
            by_cases hc39_27 : cc = (45 : Int32)
            · refine Go.step (fun t k => XS.icmpYes X0.here hx rfl (pc0 := 39) (pc' := 54) rfl (hb hby d1_39) rfl (teq hc39_27).1 (by decide) (by decide) k) ?_
              show Go _ _ _ _ _ _ _ (s₁.setTop (mkF m 54 #[.val (.int cc)] []))
              refine Go.step (fun t k => XS.iconst X0.here hx rfl (hb hby d1_54) k) ?_
              show Go _ _ _ _ _ _ _ (s₁.setTop (mkF m 55 #[.val (.int cc)] [(.int (1 : Int32))]))
              refine Go.step (fun t k => XS.goto X0.here hx rfl (pc0 := 55) (pc' := 59) rfl (hb hby d1_55) (by decide) (by decide) k) ?_
              show Go _ _ _ _ _ _ _ (s₁.setTop (mkF m 59 #[.val (.int cc)] [(.int (1 : Int32))]))
              refine Go.retN X0 Bd.notSynchronized hx (t := .boolean) Bd.returns (by simp) (hb hby d1_59) (by decide) (by decide) (1 : Int32) rfl ?_
              rw [e0]
              have ihc3_1 : ¬ (cc).toInt < 97 := own_nlt hc3_1
              have ihc9_20 : 122 < (cc).toInt := own_lt hc9_20
              have ihc15_21 : (cc).toInt < 65 := own_lt hc15_21
              have ihc27_22 : ¬ (cc).toInt < 48 := own_nlt hc27_22
              have ihc33_26 : 57 < (cc).toInt := own_lt hc33_26
              have ihc39_27 : (cc).toInt = 45 := own_eq hc39_27
              exact ⟨(1 : Int32), rfl, N0, rfl, (Or.inl ⟨rfl, (by unfold own_isid; omega)⟩)⟩
            · refine Go.step (fun t k => XS.icmpNo X0.here hx rfl (hb hby d1_39) rfl (feq hc39_27).1 k) ?_
              show Go _ _ _ _ _ _ _ (s₁.setTop (mkF m 42 #[.val (.int cc)] []))
              refine Go.step (fun t k => XS.iloadN X0.here hx rfl (hb hby d1_42) rfl k) ?_
              show Go _ _ _ _ _ _ _ (s₁.setTop (mkF m 43 #[.val (.int cc)] [(.int cc)]))
              refine Go.step (fun t k => XS.bipush X0.here hx rfl (hb hby d1_43) k) ?_
              show Go _ _ _ _ _ _ _ (s₁.setTop (mkF m 45 #[.val (.int cc)] [(.int (95 : Int32)), (.int cc)]))
              by_cases hc45_28 : cc = (95 : Int32)
              · refine Go.step (fun t k => XS.icmpYes X0.here hx rfl (pc0 := 45) (pc' := 54) rfl (hb hby d1_45) rfl (teq hc45_28).1 (by decide) (by decide) k) ?_
                show Go _ _ _ _ _ _ _ (s₁.setTop (mkF m 54 #[.val (.int cc)] []))
                refine Go.step (fun t k => XS.iconst X0.here hx rfl (hb hby d1_54) k) ?_
                show Go _ _ _ _ _ _ _ (s₁.setTop (mkF m 55 #[.val (.int cc)] [(.int (1 : Int32))]))
                refine Go.step (fun t k => XS.goto X0.here hx rfl (pc0 := 55) (pc' := 59) rfl (hb hby d1_55) (by decide) (by decide) k) ?_
                show Go _ _ _ _ _ _ _ (s₁.setTop (mkF m 59 #[.val (.int cc)] [(.int (1 : Int32))]))
                refine Go.retN X0 Bd.notSynchronized hx (t := .boolean) Bd.returns (by simp) (hb hby d1_59) (by decide) (by decide) (1 : Int32) rfl ?_
                rw [e0]
                have ihc3_1 : ¬ (cc).toInt < 97 := own_nlt hc3_1
                have ihc9_20 : 122 < (cc).toInt := own_lt hc9_20
                have ihc15_21 : (cc).toInt < 65 := own_lt hc15_21
                have ihc27_22 : ¬ (cc).toInt < 48 := own_nlt hc27_22
                have ihc33_26 : 57 < (cc).toInt := own_lt hc33_26
                have ihc39_27 : ¬ (cc).toInt = 45 := own_neq hc39_27
                have ihc45_28 : (cc).toInt = 95 := own_eq hc45_28
                exact ⟨(1 : Int32), rfl, N0, rfl, (Or.inl ⟨rfl, (by unfold own_isid; omega)⟩)⟩
              · refine Go.step (fun t k => XS.icmpNo X0.here hx rfl (hb hby d1_45) rfl (feq hc45_28).1 k) ?_
                show Go _ _ _ _ _ _ _ (s₁.setTop (mkF m 48 #[.val (.int cc)] []))
                refine Go.step (fun t k => XS.iloadN X0.here hx rfl (hb hby d1_48) rfl k) ?_
                show Go _ _ _ _ _ _ _ (s₁.setTop (mkF m 49 #[.val (.int cc)] [(.int cc)]))
                refine Go.step (fun t k => XS.bipush X0.here hx rfl (hb hby d1_49) k) ?_
                show Go _ _ _ _ _ _ _ (s₁.setTop (mkF m 51 #[.val (.int cc)] [(.int (46 : Int32)), (.int cc)]))
                by_cases hc51_29 : cc = (46 : Int32)
                · refine Go.step (fun t k => XS.icmpNo X0.here hx rfl (hb hby d1_51) rfl (teq hc51_29).2 k) ?_
                  show Go _ _ _ _ _ _ _ (s₁.setTop (mkF m 54 #[.val (.int cc)] []))
                  refine Go.step (fun t k => XS.iconst X0.here hx rfl (hb hby d1_54) k) ?_
                  show Go _ _ _ _ _ _ _ (s₁.setTop (mkF m 55 #[.val (.int cc)] [(.int (1 : Int32))]))
                  refine Go.step (fun t k => XS.goto X0.here hx rfl (pc0 := 55) (pc' := 59) rfl (hb hby d1_55) (by decide) (by decide) k) ?_
                  show Go _ _ _ _ _ _ _ (s₁.setTop (mkF m 59 #[.val (.int cc)] [(.int (1 : Int32))]))
                  refine Go.retN X0 Bd.notSynchronized hx (t := .boolean) Bd.returns (by simp) (hb hby d1_59) (by decide) (by decide) (1 : Int32) rfl ?_
                  rw [e0]
                  have ihc3_1 : ¬ (cc).toInt < 97 := own_nlt hc3_1
                  have ihc9_20 : 122 < (cc).toInt := own_lt hc9_20
                  have ihc15_21 : (cc).toInt < 65 := own_lt hc15_21
                  have ihc27_22 : ¬ (cc).toInt < 48 := own_nlt hc27_22
                  have ihc33_26 : 57 < (cc).toInt := own_lt hc33_26
                  have ihc39_27 : ¬ (cc).toInt = 45 := own_neq hc39_27
                  have ihc45_28 : ¬ (cc).toInt = 95 := own_neq hc45_28
                  have ihc51_29 : (cc).toInt = 46 := own_eq hc51_29
                  exact ⟨(1 : Int32), rfl, N0, rfl, (Or.inl ⟨rfl, (by unfold own_isid; omega)⟩)⟩
                · refine Go.step (fun t k => XS.icmpYes X0.here hx rfl (pc0 := 51) (pc' := 58) rfl (hb hby d1_51) rfl (feq hc51_29).2 (by decide) (by decide) k) ?_
                  show Go _ _ _ _ _ _ _ (s₁.setTop (mkF m 58 #[.val (.int cc)] []))
                  refine Go.step (fun t k => XS.iconst X0.here hx rfl (hb hby d1_58) k) ?_
                  show Go _ _ _ _ _ _ _ (s₁.setTop (mkF m 59 #[.val (.int cc)] [(.int (0 : Int32))]))
                  refine Go.retN X0 Bd.notSynchronized hx (t := .boolean) Bd.returns (by simp) (hb hby d1_59) (by decide) (by decide) (0 : Int32) rfl ?_
                  rw [e0]
                  have ihc3_1 : ¬ (cc).toInt < 97 := own_nlt hc3_1
                  have ihc9_20 : 122 < (cc).toInt := own_lt hc9_20
                  have ihc15_21 : (cc).toInt < 65 := own_lt hc15_21
                  have ihc27_22 : ¬ (cc).toInt < 48 := own_nlt hc27_22
                  have ihc33_26 : 57 < (cc).toInt := own_lt hc33_26
                  have ihc39_27 : ¬ (cc).toInt = 45 := own_neq hc39_27
                  have ihc45_28 : ¬ (cc).toInt = 95 := own_neq hc45_28
                  have ihc51_29 : ¬ (cc).toInt = 46 := own_neq hc51_29
                  exact ⟨(0 : Int32), rfl, N0, rfl, (Or.inr ⟨rfl, (by unfold own_isid; omega)⟩)⟩
          · refine Go.step (fun t k => XS.icmpYes X0.here hx rfl (pc0 := 33) (pc' := 54) rfl (hb hby d1_33) rfl (flt hc33_26).2.2.2 (by decide) (by decide) k) ?_
            show Go _ _ _ _ _ _ _ (s₁.setTop (mkF m 54 #[.val (.int cc)] []))
            refine Go.step (fun t k => XS.iconst X0.here hx rfl (hb hby d1_54) k) ?_
            show Go _ _ _ _ _ _ _ (s₁.setTop (mkF m 55 #[.val (.int cc)] [(.int (1 : Int32))]))
            refine Go.step (fun t k => XS.goto X0.here hx rfl (pc0 := 55) (pc' := 59) rfl (hb hby d1_55) (by decide) (by decide) k) ?_
            show Go _ _ _ _ _ _ _ (s₁.setTop (mkF m 59 #[.val (.int cc)] [(.int (1 : Int32))]))
            refine Go.retN X0 Bd.notSynchronized hx (t := .boolean) Bd.returns (by simp) (hb hby d1_59) (by decide) (by decide) (1 : Int32) rfl ?_
            rw [e0]
            have ihc3_1 : ¬ (cc).toInt < 97 := own_nlt hc3_1
            have ihc9_20 : 122 < (cc).toInt := own_lt hc9_20
            have ihc15_21 : (cc).toInt < 65 := own_lt hc15_21
            have ihc27_22 : ¬ (cc).toInt < 48 := own_nlt hc27_22
            have ihc33_26 : ¬ 57 < (cc).toInt := own_nlt hc33_26
            exact ⟨(1 : Int32), rfl, N0, rfl, (Or.inl ⟨rfl, (by unfold own_isid; omega)⟩)⟩
      · refine Go.step (fun t k => XS.icmpNo X0.here hx rfl (hb hby d1_15) rfl (flt hc15_21).1 k) ?_
        show Go _ _ _ _ _ _ _ (s₁.setTop (mkF m 18 #[.val (.int cc)] []))
        refine Go.step (fun t k => XS.iloadN X0.here hx rfl (hb hby d1_18) rfl k) ?_
        show Go _ _ _ _ _ _ _ (s₁.setTop (mkF m 19 #[.val (.int cc)] [(.int cc)]))
        refine Go.step (fun t k => XS.bipush X0.here hx rfl (hb hby d1_19) k) ?_
        show Go _ _ _ _ _ _ _ (s₁.setTop (mkF m 21 #[.val (.int cc)] [(.int (90 : Int32)), (.int cc)]))
        by_cases hc21_30 : (90 : Int32) < cc
        · refine Go.step (fun t k => XS.icmpNo X0.here hx rfl (hb hby d1_21) rfl (tlt hc21_30).2.2.2 k) ?_
          show Go _ _ _ _ _ _ _ (s₁.setTop (mkF m 24 #[.val (.int cc)] []))
          refine Go.step (fun t k => XS.iloadN X0.here hx rfl (hb hby d1_24) rfl k) ?_
          show Go _ _ _ _ _ _ _ (s₁.setTop (mkF m 25 #[.val (.int cc)] [(.int cc)]))
          refine Go.step (fun t k => XS.bipush X0.here hx rfl (hb hby d1_25) k) ?_
          show Go _ _ _ _ _ _ _ (s₁.setTop (mkF m 27 #[.val (.int cc)] [(.int (48 : Int32)), (.int cc)]))
          by_cases hc27_31 : cc < (48 : Int32)
          · refine Go.step (fun t k => XS.icmpYes X0.here hx rfl (pc0 := 27) (pc' := 36) rfl (hb hby d1_27) rfl (tlt hc27_31).1 (by decide) (by decide) k) ?_
            show Go _ _ _ _ _ _ _ (s₁.setTop (mkF m 36 #[.val (.int cc)] []))
            refine Go.step (fun t k => XS.iloadN X0.here hx rfl (hb hby d1_36) rfl k) ?_
            show Go _ _ _ _ _ _ _ (s₁.setTop (mkF m 37 #[.val (.int cc)] [(.int cc)]))
            refine Go.step (fun t k => XS.bipush X0.here hx rfl (hb hby d1_37) k) ?_
            show Go _ _ _ _ _ _ _ (s₁.setTop (mkF m 39 #[.val (.int cc)] [(.int (45 : Int32)), (.int cc)]))
            by_cases hc39_32 : cc = (45 : Int32)
            · refine Go.step (fun t k => XS.icmpYes X0.here hx rfl (pc0 := 39) (pc' := 54) rfl (hb hby d1_39) rfl (teq hc39_32).1 (by decide) (by decide) k) ?_
              show Go _ _ _ _ _ _ _ (s₁.setTop (mkF m 54 #[.val (.int cc)] []))
              refine Go.step (fun t k => XS.iconst X0.here hx rfl (hb hby d1_54) k) ?_
              show Go _ _ _ _ _ _ _ (s₁.setTop (mkF m 55 #[.val (.int cc)] [(.int (1 : Int32))]))
              refine Go.step (fun t k => XS.goto X0.here hx rfl (pc0 := 55) (pc' := 59) rfl (hb hby d1_55) (by decide) (by decide) k) ?_
              show Go _ _ _ _ _ _ _ (s₁.setTop (mkF m 59 #[.val (.int cc)] [(.int (1 : Int32))]))
              refine Go.retN X0 Bd.notSynchronized hx (t := .boolean) Bd.returns (by simp) (hb hby d1_59) (by decide) (by decide) (1 : Int32) rfl ?_
              rw [e0]
              have ihc3_1 : ¬ (cc).toInt < 97 := own_nlt hc3_1
              have ihc9_20 : 122 < (cc).toInt := own_lt hc9_20
              have ihc15_21 : ¬ (cc).toInt < 65 := own_nlt hc15_21
              have ihc21_30 : 90 < (cc).toInt := own_lt hc21_30
              have ihc27_31 : (cc).toInt < 48 := own_lt hc27_31
              have ihc39_32 : (cc).toInt = 45 := own_eq hc39_32
              exact ⟨(1 : Int32), rfl, N0, rfl, (Or.inl ⟨rfl, (by unfold own_isid; omega)⟩)⟩
            · refine Go.step (fun t k => XS.icmpNo X0.here hx rfl (hb hby d1_39) rfl (feq hc39_32).1 k) ?_
              show Go _ _ _ _ _ _ _ (s₁.setTop (mkF m 42 #[.val (.int cc)] []))
              refine Go.step (fun t k => XS.iloadN X0.here hx rfl (hb hby d1_42) rfl k) ?_
              show Go _ _ _ _ _ _ _ (s₁.setTop (mkF m 43 #[.val (.int cc)] [(.int cc)]))
              refine Go.step (fun t k => XS.bipush X0.here hx rfl (hb hby d1_43) k) ?_
              show Go _ _ _ _ _ _ _ (s₁.setTop (mkF m 45 #[.val (.int cc)] [(.int (95 : Int32)), (.int cc)]))
              by_cases hc45_33 : cc = (95 : Int32)
              · refine Go.step (fun t k => XS.icmpYes X0.here hx rfl (pc0 := 45) (pc' := 54) rfl (hb hby d1_45) rfl (teq hc45_33).1 (by decide) (by decide) k) ?_
                show Go _ _ _ _ _ _ _ (s₁.setTop (mkF m 54 #[.val (.int cc)] []))
                refine Go.step (fun t k => XS.iconst X0.here hx rfl (hb hby d1_54) k) ?_
                show Go _ _ _ _ _ _ _ (s₁.setTop (mkF m 55 #[.val (.int cc)] [(.int (1 : Int32))]))
                refine Go.step (fun t k => XS.goto X0.here hx rfl (pc0 := 55) (pc' := 59) rfl (hb hby d1_55) (by decide) (by decide) k) ?_
                show Go _ _ _ _ _ _ _ (s₁.setTop (mkF m 59 #[.val (.int cc)] [(.int (1 : Int32))]))
                refine Go.retN X0 Bd.notSynchronized hx (t := .boolean) Bd.returns (by simp) (hb hby d1_59) (by decide) (by decide) (1 : Int32) rfl ?_
                rw [e0]
                have ihc3_1 : ¬ (cc).toInt < 97 := own_nlt hc3_1
                have ihc9_20 : 122 < (cc).toInt := own_lt hc9_20
                have ihc15_21 : ¬ (cc).toInt < 65 := own_nlt hc15_21
                have ihc21_30 : 90 < (cc).toInt := own_lt hc21_30
                have ihc27_31 : (cc).toInt < 48 := own_lt hc27_31
                have ihc39_32 : ¬ (cc).toInt = 45 := own_neq hc39_32
                have ihc45_33 : (cc).toInt = 95 := own_eq hc45_33
                exact ⟨(1 : Int32), rfl, N0, rfl, (Or.inl ⟨rfl, (by unfold own_isid; omega)⟩)⟩
              · refine Go.step (fun t k => XS.icmpNo X0.here hx rfl (hb hby d1_45) rfl (feq hc45_33).1 k) ?_
                show Go _ _ _ _ _ _ _ (s₁.setTop (mkF m 48 #[.val (.int cc)] []))
                refine Go.step (fun t k => XS.iloadN X0.here hx rfl (hb hby d1_48) rfl k) ?_
                show Go _ _ _ _ _ _ _ (s₁.setTop (mkF m 49 #[.val (.int cc)] [(.int cc)]))
                refine Go.step (fun t k => XS.bipush X0.here hx rfl (hb hby d1_49) k) ?_
                show Go _ _ _ _ _ _ _ (s₁.setTop (mkF m 51 #[.val (.int cc)] [(.int (46 : Int32)), (.int cc)]))
                by_cases hc51_34 : cc = (46 : Int32)
                · refine Go.step (fun t k => XS.icmpNo X0.here hx rfl (hb hby d1_51) rfl (teq hc51_34).2 k) ?_
                  show Go _ _ _ _ _ _ _ (s₁.setTop (mkF m 54 #[.val (.int cc)] []))
                  refine Go.step (fun t k => XS.iconst X0.here hx rfl (hb hby d1_54) k) ?_
                  show Go _ _ _ _ _ _ _ (s₁.setTop (mkF m 55 #[.val (.int cc)] [(.int (1 : Int32))]))
                  refine Go.step (fun t k => XS.goto X0.here hx rfl (pc0 := 55) (pc' := 59) rfl (hb hby d1_55) (by decide) (by decide) k) ?_
                  show Go _ _ _ _ _ _ _ (s₁.setTop (mkF m 59 #[.val (.int cc)] [(.int (1 : Int32))]))
                  refine Go.retN X0 Bd.notSynchronized hx (t := .boolean) Bd.returns (by simp) (hb hby d1_59) (by decide) (by decide) (1 : Int32) rfl ?_
                  rw [e0]
                  have ihc3_1 : ¬ (cc).toInt < 97 := own_nlt hc3_1
                  have ihc9_20 : 122 < (cc).toInt := own_lt hc9_20
                  have ihc15_21 : ¬ (cc).toInt < 65 := own_nlt hc15_21
                  have ihc21_30 : 90 < (cc).toInt := own_lt hc21_30
                  have ihc27_31 : (cc).toInt < 48 := own_lt hc27_31
                  have ihc39_32 : ¬ (cc).toInt = 45 := own_neq hc39_32
                  have ihc45_33 : ¬ (cc).toInt = 95 := own_neq hc45_33
                  have ihc51_34 : (cc).toInt = 46 := own_eq hc51_34
                  exact ⟨(1 : Int32), rfl, N0, rfl, (Or.inl ⟨rfl, (by unfold own_isid; omega)⟩)⟩
                · refine Go.step (fun t k => XS.icmpYes X0.here hx rfl (pc0 := 51) (pc' := 58) rfl (hb hby d1_51) rfl (feq hc51_34).2 (by decide) (by decide) k) ?_
                  show Go _ _ _ _ _ _ _ (s₁.setTop (mkF m 58 #[.val (.int cc)] []))
                  refine Go.step (fun t k => XS.iconst X0.here hx rfl (hb hby d1_58) k) ?_
                  show Go _ _ _ _ _ _ _ (s₁.setTop (mkF m 59 #[.val (.int cc)] [(.int (0 : Int32))]))
                  refine Go.retN X0 Bd.notSynchronized hx (t := .boolean) Bd.returns (by simp) (hb hby d1_59) (by decide) (by decide) (0 : Int32) rfl ?_
                  rw [e0]
                  have ihc3_1 : ¬ (cc).toInt < 97 := own_nlt hc3_1
                  have ihc9_20 : 122 < (cc).toInt := own_lt hc9_20
                  have ihc15_21 : ¬ (cc).toInt < 65 := own_nlt hc15_21
                  have ihc21_30 : 90 < (cc).toInt := own_lt hc21_30
                  have ihc27_31 : (cc).toInt < 48 := own_lt hc27_31
                  have ihc39_32 : ¬ (cc).toInt = 45 := own_neq hc39_32
                  have ihc45_33 : ¬ (cc).toInt = 95 := own_neq hc45_33
                  have ihc51_34 : ¬ (cc).toInt = 46 := own_neq hc51_34
                  exact ⟨(0 : Int32), rfl, N0, rfl, (Or.inr ⟨rfl, (by unfold own_isid; omega)⟩)⟩
          · refine Go.step (fun t k => XS.icmpNo X0.here hx rfl (hb hby d1_27) rfl (flt hc27_31).1 k) ?_
            show Go _ _ _ _ _ _ _ (s₁.setTop (mkF m 30 #[.val (.int cc)] []))
            refine Go.step (fun t k => XS.iloadN X0.here hx rfl (hb hby d1_30) rfl k) ?_
            show Go _ _ _ _ _ _ _ (s₁.setTop (mkF m 31 #[.val (.int cc)] [(.int cc)]))
            refine Go.step (fun t k => XS.bipush X0.here hx rfl (hb hby d1_31) k) ?_
            show Go _ _ _ _ _ _ _ (s₁.setTop (mkF m 33 #[.val (.int cc)] [(.int (57 : Int32)), (.int cc)]))
            by_cases hc33_35 : (57 : Int32) < cc
            · refine Go.step (fun t k => XS.icmpNo X0.here hx rfl (hb hby d1_33) rfl (tlt hc33_35).2.2.2 k) ?_
              show Go _ _ _ _ _ _ _ (s₁.setTop (mkF m 36 #[.val (.int cc)] []))
              refine Go.step (fun t k => XS.iloadN X0.here hx rfl (hb hby d1_36) rfl k) ?_
              show Go _ _ _ _ _ _ _ (s₁.setTop (mkF m 37 #[.val (.int cc)] [(.int cc)]))
              refine Go.step (fun t k => XS.bipush X0.here hx rfl (hb hby d1_37) k) ?_
              show Go _ _ _ _ _ _ _ (s₁.setTop (mkF m 39 #[.val (.int cc)] [(.int (45 : Int32)), (.int cc)]))
              by_cases hc39_36 : cc = (45 : Int32)
              · refine Go.step (fun t k => XS.icmpYes X0.here hx rfl (pc0 := 39) (pc' := 54) rfl (hb hby d1_39) rfl (teq hc39_36).1 (by decide) (by decide) k) ?_
                show Go _ _ _ _ _ _ _ (s₁.setTop (mkF m 54 #[.val (.int cc)] []))
                refine Go.step (fun t k => XS.iconst X0.here hx rfl (hb hby d1_54) k) ?_
                show Go _ _ _ _ _ _ _ (s₁.setTop (mkF m 55 #[.val (.int cc)] [(.int (1 : Int32))]))
                refine Go.step (fun t k => XS.goto X0.here hx rfl (pc0 := 55) (pc' := 59) rfl (hb hby d1_55) (by decide) (by decide) k) ?_
                show Go _ _ _ _ _ _ _ (s₁.setTop (mkF m 59 #[.val (.int cc)] [(.int (1 : Int32))]))
                refine Go.retN X0 Bd.notSynchronized hx (t := .boolean) Bd.returns (by simp) (hb hby d1_59) (by decide) (by decide) (1 : Int32) rfl ?_
                rw [e0]
                have ihc3_1 : ¬ (cc).toInt < 97 := own_nlt hc3_1
                have ihc9_20 : 122 < (cc).toInt := own_lt hc9_20
                have ihc15_21 : ¬ (cc).toInt < 65 := own_nlt hc15_21
                have ihc21_30 : 90 < (cc).toInt := own_lt hc21_30
                have ihc27_31 : ¬ (cc).toInt < 48 := own_nlt hc27_31
                have ihc33_35 : 57 < (cc).toInt := own_lt hc33_35
                have ihc39_36 : (cc).toInt = 45 := own_eq hc39_36
                exact ⟨(1 : Int32), rfl, N0, rfl, (Or.inl ⟨rfl, (by unfold own_isid; omega)⟩)⟩
              · refine Go.step (fun t k => XS.icmpNo X0.here hx rfl (hb hby d1_39) rfl (feq hc39_36).1 k) ?_
                show Go _ _ _ _ _ _ _ (s₁.setTop (mkF m 42 #[.val (.int cc)] []))
                refine Go.step (fun t k => XS.iloadN X0.here hx rfl (hb hby d1_42) rfl k) ?_
                show Go _ _ _ _ _ _ _ (s₁.setTop (mkF m 43 #[.val (.int cc)] [(.int cc)]))
                refine Go.step (fun t k => XS.bipush X0.here hx rfl (hb hby d1_43) k) ?_
                show Go _ _ _ _ _ _ _ (s₁.setTop (mkF m 45 #[.val (.int cc)] [(.int (95 : Int32)), (.int cc)]))
                by_cases hc45_37 : cc = (95 : Int32)
                · refine Go.step (fun t k => XS.icmpYes X0.here hx rfl (pc0 := 45) (pc' := 54) rfl (hb hby d1_45) rfl (teq hc45_37).1 (by decide) (by decide) k) ?_
                  show Go _ _ _ _ _ _ _ (s₁.setTop (mkF m 54 #[.val (.int cc)] []))
                  refine Go.step (fun t k => XS.iconst X0.here hx rfl (hb hby d1_54) k) ?_
                  show Go _ _ _ _ _ _ _ (s₁.setTop (mkF m 55 #[.val (.int cc)] [(.int (1 : Int32))]))
                  refine Go.step (fun t k => XS.goto X0.here hx rfl (pc0 := 55) (pc' := 59) rfl (hb hby d1_55) (by decide) (by decide) k) ?_
                  show Go _ _ _ _ _ _ _ (s₁.setTop (mkF m 59 #[.val (.int cc)] [(.int (1 : Int32))]))
                  refine Go.retN X0 Bd.notSynchronized hx (t := .boolean) Bd.returns (by simp) (hb hby d1_59) (by decide) (by decide) (1 : Int32) rfl ?_
                  rw [e0]
                  have ihc3_1 : ¬ (cc).toInt < 97 := own_nlt hc3_1
                  have ihc9_20 : 122 < (cc).toInt := own_lt hc9_20
                  have ihc15_21 : ¬ (cc).toInt < 65 := own_nlt hc15_21
                  have ihc21_30 : 90 < (cc).toInt := own_lt hc21_30
                  have ihc27_31 : ¬ (cc).toInt < 48 := own_nlt hc27_31
                  have ihc33_35 : 57 < (cc).toInt := own_lt hc33_35
                  have ihc39_36 : ¬ (cc).toInt = 45 := own_neq hc39_36
                  have ihc45_37 : (cc).toInt = 95 := own_eq hc45_37
                  exact ⟨(1 : Int32), rfl, N0, rfl, (Or.inl ⟨rfl, (by unfold own_isid; omega)⟩)⟩
                · refine Go.step (fun t k => XS.icmpNo X0.here hx rfl (hb hby d1_45) rfl (feq hc45_37).1 k) ?_
                  show Go _ _ _ _ _ _ _ (s₁.setTop (mkF m 48 #[.val (.int cc)] []))
                  refine Go.step (fun t k => XS.iloadN X0.here hx rfl (hb hby d1_48) rfl k) ?_
                  show Go _ _ _ _ _ _ _ (s₁.setTop (mkF m 49 #[.val (.int cc)] [(.int cc)]))
                  refine Go.step (fun t k => XS.bipush X0.here hx rfl (hb hby d1_49) k) ?_
                  show Go _ _ _ _ _ _ _ (s₁.setTop (mkF m 51 #[.val (.int cc)] [(.int (46 : Int32)), (.int cc)]))
                  by_cases hc51_38 : cc = (46 : Int32)
                  · refine Go.step (fun t k => XS.icmpNo X0.here hx rfl (hb hby d1_51) rfl (teq hc51_38).2 k) ?_
                    show Go _ _ _ _ _ _ _ (s₁.setTop (mkF m 54 #[.val (.int cc)] []))
                    refine Go.step (fun t k => XS.iconst X0.here hx rfl (hb hby d1_54) k) ?_
                    show Go _ _ _ _ _ _ _ (s₁.setTop (mkF m 55 #[.val (.int cc)] [(.int (1 : Int32))]))
                    refine Go.step (fun t k => XS.goto X0.here hx rfl (pc0 := 55) (pc' := 59) rfl (hb hby d1_55) (by decide) (by decide) k) ?_
                    show Go _ _ _ _ _ _ _ (s₁.setTop (mkF m 59 #[.val (.int cc)] [(.int (1 : Int32))]))
                    refine Go.retN X0 Bd.notSynchronized hx (t := .boolean) Bd.returns (by simp) (hb hby d1_59) (by decide) (by decide) (1 : Int32) rfl ?_
                    rw [e0]
                    have ihc3_1 : ¬ (cc).toInt < 97 := own_nlt hc3_1
                    have ihc9_20 : 122 < (cc).toInt := own_lt hc9_20
                    have ihc15_21 : ¬ (cc).toInt < 65 := own_nlt hc15_21
                    have ihc21_30 : 90 < (cc).toInt := own_lt hc21_30
                    have ihc27_31 : ¬ (cc).toInt < 48 := own_nlt hc27_31
                    have ihc33_35 : 57 < (cc).toInt := own_lt hc33_35
                    have ihc39_36 : ¬ (cc).toInt = 45 := own_neq hc39_36
                    have ihc45_37 : ¬ (cc).toInt = 95 := own_neq hc45_37
                    have ihc51_38 : (cc).toInt = 46 := own_eq hc51_38
                    exact ⟨(1 : Int32), rfl, N0, rfl, (Or.inl ⟨rfl, (by unfold own_isid; omega)⟩)⟩
                  · refine Go.step (fun t k => XS.icmpYes X0.here hx rfl (pc0 := 51) (pc' := 58) rfl (hb hby d1_51) rfl (feq hc51_38).2 (by decide) (by decide) k) ?_
                    show Go _ _ _ _ _ _ _ (s₁.setTop (mkF m 58 #[.val (.int cc)] []))
                    refine Go.step (fun t k => XS.iconst X0.here hx rfl (hb hby d1_58) k) ?_
                    show Go _ _ _ _ _ _ _ (s₁.setTop (mkF m 59 #[.val (.int cc)] [(.int (0 : Int32))]))
                    refine Go.retN X0 Bd.notSynchronized hx (t := .boolean) Bd.returns (by simp) (hb hby d1_59) (by decide) (by decide) (0 : Int32) rfl ?_
                    rw [e0]
                    have ihc3_1 : ¬ (cc).toInt < 97 := own_nlt hc3_1
                    have ihc9_20 : 122 < (cc).toInt := own_lt hc9_20
                    have ihc15_21 : ¬ (cc).toInt < 65 := own_nlt hc15_21
                    have ihc21_30 : 90 < (cc).toInt := own_lt hc21_30
                    have ihc27_31 : ¬ (cc).toInt < 48 := own_nlt hc27_31
                    have ihc33_35 : 57 < (cc).toInt := own_lt hc33_35
                    have ihc39_36 : ¬ (cc).toInt = 45 := own_neq hc39_36
                    have ihc45_37 : ¬ (cc).toInt = 95 := own_neq hc45_37
                    have ihc51_38 : ¬ (cc).toInt = 46 := own_neq hc51_38
                    exact ⟨(0 : Int32), rfl, N0, rfl, (Or.inr ⟨rfl, (by unfold own_isid; omega)⟩)⟩
            · refine Go.step (fun t k => XS.icmpYes X0.here hx rfl (pc0 := 33) (pc' := 54) rfl (hb hby d1_33) rfl (flt hc33_35).2.2.2 (by decide) (by decide) k) ?_
              show Go _ _ _ _ _ _ _ (s₁.setTop (mkF m 54 #[.val (.int cc)] []))
              refine Go.step (fun t k => XS.iconst X0.here hx rfl (hb hby d1_54) k) ?_
              show Go _ _ _ _ _ _ _ (s₁.setTop (mkF m 55 #[.val (.int cc)] [(.int (1 : Int32))]))
              refine Go.step (fun t k => XS.goto X0.here hx rfl (pc0 := 55) (pc' := 59) rfl (hb hby d1_55) (by decide) (by decide) k) ?_
              show Go _ _ _ _ _ _ _ (s₁.setTop (mkF m 59 #[.val (.int cc)] [(.int (1 : Int32))]))
              refine Go.retN X0 Bd.notSynchronized hx (t := .boolean) Bd.returns (by simp) (hb hby d1_59) (by decide) (by decide) (1 : Int32) rfl ?_
              rw [e0]
              have ihc3_1 : ¬ (cc).toInt < 97 := own_nlt hc3_1
              have ihc9_20 : 122 < (cc).toInt := own_lt hc9_20
              have ihc15_21 : ¬ (cc).toInt < 65 := own_nlt hc15_21
              have ihc21_30 : 90 < (cc).toInt := own_lt hc21_30
              have ihc27_31 : ¬ (cc).toInt < 48 := own_nlt hc27_31
              have ihc33_35 : ¬ 57 < (cc).toInt := own_nlt hc33_35
              exact ⟨(1 : Int32), rfl, N0, rfl, (Or.inl ⟨rfl, (by unfold own_isid; omega)⟩)⟩
        · refine Go.step (fun t k => XS.icmpYes X0.here hx rfl (pc0 := 21) (pc' := 54) rfl (hb hby d1_21) rfl (flt hc21_30).2.2.2 (by decide) (by decide) k) ?_
          show Go _ _ _ _ _ _ _ (s₁.setTop (mkF m 54 #[.val (.int cc)] []))
          refine Go.step (fun t k => XS.iconst X0.here hx rfl (hb hby d1_54) k) ?_
          show Go _ _ _ _ _ _ _ (s₁.setTop (mkF m 55 #[.val (.int cc)] [(.int (1 : Int32))]))
          refine Go.step (fun t k => XS.goto X0.here hx rfl (pc0 := 55) (pc' := 59) rfl (hb hby d1_55) (by decide) (by decide) k) ?_
          show Go _ _ _ _ _ _ _ (s₁.setTop (mkF m 59 #[.val (.int cc)] [(.int (1 : Int32))]))
          refine Go.retN X0 Bd.notSynchronized hx (t := .boolean) Bd.returns (by simp) (hb hby d1_59) (by decide) (by decide) (1 : Int32) rfl ?_
          rw [e0]
          have ihc3_1 : ¬ (cc).toInt < 97 := own_nlt hc3_1
          have ihc9_20 : 122 < (cc).toInt := own_lt hc9_20
          have ihc15_21 : ¬ (cc).toInt < 65 := own_nlt hc15_21
          have ihc21_30 : ¬ 90 < (cc).toInt := own_nlt hc21_30
          exact ⟨(1 : Int32), rfl, N0, rfl, (Or.inl ⟨rfl, (by unfold own_isid; omega)⟩)⟩
    · refine Go.step (fun t k => XS.icmpYes X0.here hx rfl (pc0 := 9) (pc' := 54) rfl (hb hby d1_9) rfl (flt hc9_20).2.2.2 (by decide) (by decide) k) ?_
      show Go _ _ _ _ _ _ _ (s₁.setTop (mkF m 54 #[.val (.int cc)] []))
      refine Go.step (fun t k => XS.iconst X0.here hx rfl (hb hby d1_54) k) ?_
      show Go _ _ _ _ _ _ _ (s₁.setTop (mkF m 55 #[.val (.int cc)] [(.int (1 : Int32))]))
      refine Go.step (fun t k => XS.goto X0.here hx rfl (pc0 := 55) (pc' := 59) rfl (hb hby d1_55) (by decide) (by decide) k) ?_
      show Go _ _ _ _ _ _ _ (s₁.setTop (mkF m 59 #[.val (.int cc)] [(.int (1 : Int32))]))
      refine Go.retN X0 Bd.notSynchronized hx (t := .boolean) Bd.returns (by simp) (hb hby d1_59) (by decide) (by decide) (1 : Int32) rfl ?_
      rw [e0]
      have ihc3_1 : ¬ (cc).toInt < 97 := own_nlt hc3_1
      have ihc9_20 : ¬ 122 < (cc).toInt := own_nlt hc9_20
      exact ⟨(1 : Int32), rfl, N0, rfl, (Or.inl ⟨rfl, (by unfold own_isid; omega)⟩)⟩
theorem d2_0 : decode method_2_code 0 = .ok (.iload_n 0, 1) := by decide +kernel
theorem d2_1 : decode method_2_code 1 = .ok (.ifCond .lt 9, 3) := by decide +kernel
theorem d2_4 : decode method_2_code 4 = .ok (.iload_n 0, 1) := by decide +kernel
theorem d2_5 : decode method_2_code 5 = .ok (.bipush 127, 2) := by decide +kernel
theorem d2_7 : decode method_2_code 7 = .ok (.if_icmp .le 5, 3) := by decide +kernel
theorem d2_10 : decode method_2_code 10 = .ok (.iconst 0, 1) := by decide +kernel
theorem d2_11 : decode method_2_code 11 = .ok (.ireturn, 1) := by decide +kernel
theorem d2_12 : decode method_2_code 12 = .ok (.iload_n 0, 1) := by decide +kernel
theorem d2_13 : decode method_2_code 13 = .ok (.bipush 64, 2) := by decide +kernel
theorem d2_15 : decode method_2_code 15 = .ok (.if_icmp .ge 9, 3) := by decide +kernel
theorem d2_18 : decode method_2_code 18 = .ok (.ldc2_w 9, 3) := by decide +kernel
theorem d2_21 : decode method_2_code 21 = .ok (.goto 6, 3) := by decide +kernel
theorem d2_24 : decode method_2_code 24 = .ok (.ldc2_w 11, 3) := by decide +kernel
theorem d2_27 : decode method_2_code 27 = .ok (.lstore_n 1, 1) := by decide +kernel
theorem d2_28 : decode method_2_code 28 = .ok (.lload_n 1, 1) := by decide +kernel
theorem d2_29 : decode method_2_code 29 = .ok (.iload_n 0, 1) := by decide +kernel
theorem d2_30 : decode method_2_code 30 = .ok (.bipush 63, 2) := by decide +kernel
theorem d2_32 : decode method_2_code 32 = .ok (.iand, 1) := by decide +kernel
theorem d2_33 : decode method_2_code 33 = .ok (.lushr, 1) := by decide +kernel
theorem d2_34 : decode method_2_code 34 = .ok (.lconst 1, 1) := by decide +kernel
theorem d2_35 : decode method_2_code 35 = .ok (.land, 1) := by decide +kernel
theorem d2_36 : decode method_2_code 36 = .ok (.lconst 0, 1) := by decide +kernel
theorem d2_37 : decode method_2_code 37 = .ok (.lcmp, 1) := by decide +kernel
theorem d2_38 : decode method_2_code 38 = .ok (.ifCond .eq 7, 3) := by decide +kernel
theorem d2_41 : decode method_2_code 41 = .ok (.iconst 1, 1) := by decide +kernel
theorem d2_42 : decode method_2_code 42 = .ok (.goto 4, 3) := by decide +kernel
theorem d2_45 : decode method_2_code 45 = .ok (.iconst 0, 1) := by decide +kernel
theorem d2_46 : decode method_2_code 46 = .ok (.ireturn, 1) := by decide +kernel
theorem pn_2 : plainName "com/example/matchstone/matchstone/AsciiIsIdCharacterPinLaw" = true := by first | (simp [plainName, overriddenIn]; done) | decide +kernel
theorem ef_2 (m : MethodId) (x0 : Int32) : entryFrame m #[(.int x0)] 3 = mkF m 0 #[.val (.int x0), .unset, .unset] [] := by first | (simp [entryFrame, mkF, argsToLocals, Value.category]; done) | rfl
def Q2 (Z : State) (cc : Int32) (h0 : Heap) (n0 : Nat) (v : Option Value) (h : Heap) (L : List Loc) : Prop := ∃ z : Int32, v = some (.int z) ∧ Fr n0 L ∧ h = h0 ∧ ((z = 1 ∧ own_isid cc) ∨ (z = 0 ∧ ¬ own_isid cc))
set_option maxRecDepth 65536 in
set_option maxHeartbeats 40000000 in
theorem rm2 (l : Launch) (Z : State) (a0 : Array Value) (hw : ∀ d ∈ tables_1, d.before a0 Z = true) (ws : List Jvm.Cond) (cc : Int32) (h0 : Heap) (n0 : Nat) (Z0 : n0 ≤ h0.size) :
    MetFree l (⟨"com/example/matchstone/matchstone/AsciiIsIdCharacterPinLaw", "expected", "(I)Z"⟩ : MethodName) (head1 (Jvm.Cond.code (⟨"com/example/matchstone/matchstone/AsciiIsIdCharacterPinLaw", "expected", "(I)Z"⟩ : MethodName) method_2_code 3 (some .boolean) :: ws) ({ frames := 0, cells := 0, slots := 0, locals := 0 } : Room)) (fun a U => a = #[(.int cc)] ∧ Z.Warmed39 U.vm ∧ U.heap = h0) (fun _ _ _ _ _ => True) (fun _ U o U' => ∃ v L, o = .returned v ∧ Q2 Z cc h0 n0 v U'.heap L ∧ FrameEnd U o U' L ({ frames := 0, cells := 0, slots := 0, locals := 0 } : Room).cells ({ frames := 0, cells := 0, slots := 0, locals := 0 } : Room).slots) := by
  refine MetFree.of_bodySF (plainFor_of_name pn_2) hisR ?_
  intro p e s m args below meth c s₁ Bd hml0 hP hK
  obtain ⟨rfl, hZ, hh⟩ := hP
  have hx := Bd.exec
  have hby := Bd.bytes
  have hml : c.maxLocals = 3 := hml0
  have hown : s.vm.findClass "com/example/matchstone/matchstone/AsciiIsIdCharacterPinLaw" = some m.cls := findClass_of_methodNamed Bd.named
  have hnm := (name_of_methodNamed Bd.named Bd.method).1
  have X0 : Stand p l e ({ frames := 0, cells := 0, slots := 0, locals := 0 } : Room) s m #[(.int cc)] below meth c s₁ [] 0 0 := Stand.of_body Bd
  have e0 : s₁.heap = h0 := by rw [← hh, Bd.state]; rfl
  have N0 := Fr.nil n0
  show Go p e below s (Q2 Z cc h0 n0) ({ frames := 0, cells := 0, slots := 0, locals := 0 } : Room).cells ({ frames := 0, cells := 0, slots := 0, locals := 0 } : Room).slots (s₁.setTop (entryFrame m #[(.int cc)] 3))
  rw [ef_2]
  show Go _ _ _ _ _ _ _ (s₁.setTop (mkF m 0 #[.val (.int cc), .unset, .unset] []))
  refine Go.step (fun t k => XS.iloadN X0.here hx rfl (hb hby d2_0) rfl k) ?_
  show Go _ _ _ _ _ _ _ (s₁.setTop (mkF m 1 #[.val (.int cc), .unset, .unset] [(.int cc)]))
  by_cases hc1_1 : cc < (0 : Int32)
  · refine Go.step (fun t k => XS.ifYes X0.here hx rfl (pc0 := 1) (pc' := 10) rfl (hb hby d2_1) rfl ((if0 _ _).trans (tlt hc1_1).1) (by decide) (by decide) k) ?_
    show Go _ _ _ _ _ _ _ (s₁.setTop (mkF m 10 #[.val (.int cc), .unset, .unset] []))
    refine Go.step (fun t k => XS.iconst X0.here hx rfl (hb hby d2_10) k) ?_
    show Go _ _ _ _ _ _ _ (s₁.setTop (mkF m 11 #[.val (.int cc), .unset, .unset] [(.int (0 : Int32))]))
    refine Go.retN X0 Bd.notSynchronized hx (t := .boolean) Bd.returns (by simp) (hb hby d2_11) (by decide) (by decide) (0 : Int32) rfl ?_
    rw [e0]
    have ihc1_1 : (cc).toInt < 0 := own_lt hc1_1
    exact ⟨(0 : Int32), rfl, N0, rfl, (Or.inr ⟨rfl, (by unfold own_isid; omega)⟩)⟩
  · refine Go.step (fun t k => XS.ifNo X0.here hx rfl (hb hby d2_1) rfl ((if0 _ _).trans (flt hc1_1).1) k) ?_
    show Go _ _ _ _ _ _ _ (s₁.setTop (mkF m 4 #[.val (.int cc), .unset, .unset] []))
    refine Go.step (fun t k => XS.iloadN X0.here hx rfl (hb hby d2_4) rfl k) ?_
    show Go _ _ _ _ _ _ _ (s₁.setTop (mkF m 5 #[.val (.int cc), .unset, .unset] [(.int cc)]))
    refine Go.step (fun t k => XS.bipush X0.here hx rfl (hb hby d2_5) k) ?_
    show Go _ _ _ _ _ _ _ (s₁.setTop (mkF m 7 #[.val (.int cc), .unset, .unset] [(.int (127 : Int32)), (.int cc)]))
    by_cases hc7_2 : (127 : Int32) < cc
    · refine Go.step (fun t k => XS.icmpNo X0.here hx rfl (hb hby d2_7) rfl (tlt hc7_2).2.2.2 k) ?_
      show Go _ _ _ _ _ _ _ (s₁.setTop (mkF m 10 #[.val (.int cc), .unset, .unset] []))
      refine Go.step (fun t k => XS.iconst X0.here hx rfl (hb hby d2_10) k) ?_
      show Go _ _ _ _ _ _ _ (s₁.setTop (mkF m 11 #[.val (.int cc), .unset, .unset] [(.int (0 : Int32))]))
      refine Go.retN X0 Bd.notSynchronized hx (t := .boolean) Bd.returns (by simp) (hb hby d2_11) (by decide) (by decide) (0 : Int32) rfl ?_
      rw [e0]
      have ihc1_1 : ¬ (cc).toInt < 0 := own_nlt hc1_1
      have ihc7_2 : 127 < (cc).toInt := own_lt hc7_2
      exact ⟨(0 : Int32), rfl, N0, rfl, (Or.inr ⟨rfl, (by unfold own_isid; omega)⟩)⟩
    · refine Go.step (fun t k => XS.icmpYes X0.here hx rfl (pc0 := 7) (pc' := 12) rfl (hb hby d2_7) rfl (flt hc7_2).2.2.2 (by decide) (by decide) k) ?_
      show Go _ _ _ _ _ _ _ (s₁.setTop (mkF m 12 #[.val (.int cc), .unset, .unset] []))
      refine Go.step (fun t k => XS.iloadN X0.here hx rfl (hb hby d2_12) rfl k) ?_
      show Go _ _ _ _ _ _ _ (s₁.setTop (mkF m 13 #[.val (.int cc), .unset, .unset] [(.int cc)]))
      refine Go.step (fun t k => XS.bipush X0.here hx rfl (hb hby d2_13) k) ?_
      show Go _ _ _ _ _ _ _ (s₁.setTop (mkF m 15 #[.val (.int cc), .unset, .unset] [(.int (64 : Int32)), (.int cc)]))
      by_cases hc15_3 : cc < (64 : Int32)
      · refine Go.step (fun t k => XS.icmpNo X0.here hx rfl (hb hby d2_15) rfl (tlt hc15_3).2.1 k) ?_
        show Go _ _ _ _ _ _ _ (s₁.setTop (mkF m 18 #[.val (.int cc), .unset, .unset] []))
        refine Go.step (fun t k => X0.ldc2Long hx hown (mvT hZ (hw _ (List.mem_of_getElem? (i := 8) rfl))) (g := (mkF m 18 #[.val (.int cc), .unset, .unset] [])) rfl (hb hby d2_18) _ k) ?_
        show Go _ _ _ _ _ _ _ (s₁.setTop (mkF m 21 #[.val (.int cc), .unset, .unset] [(.long (288054454291267584 : Int64))]))
        refine Go.step (fun t k => XS.goto X0.here hx rfl (pc0 := 21) (pc' := 27) rfl (hb hby d2_21) (by decide) (by decide) k) ?_
        show Go _ _ _ _ _ _ _ (s₁.setTop (mkF m 27 #[.val (.int cc), .unset, .unset] [(.long (288054454291267584 : Int64))]))
        refine Go.step (fun t k => XS.lstoreN X0.here hx rfl (hb hby d2_27) rfl (l' := #[.val (.int cc), .val (.long (288054454291267584 : Int64)), .second]) rfl k) ?_
        show Go _ _ _ _ _ _ _ (s₁.setTop (mkF m 28 #[.val (.int cc), .val (.long (288054454291267584 : Int64)), .second] []))
        refine Go.step (fun t k => XS.lloadN X0.here hx rfl (hb hby d2_28) rfl k) ?_
        show Go _ _ _ _ _ _ _ (s₁.setTop (mkF m 29 #[.val (.int cc), .val (.long (288054454291267584 : Int64)), .second] [(.long (288054454291267584 : Int64))]))
        refine Go.step (fun t k => XS.iloadN X0.here hx rfl (hb hby d2_29) rfl k) ?_
        show Go _ _ _ _ _ _ _ (s₁.setTop (mkF m 30 #[.val (.int cc), .val (.long (288054454291267584 : Int64)), .second] [(.int cc), (.long (288054454291267584 : Int64))]))
        refine Go.step (fun t k => XS.bipush X0.here hx rfl (hb hby d2_30) k) ?_
        show Go _ _ _ _ _ _ _ (s₁.setTop (mkF m 32 #[.val (.int cc), .val (.long (288054454291267584 : Int64)), .second] [(.int (63 : Int32)), (.int cc), (.long (288054454291267584 : Int64))]))
        refine Go.step (fun t k => XS.iand X0.here hx rfl (hb hby d2_32) rfl k) ?_
        show Go _ _ _ _ _ _ _ (s₁.setTop (mkF m 33 #[.val (.int cc), .val (.long (288054454291267584 : Int64)), .second] [(.int (cc &&& (63 : Int32))), (.long (288054454291267584 : Int64))]))
        refine Go.step (fun t k => XS.lushr X0.here hx rfl (hb hby d2_33) rfl k) ?_
        show Go _ _ _ _ _ _ _ (s₁.setTop (mkF m 34 #[.val (.int cc), .val (.long (288054454291267584 : Int64)), .second] [(.long (((288054454291267584 : Int64).toUInt64 >>> ((cc &&& (63 : Int32)) &&& 0x3f).toInt64.toUInt64).toInt64))]))
        refine Go.step (fun t k => XS.lconst X0.here hx rfl (hb hby d2_34) k) ?_
        show Go _ _ _ _ _ _ _ (s₁.setTop (mkF m 35 #[.val (.int cc), .val (.long (288054454291267584 : Int64)), .second] [(.long (1 : Int64)), (.long (((288054454291267584 : Int64).toUInt64 >>> ((cc &&& (63 : Int32)) &&& 0x3f).toInt64.toUInt64).toInt64))]))
        refine Go.step (fun t k => XS.land X0.here hx rfl (hb hby d2_35) rfl k) ?_
        show Go _ _ _ _ _ _ _ (s₁.setTop (mkF m 36 #[.val (.int cc), .val (.long (288054454291267584 : Int64)), .second] [(.long ((((288054454291267584 : Int64).toUInt64 >>> ((cc &&& (63 : Int32)) &&& 0x3f).toInt64.toUInt64).toInt64) &&& (1 : Int64)))]))
        refine Go.step (fun t k => XS.lconst X0.here hx rfl (hb hby d2_36) k) ?_
        show Go _ _ _ _ _ _ _ (s₁.setTop (mkF m 37 #[.val (.int cc), .val (.long (288054454291267584 : Int64)), .second] [(.long (0 : Int64)), (.long ((((288054454291267584 : Int64).toUInt64 >>> ((cc &&& (63 : Int32)) &&& 0x3f).toInt64.toUInt64).toInt64) &&& (1 : Int64)))]))
        refine Go.step (fun t k => XS.lcmp X0.here hx rfl (hb hby d2_37) rfl k) ?_
        show Go _ _ _ _ _ _ _ (s₁.setTop (mkF m 38 #[.val (.int cc), .val (.long (288054454291267584 : Int64)), .second] [(.int (lcmpW ((((288054454291267584 : Int64).toUInt64 >>> ((cc &&& (63 : Int32)) &&& 0x3f).toInt64.toUInt64).toInt64) &&& (1 : Int64)) (0 : Int64)))]))
        by_cases hc38_4 : ((((288054454291267584 : Int64).toUInt64 >>> ((cc &&& (63 : Int32)) &&& 0x3f).toInt64.toUInt64).toInt64) &&& (1 : Int64)) = (0 : Int64)
        · refine Go.step (fun t k => XS.ifYes X0.here hx rfl (pc0 := 38) (pc' := 45) rfl (hb hby d2_38) rfl ((if0 _ _).trans (teq (own_lweq hc38_4)).1) (by decide) (by decide) k) ?_
          show Go _ _ _ _ _ _ _ (s₁.setTop (mkF m 45 #[.val (.int cc), .val (.long (288054454291267584 : Int64)), .second] []))
          refine Go.step (fun t k => XS.iconst X0.here hx rfl (hb hby d2_45) k) ?_
          show Go _ _ _ _ _ _ _ (s₁.setTop (mkF m 46 #[.val (.int cc), .val (.long (288054454291267584 : Int64)), .second] [(.int (0 : Int32))]))
          refine Go.retN X0 Bd.notSynchronized hx (t := .boolean) Bd.returns (by simp) (hb hby d2_46) (by decide) (by decide) (0 : Int32) rfl ?_
          rw [e0]
          have ihc1_1 : ¬ (cc).toInt < 0 := own_nlt hc1_1
          have ihc7_2 : ¬ 127 < (cc).toInt := own_nlt hc7_2
          have ihc15_3 : (cc).toInt < 64 := own_lt hc15_3
          exact ⟨(0 : Int32), rfl, N0, rfl, (Or.inr ⟨rfl, (own_low cc (by omega) (by omega)).mp hc38_4⟩)⟩
        · refine Go.step (fun t k => XS.ifNo X0.here hx rfl (hb hby d2_38) rfl ((if0 _ _).trans (feq (own_nlweq hc38_4)).1) k) ?_
          show Go _ _ _ _ _ _ _ (s₁.setTop (mkF m 41 #[.val (.int cc), .val (.long (288054454291267584 : Int64)), .second] []))
          refine Go.step (fun t k => XS.iconst X0.here hx rfl (hb hby d2_41) k) ?_
          show Go _ _ _ _ _ _ _ (s₁.setTop (mkF m 42 #[.val (.int cc), .val (.long (288054454291267584 : Int64)), .second] [(.int (1 : Int32))]))
          refine Go.step (fun t k => XS.goto X0.here hx rfl (pc0 := 42) (pc' := 46) rfl (hb hby d2_42) (by decide) (by decide) k) ?_
          show Go _ _ _ _ _ _ _ (s₁.setTop (mkF m 46 #[.val (.int cc), .val (.long (288054454291267584 : Int64)), .second] [(.int (1 : Int32))]))
          refine Go.retN X0 Bd.notSynchronized hx (t := .boolean) Bd.returns (by simp) (hb hby d2_46) (by decide) (by decide) (1 : Int32) rfl ?_
          rw [e0]
          have ihc1_1 : ¬ (cc).toInt < 0 := own_nlt hc1_1
          have ihc7_2 : ¬ 127 < (cc).toInt := own_nlt hc7_2
          have ihc15_3 : (cc).toInt < 64 := own_lt hc15_3
          exact ⟨(1 : Int32), rfl, N0, rfl, (Or.inl ⟨rfl, Classical.not_not.mp (fun r => hc38_4 ((own_low cc (by omega) (by omega)).mpr r))⟩)⟩
      · refine Go.step (fun t k => XS.icmpYes X0.here hx rfl (pc0 := 15) (pc' := 24) rfl (hb hby d2_15) rfl (flt hc15_3).2.1 (by decide) (by decide) k) ?_
        show Go _ _ _ _ _ _ _ (s₁.setTop (mkF m 24 #[.val (.int cc), .unset, .unset] []))
        refine Go.step (fun t k => X0.ldc2Long hx hown (mvT hZ (hw _ (List.mem_of_getElem? (i := 9) rfl))) (g := (mkF m 24 #[.val (.int cc), .unset, .unset] [])) rfl (hb hby d2_24) _ k) ?_
        show Go _ _ _ _ _ _ _ (s₁.setTop (mkF m 27 #[.val (.int cc), .unset, .unset] [(.long (576460745995190270 : Int64))]))
        refine Go.step (fun t k => XS.lstoreN X0.here hx rfl (hb hby d2_27) rfl (l' := #[.val (.int cc), .val (.long (576460745995190270 : Int64)), .second]) rfl k) ?_
        show Go _ _ _ _ _ _ _ (s₁.setTop (mkF m 28 #[.val (.int cc), .val (.long (576460745995190270 : Int64)), .second] []))
        refine Go.step (fun t k => XS.lloadN X0.here hx rfl (hb hby d2_28) rfl k) ?_
        show Go _ _ _ _ _ _ _ (s₁.setTop (mkF m 29 #[.val (.int cc), .val (.long (576460745995190270 : Int64)), .second] [(.long (576460745995190270 : Int64))]))
        refine Go.step (fun t k => XS.iloadN X0.here hx rfl (hb hby d2_29) rfl k) ?_
        show Go _ _ _ _ _ _ _ (s₁.setTop (mkF m 30 #[.val (.int cc), .val (.long (576460745995190270 : Int64)), .second] [(.int cc), (.long (576460745995190270 : Int64))]))
        refine Go.step (fun t k => XS.bipush X0.here hx rfl (hb hby d2_30) k) ?_
        show Go _ _ _ _ _ _ _ (s₁.setTop (mkF m 32 #[.val (.int cc), .val (.long (576460745995190270 : Int64)), .second] [(.int (63 : Int32)), (.int cc), (.long (576460745995190270 : Int64))]))
        refine Go.step (fun t k => XS.iand X0.here hx rfl (hb hby d2_32) rfl k) ?_
        show Go _ _ _ _ _ _ _ (s₁.setTop (mkF m 33 #[.val (.int cc), .val (.long (576460745995190270 : Int64)), .second] [(.int (cc &&& (63 : Int32))), (.long (576460745995190270 : Int64))]))
        refine Go.step (fun t k => XS.lushr X0.here hx rfl (hb hby d2_33) rfl k) ?_
        show Go _ _ _ _ _ _ _ (s₁.setTop (mkF m 34 #[.val (.int cc), .val (.long (576460745995190270 : Int64)), .second] [(.long (((576460745995190270 : Int64).toUInt64 >>> ((cc &&& (63 : Int32)) &&& 0x3f).toInt64.toUInt64).toInt64))]))
        refine Go.step (fun t k => XS.lconst X0.here hx rfl (hb hby d2_34) k) ?_
        show Go _ _ _ _ _ _ _ (s₁.setTop (mkF m 35 #[.val (.int cc), .val (.long (576460745995190270 : Int64)), .second] [(.long (1 : Int64)), (.long (((576460745995190270 : Int64).toUInt64 >>> ((cc &&& (63 : Int32)) &&& 0x3f).toInt64.toUInt64).toInt64))]))
        refine Go.step (fun t k => XS.land X0.here hx rfl (hb hby d2_35) rfl k) ?_
        show Go _ _ _ _ _ _ _ (s₁.setTop (mkF m 36 #[.val (.int cc), .val (.long (576460745995190270 : Int64)), .second] [(.long ((((576460745995190270 : Int64).toUInt64 >>> ((cc &&& (63 : Int32)) &&& 0x3f).toInt64.toUInt64).toInt64) &&& (1 : Int64)))]))
        refine Go.step (fun t k => XS.lconst X0.here hx rfl (hb hby d2_36) k) ?_
        show Go _ _ _ _ _ _ _ (s₁.setTop (mkF m 37 #[.val (.int cc), .val (.long (576460745995190270 : Int64)), .second] [(.long (0 : Int64)), (.long ((((576460745995190270 : Int64).toUInt64 >>> ((cc &&& (63 : Int32)) &&& 0x3f).toInt64.toUInt64).toInt64) &&& (1 : Int64)))]))
        refine Go.step (fun t k => XS.lcmp X0.here hx rfl (hb hby d2_37) rfl k) ?_
        show Go _ _ _ _ _ _ _ (s₁.setTop (mkF m 38 #[.val (.int cc), .val (.long (576460745995190270 : Int64)), .second] [(.int (lcmpW ((((576460745995190270 : Int64).toUInt64 >>> ((cc &&& (63 : Int32)) &&& 0x3f).toInt64.toUInt64).toInt64) &&& (1 : Int64)) (0 : Int64)))]))
        by_cases hc38_5 : ((((576460745995190270 : Int64).toUInt64 >>> ((cc &&& (63 : Int32)) &&& 0x3f).toInt64.toUInt64).toInt64) &&& (1 : Int64)) = (0 : Int64)
        · refine Go.step (fun t k => XS.ifYes X0.here hx rfl (pc0 := 38) (pc' := 45) rfl (hb hby d2_38) rfl ((if0 _ _).trans (teq (own_lweq hc38_5)).1) (by decide) (by decide) k) ?_
          show Go _ _ _ _ _ _ _ (s₁.setTop (mkF m 45 #[.val (.int cc), .val (.long (576460745995190270 : Int64)), .second] []))
          refine Go.step (fun t k => XS.iconst X0.here hx rfl (hb hby d2_45) k) ?_
          show Go _ _ _ _ _ _ _ (s₁.setTop (mkF m 46 #[.val (.int cc), .val (.long (576460745995190270 : Int64)), .second] [(.int (0 : Int32))]))
          refine Go.retN X0 Bd.notSynchronized hx (t := .boolean) Bd.returns (by simp) (hb hby d2_46) (by decide) (by decide) (0 : Int32) rfl ?_
          rw [e0]
          have ihc1_1 : ¬ (cc).toInt < 0 := own_nlt hc1_1
          have ihc7_2 : ¬ 127 < (cc).toInt := own_nlt hc7_2
          have ihc15_3 : ¬ (cc).toInt < 64 := own_nlt hc15_3
          exact ⟨(0 : Int32), rfl, N0, rfl, (Or.inr ⟨rfl, (own_high cc (by omega) (by omega)).mp hc38_5⟩)⟩
        · refine Go.step (fun t k => XS.ifNo X0.here hx rfl (hb hby d2_38) rfl ((if0 _ _).trans (feq (own_nlweq hc38_5)).1) k) ?_
          show Go _ _ _ _ _ _ _ (s₁.setTop (mkF m 41 #[.val (.int cc), .val (.long (576460745995190270 : Int64)), .second] []))
          refine Go.step (fun t k => XS.iconst X0.here hx rfl (hb hby d2_41) k) ?_
          show Go _ _ _ _ _ _ _ (s₁.setTop (mkF m 42 #[.val (.int cc), .val (.long (576460745995190270 : Int64)), .second] [(.int (1 : Int32))]))
          refine Go.step (fun t k => XS.goto X0.here hx rfl (pc0 := 42) (pc' := 46) rfl (hb hby d2_42) (by decide) (by decide) k) ?_
          show Go _ _ _ _ _ _ _ (s₁.setTop (mkF m 46 #[.val (.int cc), .val (.long (576460745995190270 : Int64)), .second] [(.int (1 : Int32))]))
          refine Go.retN X0 Bd.notSynchronized hx (t := .boolean) Bd.returns (by simp) (hb hby d2_46) (by decide) (by decide) (1 : Int32) rfl ?_
          rw [e0]
          have ihc1_1 : ¬ (cc).toInt < 0 := own_nlt hc1_1
          have ihc7_2 : ¬ 127 < (cc).toInt := own_nlt hc7_2
          have ihc15_3 : ¬ (cc).toInt < 64 := own_nlt hc15_3
          exact ⟨(1 : Int32), rfl, N0, rfl, (Or.inl ⟨rfl, Classical.not_not.mp (fun r => hc38_5 ((own_high cc (by omega) (by omega)).mpr r))⟩)⟩
theorem pn_0 : plainName "com/example/matchstone/matchstone/AsciiIsIdCharacterPinLaw" = true := by first | (simp [plainName, overriddenIn]; done) | decide +kernel
theorem pd_0_0 : parseMethodDescriptor "(I)Z" = some ⟨[.int], some .boolean⟩ := by decide +kernel
theorem ef_0 (m : MethodId) (x0 : Int32) (x1 : Int32) : entryFrame m #[(.int x0), (.int x1)] maxLocals = mkF m 0 #[.val (.int x0), .val (.int x1), .unset] [] := by first | (simp [entryFrame, mkF, argsToLocals, Value.category, maxLocals]; done) | rfl
def Q0 (Z : State) (cc : Int32) (kk : Int32) (h0 : Heap) (n0 : Nat) (v : Option Value) (h : Heap) (L : List Loc) : Prop := v = some (.int (1 : Int32)) ∧ Fr n0 L
set_option maxRecDepth 65536 in
set_option maxHeartbeats 40000000 in
theorem rm0 (l : Launch) (Z : State) (a0 : Array Value) (hw : ∀ d ∈ tables_1, d.before a0 Z = true) (ws : List Jvm.Cond) (cc : Int32) (kk : Int32) (h0 : Heap) (n0 : Nat) (Z0 : n0 ≤ h0.size) :
    MetFree l x (head1 (Jvm.Cond.code x code maxLocals ret :: ws) room_1) (fun a U => a = #[(.int cc), (.int kk)] ∧ Z.Warmed39 U.vm ∧ U.heap = h0) (fun _ _ _ _ _ => True) (fun _ U o U' => ∃ v L, o = .returned v ∧ Q0 Z cc kk h0 n0 v U'.heap L ∧ FrameEnd U o U' L 0 0) := by
  refine MetFree.of_bodySF (plainFor_of_name pn_0) hisR ?_
  intro p e s m args below meth c s₁ Bd hml0 hP hK
  obtain ⟨rfl, hZ, hh⟩ := hP
  have hx := Bd.exec
  have hby := Bd.bytes
  have hml : c.maxLocals = 3 := hml0
  have hown : s.vm.findClass "com/example/matchstone/matchstone/AsciiIsIdCharacterPinLaw" = some m.cls := findClass_of_methodNamed Bd.named
  have hnm := (name_of_methodNamed Bd.named Bd.method).1
  have X0 : Stand p l e room_1 s m #[(.int cc), (.int kk)] below meth c s₁ [] 0 0 := Stand.of_body Bd
  have e0 : s₁.heap = h0 := by rw [← hh, Bd.state]; rfl
  have N0 := Fr.nil n0
  show Go p e below s (Q0 Z cc kk h0 n0) 0 0 (s₁.setTop (entryFrame m #[(.int cc), (.int kk)] maxLocals))
  rw [ef_0]
  show Go _ _ _ _ _ _ _ (s₁.setTop (mkF m 0 #[.val (.int cc), .val (.int kk), .unset] []))
  refine Go.step (fun t k => XS.iloadN X0.here hx rfl (hb hby at_0) rfl k) ?_
  show Go _ _ _ _ _ _ _ (s₁.setTop (mkF m 1 #[.val (.int cc), .val (.int kk), .unset] [(.int kk)]))
  refine Go.step (fun t k => XS.sipush X0.here hx rfl (hb hby at_1) k) ?_
  show Go _ _ _ _ _ _ _ (s₁.setTop (mkF m 4 #[.val (.int cc), .val (.int kk), .unset] [(.int (255 : Int32)), (.int kk)]))
  refine Go.step (fun t k => XS.iand X0.here hx rfl (hb hby at_4) rfl k) ?_
  show Go _ _ _ _ _ _ _ (s₁.setTop (mkF m 5 #[.val (.int cc), .val (.int kk), .unset] [(.int (kk &&& (255 : Int32)))]))
  refine Go.step (fun t k => XS.istoreN X0.here hx rfl (hb hby at_5) rfl (l' := #[.val (.int cc), .val (.int kk), .val (.int (kk &&& (255 : Int32)))]) rfl k) ?_
  show Go _ _ _ _ _ _ _ (s₁.setTop (mkF m 6 #[.val (.int cc), .val (.int kk), .val (.int (kk &&& (255 : Int32)))] []))
  refine Go.step (fun t k => XS.iloadN X0.here hx rfl (hb hby at_6) rfl k) ?_
  show Go _ _ _ _ _ _ _ (s₁.setTop (mkF m 7 #[.val (.int cc), .val (.int kk), .val (.int (kk &&& (255 : Int32)))] [(.int cc)]))
  obtain ⟨_, _, ⟨T1, L1, k1, n1⟩, -, X1, ⟨Lc1, hQ1, l1, y1, z1⟩, st1⟩ := Jvm.LawKit.callS X0 hx (y := (⟨"com/example/matchstone/matchstone/Ascii", "isIdCharacter", "(I)Z"⟩ : MethodName)) hown (mvT hZ (hw _ (List.mem_of_getElem? (i := 0) rfl))) (mvT hZ (hw _ (List.mem_of_getElem? (i := 1) rfl))) (mvT hZ (hw _ (List.mem_of_getElem? (i := 2) rfl))) (mvT hZ (hw _ (List.mem_of_getElem? (i := 3) rfl))) (by decide) (backOf (W := 0) (rm1 l Z a0 hw [] cc h0 n0 Z0) hZ (hw _ (List.mem_of_getElem? (i := 3) rfl)) (hw _ (List.mem_of_getElem? (i := 2) rfl)) (by decide) (by decide)) (g := (mkF m 7 #[.val (.int cc), .val (.int kk), .val (.int (kk &&& (255 : Int32)))] [(.int cc)])) rfl (by rw [hml]; rfl) (argsL := [(.int cc)]) (rest := []) (lenOf pd_0_0 rfl) rfl (by show 2 * 0 + _ ≤ _; exact Nat.le_of_eq rfl) (hb hby at_7) (fun _ _ => ⟨rfl, e0, (by decide : 0 + 0 ≤ _), (by decide : 0 + 0 ≤ _)⟩)
  dsimp only [Pt.U, Pt.locs, Pt.cells, Pt.slots] at X1 l1 y1 z1 st1 hQ1
  subst l1 y1 z1
  obtain ⟨z_1, rfl, N1q, K1q, o1_hz⟩ := hQ1
  have N1 := Fr.app N0 N1q
  refine Go.step st1 ?_
  show Go _ _ _ _ _ _ _ (T1.setTop (mkF m 10 #[.val (.int cc), .val (.int kk), .val (.int (kk &&& (255 : Int32)))] [(.int z_1)]))
  refine Go.step (fun t k => XS.iloadN X1.here hx rfl (hb hby at_10) rfl k) ?_
  show Go _ _ _ _ _ _ _ (T1.setTop (mkF m 11 #[.val (.int cc), .val (.int kk), .val (.int (kk &&& (255 : Int32)))] [(.int cc), (.int z_1)]))
  obtain ⟨_, _, ⟨T2, L2, k2, n2⟩, -, X2, ⟨Lc2, hQ2, l2, y2, z2⟩, st2⟩ := Jvm.LawKit.callS X1 hx (y := (⟨"com/example/matchstone/matchstone/AsciiIsIdCharacterPinLaw", "expected", "(I)Z"⟩ : MethodName)) hown (mvT hZ (hw _ (List.mem_of_getElem? (i := 4) rfl))) (mvT hZ (hw _ (List.mem_of_getElem? (i := 5) rfl))) (mvT hZ (hw _ (List.mem_of_getElem? (i := 6) rfl))) (mvT hZ (hw _ (List.mem_of_getElem? (i := 7) rfl))) (by decide) (backOf (W := 1) (rm2 l Z a0 hw [] cc h0 n0 Z0) hZ (hw _ (List.mem_of_getElem? (i := 7) rfl)) (hw _ (List.mem_of_getElem? (i := 6) rfl)) (by decide) (by decide)) (g := (mkF m 11 #[.val (.int cc), .val (.int kk), .val (.int (kk &&& (255 : Int32)))] [(.int cc), (.int z_1)])) rfl (by rw [hml]; rfl) (argsL := [(.int cc)]) (rest := [(.int z_1)]) (lenOf pd_0_0 rfl) rfl (by show 2 * 0 + _ ≤ _; exact Nat.le_of_eq rfl) (hb hby at_11) (fun _ _ => ⟨rfl, K1q, (by decide : 0 + 0 ≤ _), (by decide : 0 + 0 ≤ _)⟩)
  dsimp only [Pt.U, Pt.locs, Pt.cells, Pt.slots] at X2 l2 y2 z2 st2 hQ2
  subst l2 y2 z2
  obtain ⟨z_2, rfl, N2q, K2q, o2_hz⟩ := hQ2
  have N2 := Fr.app N1 N2q
  refine Go.step st2 ?_
  show Go _ _ _ _ _ _ _ (T2.setTop (mkF m 14 #[.val (.int cc), .val (.int kk), .val (.int (kk &&& (255 : Int32)))] [(.int z_2), (.int z_1)]))
  refine Go.step (fun t k => XS.icmpNo X2.here hx rfl (hb hby at_14) rfl (teq (own_same o1_hz o2_hz : z_1 = z_2)).2 k) ?_
  show Go _ _ _ _ _ _ _ (T2.setTop (mkF m 17 #[.val (.int cc), .val (.int kk), .val (.int (kk &&& (255 : Int32)))] []))
  refine Go.step (fun t k => XS.iloadN X2.here hx rfl (hb hby at_17) rfl k) ?_
  show Go _ _ _ _ _ _ _ (T2.setTop (mkF m 18 #[.val (.int cc), .val (.int kk), .val (.int (kk &&& (255 : Int32)))] [(.int (kk &&& (255 : Int32)))]))
  obtain ⟨_, _, ⟨T3, L3, k3, n3⟩, -, X3, ⟨Lc3, hQ3, l3, y3, z3⟩, st3⟩ := Jvm.LawKit.callS X2 hx (y := (⟨"com/example/matchstone/matchstone/Ascii", "isIdCharacter", "(I)Z"⟩ : MethodName)) hown (mvT hZ (hw _ (List.mem_of_getElem? (i := 0) rfl))) (mvT hZ (hw _ (List.mem_of_getElem? (i := 1) rfl))) (mvT hZ (hw _ (List.mem_of_getElem? (i := 2) rfl))) (mvT hZ (hw _ (List.mem_of_getElem? (i := 3) rfl))) (by decide) (backOf (W := 0) (rm1 l Z a0 hw [] (kk &&& (255 : Int32)) h0 n0 Z0) hZ (hw _ (List.mem_of_getElem? (i := 3) rfl)) (hw _ (List.mem_of_getElem? (i := 2) rfl)) (by decide) (by decide)) (g := (mkF m 18 #[.val (.int cc), .val (.int kk), .val (.int (kk &&& (255 : Int32)))] [(.int (kk &&& (255 : Int32)))])) rfl (by rw [hml]; rfl) (argsL := [(.int (kk &&& (255 : Int32)))]) (rest := []) (lenOf pd_0_0 rfl) rfl (by show 2 * 0 + _ ≤ _; exact Nat.le_of_eq rfl) (hb hby at_18) (fun _ _ => ⟨rfl, K2q, (by decide : 0 + 0 ≤ _), (by decide : 0 + 0 ≤ _)⟩)
  dsimp only [Pt.U, Pt.locs, Pt.cells, Pt.slots] at X3 l3 y3 z3 st3 hQ3
  subst l3 y3 z3
  obtain ⟨z_3, rfl, N3q, K3q, o3_hz⟩ := hQ3
  have N3 := Fr.app N2 N3q
  refine Go.step st3 ?_
  show Go _ _ _ _ _ _ _ (T3.setTop (mkF m 21 #[.val (.int cc), .val (.int kk), .val (.int (kk &&& (255 : Int32)))] [(.int z_3)]))
  refine Go.step (fun t k => XS.iloadN X3.here hx rfl (hb hby at_21) rfl k) ?_
  show Go _ _ _ _ _ _ _ (T3.setTop (mkF m 22 #[.val (.int cc), .val (.int kk), .val (.int (kk &&& (255 : Int32)))] [(.int (kk &&& (255 : Int32))), (.int z_3)]))
  obtain ⟨_, _, ⟨T4, L4, k4, n4⟩, -, X4, ⟨Lc4, hQ4, l4, y4, z4⟩, st4⟩ := Jvm.LawKit.callS X3 hx (y := (⟨"com/example/matchstone/matchstone/AsciiIsIdCharacterPinLaw", "expected", "(I)Z"⟩ : MethodName)) hown (mvT hZ (hw _ (List.mem_of_getElem? (i := 4) rfl))) (mvT hZ (hw _ (List.mem_of_getElem? (i := 5) rfl))) (mvT hZ (hw _ (List.mem_of_getElem? (i := 6) rfl))) (mvT hZ (hw _ (List.mem_of_getElem? (i := 7) rfl))) (by decide) (backOf (W := 1) (rm2 l Z a0 hw [] (kk &&& (255 : Int32)) h0 n0 Z0) hZ (hw _ (List.mem_of_getElem? (i := 7) rfl)) (hw _ (List.mem_of_getElem? (i := 6) rfl)) (by decide) (by decide)) (g := (mkF m 22 #[.val (.int cc), .val (.int kk), .val (.int (kk &&& (255 : Int32)))] [(.int (kk &&& (255 : Int32))), (.int z_3)])) rfl (by rw [hml]; rfl) (argsL := [(.int (kk &&& (255 : Int32)))]) (rest := [(.int z_3)]) (lenOf pd_0_0 rfl) rfl (by show 2 * 0 + _ ≤ _; exact Nat.le_of_eq rfl) (hb hby at_22) (fun _ _ => ⟨rfl, K3q, (by decide : 0 + 0 ≤ _), (by decide : 0 + 0 ≤ _)⟩)
  dsimp only [Pt.U, Pt.locs, Pt.cells, Pt.slots] at X4 l4 y4 z4 st4 hQ4
  subst l4 y4 z4
  obtain ⟨z_4, rfl, N4q, K4q, o4_hz⟩ := hQ4
  have N4 := Fr.app N3 N4q
  refine Go.step st4 ?_
  show Go _ _ _ _ _ _ _ (T4.setTop (mkF m 25 #[.val (.int cc), .val (.int kk), .val (.int (kk &&& (255 : Int32)))] [(.int z_4), (.int z_3)]))
  refine Go.step (fun t k => XS.icmpNo X4.here hx rfl (hb hby at_25) rfl (teq (own_same o3_hz o4_hz : z_3 = z_4)).2 k) ?_
  show Go _ _ _ _ _ _ _ (T4.setTop (mkF m 28 #[.val (.int cc), .val (.int kk), .val (.int (kk &&& (255 : Int32)))] []))
  refine Go.step (fun t k => XS.iconst X4.here hx rfl (hb hby at_28) k) ?_
  show Go _ _ _ _ _ _ _ (T4.setTop (mkF m 29 #[.val (.int cc), .val (.int kk), .val (.int (kk &&& (255 : Int32)))] [(.int (1 : Int32))]))
  refine Go.step (fun t k => XS.goto X4.here hx rfl (pc0 := 29) (pc' := 33) rfl (hb hby at_29) (by decide) (by decide) k) ?_
  show Go _ _ _ _ _ _ _ (T4.setTop (mkF m 33 #[.val (.int cc), .val (.int kk), .val (.int (kk &&& (255 : Int32)))] [(.int (1 : Int32))]))
  refine Go.retN X4 Bd.notSynchronized hx (t := .boolean) Bd.returns (by simp) (hb hby at_33) (by decide) (by decide) (1 : Int32) rfl ?_
  rw [K4q]
  exact ⟨rfl, N4⟩
set_option maxRecDepth 65536 in
set_option maxHeartbeats 40000000 in
theorem comes_1 {Post : Tables → Env → Array Value → State → Outcome → State → Prop} (hpost : ∀ tb e args s v u, (limb_1_1.after args s (.returned v) u = true ∧ limb_1_2.after args s (.returned v) u = true ∧ True) → FrameEnd s (.returned v) u (Jvm.fieldLocs frame_1_writes args s ++ Jvm.arrayLocs frame_1_arrays args s ++ Jvm.staticLocs frame_1_statics s) 0 0 → Post tb e args s (.returned v) u) :
    ArmFor flags0 classFile x code maxLocals ret World_1 tables_1 room_1 Calls_1 rest_1 Pre_1 Post := by
  intro l hfl _ _ p e ha hc hk s m args below hf hA hF happ hP
  obtain ⟨hcalls, hrest, hpre⟩ := hP
  obtain ⟨-, -, -, hnamed, -, -, -, hat⟩ := (Spec.applies_iff hf).mp happ
  obtain ⟨hg, hn⟩ := and_e (Cond.before_iff.mp (show (Jvm.Cond.and given_1 narrow_1).before args s = true from hpre))
  obtain ⟨gv1, gv2⟩ := and_e hg
  obtain ⟨gv3, gv4⟩ := and_e gv2
  obtain ⟨w0, w1, rfl⟩ : ∃ w0 w1 : Value, args = #[w0, w1] := by
    have hs : args.size = 2 := by simpa [Cond.value, given_1] using gv1
    obtain ⟨L⟩ := args
    match L, hs with
    | [w0, w1], _ => exact ⟨w0, w1, rfl⟩
  have hw := fun d (hd : d ∈ tables_1) => atoms_spec (ws := Jvm.Cond.code x code maxLocals ret :: tables_1) hat d (List.mem_cons_of_mem _ hd)
  have hfit : Fit s := fun {y c} hc i hi => by
    obtain ⟨ha, rfl⟩ := Array.getElem?_eq_some_iff.mp hc
    have q := List.all_eq_true.mp ((Array.all_eq_true_iff_forall_mem.mp hF) _ (Array.getElem_mem ha)) i (List.mem_range.mpr hi)
    simpa [Array.getElem?_eq_getElem hi] using q
  obtain ⟨i0, ei0⟩ := is_v gv3
  obtain rfl : w0 = (.int i0) := Option.some.inj ei0
  obtain ⟨i1, ei1⟩ := is_v gv4
  obtain rfl : w1 = (.int i1) := Option.some.inj ei1
  obtain ⟨n, o, h1, h2, h3, _, L, rfl, ⟨rfl, N⟩, hq⟩ := rm0 l s _ hw tables_1 i0 i1 s.heap s.heap.size (Nat.le_refl _) p e ha hc hk s m _ below hf ((Spec.applies_iff_loose hf).mp happ).1 ⟨rfl, State.Warmed39.refl s, rfl⟩ trivial
  refine ⟨n, _, h1, h2, h3, hpost _ _ _ _ _ _ ⟨Cond.after_iff.mpr rfl, Cond.after_iff.mpr (eq_i res_at (Term.int_eval (1)) rfl), trivial⟩ ⟨hq.1, hq.2.1, (hq.2.2.sift fun y hy => Or.inr (N y hy)).mono (by decide) (by decide)⟩⟩
theorem main_1_1 : Claimed_1_1 := comes_1 fun _ _ _ _ _ _ h hF => ⟨h.1, hF⟩
theorem main_1_2 : Claimed_1_2 := comes_1 fun _ _ _ _ _ _ h hF => ⟨h.2.1, hF⟩
end Jvm.Pilot.@@N@@
namespace Jvm.Pilot.@@N@@
open Jvm Jvm.ClassFile Sem Op Lib Jvm.Free Jvm.Stand Jvm.Pilot.@@N@@.Jvm.D
/-! MADE BY PROGRAM (witnessworld.py) out of the Statement's table words and the real class files: 9 classes; the members and pool entries that the words name. The judged class is class 1, her method 2. -/
namespace start1
open Jvm.ClassFile
def u (s : String) : CpInfo := .utf8 (stringToUtf16 s)
/-- a pool by its gaps: so many unusable entries, then the entry; so many at the end -/
def gap : Nat → List CpInfo → List CpInfo
  | 0, r => r
  | n + 1, r => .unusable :: gap n r
def poolList (es : List (Nat × CpInfo)) (last : Nat) : List CpInfo := es.foldr (fun e r => gap e.1 (e.2 :: r)) (gap last [])
def pool (es : List (Nat × CpInfo)) (last : Nat) : Array CpInfo := ⟨poolList es last⟩
def fileOf (pool : Array CpInfo) (this : Nat) (attrs : Array Attribute := #[]) (ms : Array MethodInfo := #[]) (fl : Nat := 33) (sup : Nat := 0) (ifs : Array Nat := #[]) (fds : Array FieldInfo := #[]) : ClassFile where
  minorVersion := 0
  majorVersion := 65
  constantPool := pool
  accessFlags := fl
  thisClass := this
  superClass := sup
  interfaces := ifs
  fields := fds
  methods := ms
  attributes := attrs
def plain (name : String) (sup : Option ClassId) : Class where
  name := name
  kind := .ordinary
  loader := none
  accessFlags := 33
  super := sup
  interfaces := #[]
  cf := none
  fields := #[]
  methods := #[]
  instanceTypes := #[]
  staticTypes := #[]
  resolved := #[]
  callSites := []
  init := .initialized
  statics := none
  mirror := none

def pool0 : Array CpInfo := pool [(5, u "<init>"), (0, u "()V"), (1, .class_ 10), (1, u "java/lang/Object")] 113

def k0m0 : Method := { name := "<init>", desc := "()V", sig := { parameters := [], returnType := none }, accessFlags := 1, code := none }
/-- java/lang/Object -/
def k0 : Class := { plain "java/lang/Object" none with
  accessFlags := 33
  interfaces := #[]
  cf := some (fileOf pool0 8 #[] #[{ accessFlags := 1, nameIndex := 5, descriptorIndex := 6, attributes := #[] }] 33 0 #[] #[])
  fields := #[]
  methods := #[k0m0]
  instanceTypes := #[]
  staticTypes := #[]
  resolved := Array.replicate 124 none
  statics := none }

def pool1 : Array CpInfo := pool [(2, .class_ 4), (1, u "java/lang/Object"), (0, u "<init>"), (0, u "()V"), (0, .class_ 8), (0, u "com/example/matchstone/matchstone/AsciiIsIdCharacterPinLaw"), (0, .long 288054454291267584), (1, .long 576460745995190270), (1, .methodref 14 15), (0, .class_ 16), (0, .nameAndType 17 18), (0, u "com/example/matchstone/matchstone/Ascii"), (0, u "isIdCharacter"), (0, u "(I)Z"), (0, .methodref 7 20), (0, .nameAndType 21 18), (0, u "expected"), (0, u "LOW"), (0, u "J"), (1, u "HIGH"), (3, u "law"), (0, u "(II)Z")] 2

def k1m0 : Method := { name := "<init>", desc := "()V", sig := { parameters := [], returnType := none }, accessFlags := 2, code := none }
def k1c1 : Code := { maxStack := 4, maxLocals := 3, code := method_2_code, exceptionTable := #[], attributes := #[] }
def k1m1 : Method := { name := "expected", desc := "(I)Z", sig := { parameters := [.int], returnType := some .boolean }, accessFlags := 10, code := some k1c1 }
def k1c2 : Code := { maxStack := 2, maxLocals := 3, code := code, exceptionTable := #[], attributes := #[] }
def k1m2 : Method := { name := "law", desc := "(II)Z", sig := { parameters := [.int, .int], returnType := some .boolean }, accessFlags := 9, code := some k1c2 }
/-- com/example/matchstone/matchstone/AsciiIsIdCharacterPinLaw -/
def k1 : Class := { plain "com/example/matchstone/matchstone/AsciiIsIdCharacterPinLaw" (some 0) with
  accessFlags := 49
  interfaces := #[]
  cf := some (fileOf pool1 7 #[] #[{ accessFlags := 2, nameIndex := 5, descriptorIndex := 6, attributes := #[] }, { accessFlags := 10, nameIndex := 21, descriptorIndex := 18, attributes := #[] }, { accessFlags := 9, nameIndex := 29, descriptorIndex := 30, attributes := #[] }] 49 2 #[] #[{ accessFlags := 26, nameIndex := 22, descriptorIndex := 23, attributes := #[] }, { accessFlags := 26, nameIndex := 25, descriptorIndex := 23, attributes := #[] }])
  fields := #[{ name := "LOW", type := .long, accessFlags := 26, slot := 0, constantValue := 0 }, { name := "HIGH", type := .long, accessFlags := 26, slot := 1, constantValue := 0 }]
  methods := #[k1m0, k1m1, k1m2]
  instanceTypes := #[]
  staticTypes := #[.long, .long]
  resolved := Array.replicate 33 none
  statics := none }

def pool2 : Array CpInfo := pool [(2, .class_ 4), (1, u "java/lang/Object"), (0, u "<init>"), (0, u "()V"), (31, .class_ 40), (1, u "com/example/matchstone/matchstone/Ascii"), (5, u "isIdCharacter"), (0, u "(I)Z")] 21

def k2m0 : Method := { name := "<init>", desc := "()V", sig := { parameters := [], returnType := none }, accessFlags := 2, code := none }
def k2c1 : Code := { maxStack := 2, maxLocals := 1, code := prog_2_method_4_code, exceptionTable := #[], attributes := #[] }
def k2m1 : Method := { name := "isIdCharacter", desc := "(I)Z", sig := { parameters := [.int], returnType := some .boolean }, accessFlags := 9, code := some k2c1 }
/-- com/example/matchstone/matchstone/Ascii -/
def k2 : Class := { plain "com/example/matchstone/matchstone/Ascii" (some 0) with
  accessFlags := 49
  interfaces := #[]
  cf := some (fileOf pool2 38 #[] #[{ accessFlags := 2, nameIndex := 5, descriptorIndex := 6, attributes := #[] }, { accessFlags := 9, nameIndex := 46, descriptorIndex := 47, attributes := #[] }] 49 2 #[] #[])
  fields := #[]
  methods := #[k2m0, k2m1]
  instanceTypes := #[]
  staticTypes := #[]
  resolved := Array.replicate 69 none
  statics := none }

def pool3 : Array CpInfo := pool [(1, u "java/lang/Cloneable"), (0, .class_ 1), (0, u "java/lang/Object"), (0, .class_ 3)] 3

/-- java/lang/Cloneable -/
def k3 : Class := { plain "java/lang/Cloneable" (some 0) with
  accessFlags := 1537
  interfaces := #[]
  cf := some (fileOf pool3 2 #[] #[] 1537 4 #[] #[])
  fields := #[]
  methods := #[]
  instanceTypes := #[]
  staticTypes := #[]
  resolved := Array.replicate 8 none
  statics := none }

def pool4 : Array CpInfo := pool [(1, u "java/io/Serializable"), (0, .class_ 1), (0, u "java/lang/Object"), (0, .class_ 3)] 3

/-- java/io/Serializable -/
def k4 : Class := { plain "java/io/Serializable" (some 0) with
  accessFlags := 1537
  interfaces := #[]
  cf := some (fileOf pool4 2 #[] #[] 1537 4 #[] #[])
  fields := #[]
  methods := #[]
  instanceTypes := #[]
  staticTypes := #[]
  resolved := Array.replicate 8 none
  statics := none }

/-- the primitive byte -/
def k5 : Class := { plain "byte" none with kind := .primitive 'B', accessFlags := 0x411 }
/-- [B -/
def k6 : Class := { plain "[B" (some 0) with kind := .array 5 .byte, interfaces := #[3, 4], accessFlags := 1041 }

/-- the primitive int -/
def k7 : Class := { plain "int" none with kind := .primitive 'I', accessFlags := 0x411 }
/-- [I -/
def k8 : Class := { plain "[I" (some 0) with kind := .array 7 .int, interfaces := #[3, 4], accessFlags := 1041 }

def heap : Heap := #[]
def classes : Array Class := #[k0, k1, k2, k3, k4, k5, k6, k7, k8]
def interned : List (Array UInt16 × Addr) := []
def slotsUsed : Nat := 0
def theMethod : MethodId := ⟨1, 2⟩
def args0 : Array Value := #[.int 5, .int 7]
def aboutOver (below : List Frame) : State where
  vm := { classes := classes, interned := interned.toArray }
  heap := heap
  slotsUsed := slotsUsed
  threads := #[{ frames := .invoking theMethod args0 :: below }]
def below0 : List Frame := [.native { method := ⟨0, 0⟩, args := #[] }]
def about1 : State := aboutOver below0
def p0 : Program := .bare "" "" ""
def e0 : Env := launch0.env 0 0 0
theorem w_frames : about1.frames = Frame.invoking theMethod args0 :: below0 := rfl
set_option maxRecDepth 65536 in
theorem w_args : argsFit about1.vm theMethod args0 = true := by decide +kernel
set_option maxRecDepth 65536 in
theorem w_heap : heapFits about1 = true := by decide +kernel
set_option maxRecDepth 65536 in
theorem w_runnable : about1.curStatus? = some .runnable := by decide +kernel
set_option maxRecDepth 65536 in
theorem w_alone : about1.alone = true := by decide +kernel
set_option maxRecDepth 65536 in
theorem w_named : about1.methodNamed? x = some theMethod := by decide +kernel
set_option maxRecDepth 65536 in
theorem w_hears : about1.hears theMethod below0 = true := by decide +kernel
set_option maxRecDepth 65536 in
theorem w_ripe : about1.ripe theMethod args0 below0 = true := by decide +kernel
theorem w_running : about1.status = .running := rfl
set_option maxRecDepth 65536 in
theorem w_room : about1.hasRoom e0.platform room_1 = true :=
  launch0.hasRoom_least _ room_1 (by decide +kernel) (by decide +kernel) (by decide +kernel) (by decide +kernel) (by decide +kernel) (by decide +kernel)
theorem allAtoms_all (ts : List Jvm.Cond) (a : Array Jvm.Value) (st : Jvm.State) : (allAtoms ts).before a st = ts.all (fun c => c.before a st) := by
  induction ts with
  | nil => rfl
  | cons c t ih =>
    show (Jvm.Cond.and c (allAtoms t)).before a st = _
    rw [Jvm.Cond.before_and, ih, List.all_cons]
def words1 : List Jvm.Cond := Jvm.Cond.code x code maxLocals ret :: tables_1
/-- a 'code' word, met by the world's own term for the bytes: nothing is compared byte by byte -/
theorem code_word {y : MethodName} {bytes : ByteArray} {mx : Nat} {rt : Option FieldType} {a : Array Value} {s : State} {m : MethodId} {meth : Method} {c : Code} (h1 : s.methodNamed? y = some m) (h2 : s.vm.method? m = some meth) (h3 : meth.code = some c) (h4 : c.code = bytes)
    (h5 : (c.maxLocals == mx && c.exceptionTable.isEmpty && decide (c.maxStack ≤ mostOperands) && decide (meth.sig.returnType = rt) && !meth.locks && decide (parseMethodDescriptor y.desc = some meth.sig)) = true) : (Jvm.Cond.code y bytes mx rt).before a s = true := by
  simp only [Bool.and_eq_true, beq_iff_eq, Bool.not_eq_true', decide_eq_true_eq] at h5
  obtain ⟨⟨⟨⟨⟨g1, g2⟩, g3⟩, g4⟩, g5⟩, g6⟩ := h5
  simp [Cond.before, Cond.holds, Cond.value, h1, h2, h3, h4, g1, g2, g3, g4, g5, g6]
def isCode : Jvm.Cond → Bool
  | .code _ _ _ _ => true
  | _ => false
theorem all_split {L : List Jvm.Cond} {P : Jvm.Cond → Bool} (h1 : L.all (fun c => isCode c || P c) = true) (h2 : ∀ c ∈ L.filter isCode, P c = true) : L.all P = true := by
  refine List.all_eq_true.mpr fun c hc => ?_
  have h := List.all_eq_true.mp h1 c hc
  rcases Bool.eq_false_or_eq_true (isCode c) with hi | hi
  · exact h2 c (List.mem_filter.mpr ⟨hc, hi⟩)
  · simpa [hi] using h
set_option maxRecDepth 65536 in
theorem w_c0 : (Jvm.Cond.code x code maxLocals ret).before args0 about1 = true := code_word (m := ⟨1, 2⟩) (meth := k1m2) (c := k1c2) (by decide +kernel) rfl rfl rfl (by decide +kernel)
set_option maxRecDepth 65536 in
theorem w_c1 : (Jvm.Cond.code ({ cls := "com/example/matchstone/matchstone/Ascii", name := "isIdCharacter", desc := "(I)Z" } : Jvm.MethodName) prog_2_method_4_code (1 : Nat) (Option.some Jvm.ClassFile.FieldType.boolean)).before args0 about1 = true := code_word (m := ⟨2, 1⟩) (meth := k2m1) (c := k2c1) (by decide +kernel) rfl rfl rfl (by decide +kernel)
set_option maxRecDepth 65536 in
theorem w_c2 : (Jvm.Cond.code ({ cls := "com/example/matchstone/matchstone/AsciiIsIdCharacterPinLaw", name := "expected", desc := "(I)Z" } : Jvm.MethodName) method_2_code (3 : Nat) (Option.some Jvm.ClassFile.FieldType.boolean)).before args0 about1 = true := code_word (m := ⟨1, 1⟩) (meth := k1m1) (c := k1c1) (by decide +kernel) rfl rfl rfl (by decide +kernel)
def codes1 : List Jvm.Cond := [Jvm.Cond.code x code maxLocals ret, Jvm.Cond.code ({ cls := "com/example/matchstone/matchstone/Ascii", name := "isIdCharacter", desc := "(I)Z" } : Jvm.MethodName) prog_2_method_4_code (1 : Nat) (Option.some Jvm.ClassFile.FieldType.boolean), Jvm.Cond.code ({ cls := "com/example/matchstone/matchstone/AsciiIsIdCharacterPinLaw", name := "expected", desc := "(I)Z" } : Jvm.MethodName) method_2_code (3 : Nat) (Option.some Jvm.ClassFile.FieldType.boolean)]
set_option maxRecDepth 65536 in
theorem codes_eq : words1.filter isCode = codes1 := rfl
theorem w_codes : ∀ c ∈ words1.filter isCode, c.before args0 about1 = true := by
  rw [codes_eq]
  intro c hc
  simp only [codes1, List.mem_cons, List.not_mem_nil, or_false] at hc
  rcases hc with rfl | rfl | rfl
  · exact w_c0
  · exact w_c1
  · exact w_c2
set_option maxRecDepth 65536 in
theorem w_t1 : words1.all (fun c => isCode c || c.before args0 about1) = true := by decide +kernel
theorem w_tables : (allAtoms (Jvm.Cond.code x code maxLocals ret :: tables_1)).before args0 about1 = true := by
  rw [allAtoms_all]
  show words1.all (fun c => c.before args0 about1) = true
  refine all_split ?_ w_codes
  rw [w_t1]
set_option maxRecDepth 65536 in
theorem w_case : (Jvm.Cond.and given_1 narrow_1).before args0 about1 = true := by decide +kernel
theorem w_applies : (headSpec (Jvm.Cond.code x code maxLocals ret :: tables_1) room_1).applies x e0.platform about1 = true :=
  (Spec.applies_iff w_frames).mpr ⟨w_running, w_runnable, w_alone, w_named, w_hears, w_ripe, w_room, w_tables⟩
theorem atStart : AtStart classFile x code maxLocals ret World_1 tables_1 room_1 Calls_1 rest_1 Pre_1 launch0 p0 e0 about1 theMethod args0 below0 :=
  ⟨lists_1, trivial, launch0.admits_env _ _ _, launch0.least_env, fairChoices_fair.cas, fairChoices_fair.clock, w_frames, w_args, w_heap, w_applies, trivial, trivial, w_case⟩
end start1
theorem witness_1 : WitnessClaimed_1 := ⟨start1.p0, start1.e0, start1.about1, start1.theMethod, start1.args0, start1.below0, start1.atStart⟩
end Jvm.Pilot.@@N@@
