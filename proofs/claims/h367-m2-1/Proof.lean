import JvmDerived
import JvmDerived.Pilot.@@N@@Statement
import JvmDerived.Pilot.@@N@@Code
set_option linter.unusedVariables false
set_option linter.unusedSimpArgs false
namespace Jvm.Pilot.@@N@@
open Jvm Jvm.ClassFile Sem Op Lib Jvm.Free Jvm.Stand Jvm.LawKit Jvm.RoadKit Bundle Jvm.Pilot.@@N@@.Jvm.D
section Own
variable {p : Program} {l : Launch} {e : Env} {R : Room} {s : State} {m : MethodId} {args : Array Value} {below : List Frame} {meth : Method} {c : Code} {T : State} {locs : List Loc} {cells slots : Nat} {Z : State} {h h' : Heap} {a b : Addr}
/-- from the state σ the run comes to a return that meets Qk -/
def Go (p : Program) (e : Env) (below : List Frame) (s : State) (Qk : Option Value → Heap → List Loc → Prop) (C S : Nat) (σ : State) : Prop :=
  ∃ s₂ o, Steps p.tables e below σ s₂ ∧ s₂.status = .running ∧ Ended s₂ below o ∧ ∃ v L, o = .returned v ∧ Qk v s₂.heap L ∧ FrameEnd s o s₂ L C S
variable {Qk : Option Value → Heap → List Loc → Prop} {C S : Nat}
theorem Go.step {σ σ' : State} (hs : ∀ t, Steps p.tables e below σ' t → Steps p.tables e below σ t) (k : Go p e below s Qk C S σ') : Go p e below s Qk C S σ := by
  obtain ⟨s₂, o, h1, r⟩ := k
  exact ⟨s₂, o, hs _ h1, r⟩
theorem Go.retV (X : Stand p l e R s m args below meth c T locs cells slots) (hlk : meth.locks = false) (hx : p.tables.exec = Jvm.exec) {pc : Nat} {Ls : Array Slot} (hret : meth.sig.returnType = none) (hd : decode c.code pc = .ok (.return_, 1)) (hc : cells ≤ C) (hs : slots ≤ S) (hQ : Qk none T.heap locs) :
    Go p e below s Qk C S (T.setTop (mkF m pc Ls [])) := by
  obtain ⟨fs, hr, hrun, hended, hW, hsame⟩ := X.leave (v := none) (fun _ => rfl) hlk
  exact ⟨_, _, X.returnOut hx hret hd hr, hrun, hended, _, _, rfl, hQ, ⟨_, rfl⟩, hW, hsame.mono hc hs⟩
theorem Go.retW (X : Stand p l e R s m args below meth c T locs cells slots) (hlk : meth.locks = false) (hx : p.tables.exec = Jvm.exec) {pc : Nat} {Ls : Array Slot} {w : Value} {t : FieldType} {i : Instr} {rest : List Value} (hret : meth.sig.returnType = some t) (hn : narrow t w = w)
    (hi : (i = .ireturn ∧ (t = .int ∨ t = .boolean ∨ t = .byte ∨ t = .char ∨ t = .short) ∧ ∃ z, w = .int z) ∨ (i = .lreturn ∧ t = .long ∧ ∃ z, w = .long z) ∨ (i = .dreturn ∧ t = .double ∧ ∃ z, w = .double z) ∨ (i = .freturn ∧ t = .float ∧ ∃ z, w = .float z) ∨ (i = .areturn ∧ t.isReference = true ∧ w.isRef = true))
    (hd : decode c.code pc = .ok (i, 1)) (hc : cells ≤ C) (hs : slots ≤ S) (hQ : Qk (some w) T.heap locs) :
    Go p e below s Qk C S (T.setTop (mkF m pc Ls (w :: rest))) := by
  obtain ⟨fs, hr, hrun, hended, hW, hsame⟩ := X.leave (v := some w) (fun q => by rw [hret] at q; cases q) hlk
  exact ⟨_, _, retOut X hx hret hn hi hd hr, hrun, hended, _, _, rfl, hQ, ⟨_, rfl⟩, hW, hsame.mono hc hs⟩
theorem Go.retI (X : Stand p l e R s m args below meth c T locs cells slots) (hlk : meth.locks = false) (hx : p.tables.exec = Jvm.exec) {pc : Nat} {Ls : Array Slot} {z : Int32} {rest : List Value} (hret : meth.sig.returnType = some .int) (hd : decode c.code pc = .ok (.ireturn, 1)) (hc : cells ≤ C) (hs : slots ≤ S) (hQ : Qk (some (.int z)) T.heap locs) :
    Go p e below s Qk C S (T.setTop (mkF m pc Ls (.int z :: rest))) :=
  Go.retW X hlk hx hret rfl (Or.inl ⟨rfl, Or.inl rfl, z, rfl⟩) hd hc hs hQ
theorem Go.retJ (X : Stand p l e R s m args below meth c T locs cells slots) (hlk : meth.locks = false) (hx : p.tables.exec = Jvm.exec) {pc : Nat} {Ls : Array Slot} {z : Int64} {rest : List Value} (hret : meth.sig.returnType = some .long) (hd : decode c.code pc = .ok (.lreturn, 1)) (hc : cells ≤ C) (hs : slots ≤ S) (hQ : Qk (some (.long z)) T.heap locs) :
    Go p e below s Qk C S (T.setTop (mkF m pc Ls (.long z :: rest))) :=
  Go.retW X hlk hx hret rfl (Or.inr (Or.inl ⟨rfl, rfl, z, rfl⟩)) hd hc hs hQ
theorem Go.retA (X : Stand p l e R s m args below meth c T locs cells slots) (hlk : meth.locks = false) (hx : p.tables.exec = Jvm.exec) {pc : Nat} {Ls : Array Slot} {w : Value} {t : FieldType} {rest : List Value} (hret : meth.sig.returnType = some t) (hn : narrow t w = w) (ht : t.isReference = true) (hw : w.isRef = true) (hd : decode c.code pc = .ok (.areturn, 1)) (hc : cells ≤ C) (hs : slots ≤ S) (hQ : Qk (some w) T.heap locs) :
    Go p e below s Qk C S (T.setTop (mkF m pc Ls (w :: rest))) :=
  Go.retW X hlk hx hret hn (Or.inr (Or.inr (Or.inr (Or.inr ⟨rfl, ht, hw⟩)))) hd hc hs hQ
theorem Go.retN (X : Stand p l e R s m args below meth c T locs cells slots) (hlk : meth.locks = false) (hx : p.tables.exec = Jvm.exec) {pc : Nat} {Ls : Array Slot} {z : Int32} {t : FieldType} {rest : List Value} (hret : meth.sig.returnType = some t) (ht : t = .boolean ∨ t = .byte ∨ t = .char ∨ t = .short) (hd : decode c.code pc = .ok (.ireturn, 1)) (hc : cells ≤ C) (hs : slots ≤ S) (z' : Int32) (hz : nar t z = z') (hQ : Qk (some (.int z')) T.heap locs) :
    Go p e below s Qk C S (T.setTop (mkF m pc Ls (.int z :: rest))) := by
  subst hz
  obtain ⟨fs, hr, hrun, hended, hW, hsame⟩ := X.leave (v := some (.int (nar t z))) (fun q => by rw [hret] at q; cases q) hlk
  exact ⟨_, _, Jvm.RoadKit.retN X hx hret ht hd hr, hrun, hended, _, _, rfl, hQ, ⟨_, rfl⟩, hW, hsame.mono hc hs⟩
theorem own_narb {P : Prop} [Decidable P] : nar .boolean (if P then (1 : Int32) else (0 : Int32)) = (if P then (1 : Int32) else (0 : Int32)) := by split <;> rfl
theorem own_narb01 {z : Int32} (h : z = 0 ∨ z = 1) : nar .boolean z = z := by rcases h with rfl | rfl <;> rfl
/-- a function turned at one place -/
def up {α : Type} (f : Nat → α) (k : Nat) (v : α) : Nat → α := fun i => if i = k then v else f i
theorem up_same {α : Type} (f : Nat → α) (k : Nat) (v : α) : up f k v k = v := if_pos rfl
theorem up_ne {α : Type} (f : Nat → α) {k i : Nat} (v : α) (q : i ≠ k) : up f k v i = f i := if_neg q
/-- an array of n places; place i holds g i -/
def Ary (Z : State) (h : Heap) (a : Addr) (ty : FieldType) (n : Nat) (g : Nat → Value) : Prop := ∃ c : Cell, Arr Z h a c ty ∧ c.slots.size = n ∧ n < 2 ^ 31 ∧ ∀ i, i < n → c.slots[i]? = some (g i)
variable {ty : FieldType} {n : Nat} {g : Nat → Value}
theorem Ary.lt (F : Ary Z h a ty n g) : a < h.size := by obtain ⟨c, A, -⟩ := F; exact A.lt
theorem Ary.ext (F : Ary Z h a ty n g) (E : Ext h h') : Ary Z h' a ty n g := by obtain ⟨c, A, r⟩ := F; exact ⟨c, A.ext E, r⟩
theorem Ary.other {sl : Nat} {v : Value} (F : Ary Z h b ty n g) (W : Wr h h' a sl v) (q : b ≠ a) : Ary Z h' b ty n g := by obtain ⟨c, A, r⟩ := F; exact ⟨c, A.other W q, r⟩
theorem Ary.keep {ws : List Addr} (F : Ary Z h a ty n g) (K : Keep h h' ws) (q : a ∉ ws) : Ary Z h' a ty n g := by obtain ⟨c, A, r⟩ := F; exact ⟨c, ⟨K.2.1 a c A.1 q, A.2⟩, r⟩
theorem Ary.set {k : Nat} {v : Value} (F : Ary Z h a ty n g) (W : Wr h h' a k v) : Ary Z h' a ty n (up g k v) := by
  obtain ⟨c, A, S, B, H⟩ := F
  refine ⟨_, A.same W, by rw [sz_set]; exact S, B, fun i hi => ?_⟩
  by_cases q : k = i
  · subst q; rw [up_same]; simp [Cell.setSlot, S, hi]
  · rw [up_ne _ _ (Ne.symm q), ← H i hi]; simp only [Cell.setSlot]; rw [Array.getElem?_setIfInBounds_ne q]
theorem Ary.new {k : ClassId} {z : Int32} (A : Arr Z h a (newA k ty z) ty) (q : z.toInt = n) : Ary Z h a ty n (fun _ => defaultValue ty) := by
  have e1 : z.toNatClampNeg = n := by simp only [Int32.toNatClampNeg]; omega
  refine ⟨_, A, by rw [sz_new]; exact e1, ?_, fun i hi => ?_⟩
  · have := Int32.toInt_lt z; omega
  · simp [newA, e1, hi]
theorem Ary.congr {g' : Nat → Value} (F : Ary Z h a ty n g) (q : ∀ i, i < n → g i = g' i) : Ary Z h a ty n g' := by
  obtain ⟨c, A, S, B, H⟩ := F
  exact ⟨c, A, S, B, fun i hi => by rw [← q i hi]; exact H i hi⟩
abbrev AryI (Z : State) (h : Heap) (a : Addr) (ty : FieldType) (n : Nat) (g : Nat → Int32) : Prop := Ary Z h a ty n (fun i => .int (g i))
abbrev AryJ (Z : State) (h : Heap) (a : Addr) (n : Nat) (g : Nat → Int64) : Prop := Ary Z h a .long n (fun i => .long (g i))
theorem own_upI (f : Nat → Int32) (k : Nat) (v : Int32) : up (fun i => Value.int (f i)) k (.int v) = fun i => Value.int (up f k v i) := by funext i; simp only [up]; split <;> rfl
theorem own_upJ (f : Nat → Int64) (k : Nat) (v : Int64) : up (fun i => Value.long (f i)) k (.long v) = fun i => Value.long (up f k v i) := by funext i; simp only [up]; split <;> rfl
theorem Ary.setI {f : Nat → Int32} {k : Nat} {v : Int32} (F : AryI Z h a ty n f) (W : Wr h h' a k (.int v)) : AryI Z h' a ty n (up f k v) := by have r := Ary.set F W; rw [own_upI] at r; exact r
theorem Ary.setJ {f : Nat → Int64} {k : Nat} {v : Int64} (F : AryJ Z h a n f) (W : Wr h h' a k (.long v)) : AryJ Z h' a n (up f k v) := by have r := Ary.set F W; rw [own_upJ] at r; exact r
theorem own_idx {c : Cell} {j : Int32} {k : Nat} (S : c.slots.size = n) (q : j.toInt = k) (hk : k < n) : ¬ (j < 0 ∨ c.slots.size ≤ j.toNatClampNeg) ∧ j.toNatClampNeg = k := by
  have e1 : j.toNatClampNeg = k := by simp only [Int32.toNatClampNeg]; omega
  have e0 : (0 : Int32).toInt = 0 := rfl
  refine ⟨?_, e1⟩
  rw [e1, S, Int32.lt_iff_toInt_lt]; omega
theorem own_ld (X : Stand p l e R s m args below meth c T locs cells slots) (hx : p.tables.exec = Jvm.exec) (hZ : Z.Warmed39 s.vm) (eT : T.heap = h) (F : Ary Z h a ty n g) {j : Int32} (k : Nat) (q : j.toInt = k) (hk : k < n) {v : Value} (hv : g k = v) {i : Instr}
    (hi : (i = .iaload ∧ ty = .int) ∨ (i = .laload ∧ ty = .long) ∨ (i = .caload ∧ ty = .char) ∨ (i = .baload ∧ ty = .byte)) {f : JFrame} (hg : f.method = m) {rest : List Value} (hs : f.stack = .int j :: .ref a :: rest) (hd : decode c.code f.pc = .ok (i, 1)) :
    ∀ target, Steps p.tables e below (T.setTop { f with pc := f.pc + 1, stack := v :: rest }) target → Steps p.tables e below (T.setTop f) target := by
  subst hv
  obtain ⟨cl, A, S, -, H⟩ := F
  obtain ⟨hin, e1⟩ := own_idx S q hk
  have hat : cl.slots[j.toNatClampNeg]? = some (g k) := by rw [e1]; exact H k hk
  intro t kt
  rcases hi with ⟨rfl, rfl⟩ | ⟨rfl, rfl⟩ | ⟨rfl, rfl⟩ | ⟨rfl, rfl⟩
  · exact X.iaload hx (by rw [eT]; exact A.1) (State.isArrayOf_alike hZ.alike A.2.1) A.2.2 hin hat hg hs hd t kt
  · exact X.laload hx (by rw [eT]; exact A.1) (State.isArrayOf_alike hZ.alike A.2.1) A.2.2 hin hat hg hs hd t kt
  · exact X.caload hx (by rw [eT]; exact A.1) (State.isArrayOf_alike hZ.alike A.2.1) A.2.2 hin hat hg hs hd t kt
  · exact X.baloadBytes hx (by rw [eT]; exact A.1) (State.isArrayOf_alike hZ.alike A.2.1) A.2.2 hin hat hg hs hd t kt
theorem own_len (X : Stand p l e R s m args below meth c T locs cells slots) (hx : p.tables.exec = Jvm.exec) (hZ : Z.Warmed39 s.vm) (eT : T.heap = h) (F : Ary Z h a ty n g) {z : Int32} (hz : n.toInt32 = z) {f : JFrame} (hg : f.method = m) {rest : List Value} (hs : f.stack = .ref a :: rest) (hd : decode c.code f.pc = .ok (.arraylength, 1)) :
    ∀ target, Steps p.tables e below (T.setTop { f with pc := f.pc + 1, stack := .int z :: rest }) target → Steps p.tables e below (T.setTop f) target := by
  subst hz
  obtain ⟨cl, A, S, -⟩ := F
  intro t kt
  refine X.arraylength hx (by rw [eT]; exact A.1) (State.isArrayOf_alike hZ.alike A.2.1) hg hs hd t ?_
  rw [S]; exact kt
theorem own_stI (X : Stand p l e R s m args below meth c T locs cells slots) (hx : p.tables.exec = Jvm.exec) (hZ : Z.Warmed39 s.vm) (eT : T.heap = h) (F : Ary Z h a .int n g) {j x : Int32} (k : Nat) (q : j.toInt = k) (hk : k < n) {f : JFrame} (hg : f.method = m) {rest : List Value} (hs : f.stack = .int x :: .int j :: .ref a :: rest) (hd : decode c.code f.pc = .ok (.iastore, 1)) :
    ∃ T' h', Stand p l e R s m args below meth c T' (locs ++ [⟨a, k⟩]) cells slots ∧ T'.heap = h' ∧ Wr h h' a k (.int x) ∧ ∀ target, Steps p.tables e below (T'.setTop { f with pc := f.pc + 1, stack := rest }) target → Steps p.tables e below (T.setTop f) target := by
  obtain ⟨cl, A, S, -, -⟩ := F
  obtain ⟨hin, e1⟩ := own_idx S q hk
  have r := stI X hx hZ eT A hin hg hs hd
  rw [e1] at r; exact r
theorem own_stJ (X : Stand p l e R s m args below meth c T locs cells slots) (hx : p.tables.exec = Jvm.exec) (hZ : Z.Warmed39 s.vm) (eT : T.heap = h) (F : Ary Z h a .long n g) {j : Int32} {x : Int64} (k : Nat) (q : j.toInt = k) (hk : k < n) {f : JFrame} (hg : f.method = m) {rest : List Value} (hs : f.stack = .long x :: .int j :: .ref a :: rest) (hd : decode c.code f.pc = .ok (.lastore, 1)) :
    ∃ T' h', Stand p l e R s m args below meth c T' (locs ++ [⟨a, k⟩]) cells slots ∧ T'.heap = h' ∧ Wr h h' a k (.long x) ∧ ∀ target, Steps p.tables e below (T'.setTop { f with pc := f.pc + 1, stack := rest }) target → Steps p.tables e below (T.setTop f) target := by
  obtain ⟨cl, A, S, -, -⟩ := F
  obtain ⟨hin, e1⟩ := own_idx S q hk
  have r := stJ X hx hZ eT A hin hg hs hd
  rw [e1] at r; exact r
theorem own_stB (X : Stand p l e R s m args below meth c T locs cells slots) (hx : p.tables.exec = Jvm.exec) (hZ : Z.Warmed39 s.vm) (eT : T.heap = h) (F : Ary Z h a .byte n g) {j x : Int32} (k : Nat) (q : j.toInt = k) (hk : k < n) {f : JFrame} (hg : f.method = m) {rest : List Value} (hs : f.stack = .int x :: .int j :: .ref a :: rest) (hd : decode c.code f.pc = .ok (.bastore, 1)) :
    ∃ T' h', Stand p l e R s m args below meth c T' (locs ++ [⟨a, k⟩]) cells slots ∧ T'.heap = h' ∧ Wr h h' a k (.int (nar .byte x)) ∧ ∀ target, Steps p.tables e below (T'.setTop { f with pc := f.pc + 1, stack := rest }) target → Steps p.tables e below (T.setTop f) target := by
  obtain ⟨cl, A, S, -, -⟩ := F
  obtain ⟨hin, e1⟩ := own_idx S q hk
  have r := stB X hx hZ eT A hin hg hs hd
  rw [e1] at r; exact r
theorem own_stC (X : Stand p l e R s m args below meth c T locs cells slots) (hx : p.tables.exec = Jvm.exec) (hZ : Z.Warmed39 s.vm) (eT : T.heap = h) (F : Ary Z h a .char n g) {j x : Int32} (k : Nat) (q : j.toInt = k) (hk : k < n) {f : JFrame} (hg : f.method = m) {rest : List Value} (hs : f.stack = .int x :: .int j :: .ref a :: rest) (hd : decode c.code f.pc = .ok (.castore, 1)) :
    ∃ T' h', Stand p l e R s m args below meth c T' (locs ++ [⟨a, k⟩]) cells slots ∧ T'.heap = h' ∧ Wr h h' a k (.int (nar .char x)) ∧ ∀ target, Steps p.tables e below (T'.setTop { f with pc := f.pc + 1, stack := rest }) target → Steps p.tables e below (T.setTop f) target := by
  obtain ⟨cl, A, S, -, -⟩ := F
  obtain ⟨hin, e1⟩ := own_idx S q hk
  have r := stC X hx hZ eT A hin hg hs hd
  rw [e1] at r; exact r
theorem own_neA {a0 : Array Value} {k : Nat} {K : String} (F : Exa Z h a K) (wi : (Cond.instantiable K k).before a0 Z = true) (G : Ary Z h b ty n g) : a ≠ b := by
  obtain ⟨cl, A, -⟩ := G
  exact ne_arr F wi A
theorem own_selP {y : MethodName} {k : Nat} {a0 as' : Array Value} (hZ : Z.Warmed39 s.vm) (wi : (Cond.instantiable y.cls k).before a0 Z = true) (wn : (Cond.instanceMethod y).before a0 Z = true) (wp : (Cond.privateMethod y).before a0 Z = true) (hy : y.cls ≠ "java/lang/invoke/MethodHandle" ∧ y.cls ≠ "java/lang/invoke/VarHandle") : (Cond.selects y.cls y y).before as' s = true := by
  have wi' : (Cond.instantiable y.cls k).before as' s = true := mvT hZ wi
  obtain ⟨c, kc, h1, h2, -, h4, -⟩ := Cond.instantiable_spec wi'
  refine selects_self_of_private h1 h2 ?_ (Cond.privateMethod_at (mvP hZ wp (args := #[]))) (mvT hZ wn) hy
  cases hi : kc.isInterface with
  | false => rfl
  | true => rw [hi] at h4; simp at h4
/-- long comparisons -/
theorem own_lwlt {x y : Int64} (h : x < y) : lcmpW x y < 0 := (lw_lt x y).mpr h
theorem own_nlwlt {x y : Int64} (h : ¬ x < y) : ¬ lcmpW x y < 0 := fun q => h ((lw_lt x y).mp q)
theorem own_lwgt {x y : Int64} (h : y < x) : 0 < lcmpW x y := (lw_gt x y).mpr h
theorem own_nlwgt {x y : Int64} (h : ¬ y < x) : ¬ 0 < lcmpW x y := fun q => h ((lw_gt x y).mp q)
theorem own_lweq {x y : Int64} (h : x = y) : lcmpW x y = 0 := (lw_eq x y).mpr h
theorem own_nlweq {x y : Int64} (h : ¬ x = y) : ¬ lcmpW x y = 0 := fun q => h ((lw_eq x y).mp q)
end Own
theorem own_lt {x y : Int32} (h : x < y) : x.toInt < y.toInt := Int32.lt_iff_toInt_lt.mp h
theorem own_nlt {x y : Int32} (h : ¬ x < y) : ¬ x.toInt < y.toInt := fun q => h (Int32.lt_iff_toInt_lt.mpr q)
theorem own_eq {x y : Int32} (h : x = y) : x.toInt = y.toInt := by rw [h]
theorem own_neq {x y : Int32} (h : ¬ x = y) : ¬ x.toInt = y.toInt := fun q => h (Int32.toInt_inj.mp q)
theorem own_ltL {x y : Int64} (h : x < y) : x.toInt < y.toInt := Int64.lt_iff_toInt_lt.mp h
theorem own_nltL {x y : Int64} (h : ¬ x < y) : ¬ x.toInt < y.toInt := fun q => h (Int64.lt_iff_toInt_lt.mpr q)
theorem own_eqL {x y : Int64} (h : x = y) : x.toInt = y.toInt := by rw [h]
theorem own_neqL {x y : Int64} (h : ¬ x = y) : ¬ x.toInt = y.toInt := fun q => h (Int64.toInt_inj.mp q)
theorem own_rng32 (x : Int32) : -2147483648 ≤ x.toInt ∧ x.toInt ≤ 2147483647 := by
  have h1 := Int32.le_toInt x
  have h2 := Int32.toInt_lt x
  omega
theorem own_rng64 (x : Int64) : -9223372036854775808 ≤ x.toInt ∧ x.toInt ≤ 9223372036854775807 := by
  have h1 := Int64.le_toInt x
  have h2 := Int64.toInt_lt x
  omega
section Lv
variable {p : Program} {l : Launch} {e : Env} {R : Room} {s : State} {m : MethodId} {args : Array Value} {below : List Frame} {meth : Method} {c : Code} {T : State} {locs : List Loc} {cells slots : Nat} {Z : State} {h h' : Heap} {a b : Addr} {n : Nat} {C : String} {g : Nat → Value}
/-- getfield where the sheet says that the entry is resolved -/
theorem own_getR (X : Stand p l e R s m args below meth c T locs cells slots) (hx : p.tables.exec = Jvm.exec) (hZ : Z.Warmed39 s.vm) {a0 : Array Value} {own O nm d : String} {index : Nat} (hown : s.vm.findClass own = some m.cls) (w : (Cond.fieldRef own index O nm d).before a0 Z = true)
    (eT : T.heap = h) {v : Value} (F : Fld Z h a O nm d v) {f : JFrame} (hg : f.method = m) {rest : List Value} (hs : f.stack = .ref a :: rest) (hd : decode c.code f.pc = .ok (.getfield index, 3)) :
    ∃ T', Stand p l e R s m args below meth c T' locs cells slots ∧ T'.heap = h ∧ ∀ target, Steps p.tables e below (T'.setTop { f with pc := f.pc + 3, stack := v :: rest }) target → Steps p.tables e below (T.setTop f) target := by
  have hZT : Z.Warmed39 T.vm := wtrans (U := T) hZ X.warmed
  have w' := Cond.fieldRef_warmed39 hZT w
  obtain ⟨cell, cf, k, i, fd, h1, h2, h3, h4, -, -, h7⟩ := F
  obtain ⟨c', k', i', f', q1, q2⟩ := Cond.fieldRef_spec (s := Z.setVm T.vm) (cur := m.cls) (by show T.vm.findClass own = _; rw [X.warmed.alike.findClass]; exact hown) w'
  obtain ⟨k'', hi, -⟩ := State.fieldFound?_setVm (s := Z) hZT.alike h2
  cases hi.symm.trans q1
  exact ⟨T, X, eT, fun t kt => (X.getfieldR hx hg q2 h3 hs (by rw [eT]; exact h1) h4 h7 hd (Steps.refl _)).trans kt⟩
/-- an array of references of a class: what it holds is null or an object of that very class -/
def RAr (Z : State) (h : Heap) (a : Addr) (C : String) (n : Nat) (g : Nat → Value) : Prop := ∃ c : Cell, Arr Z h a c (.object C) ∧ Ovr Z c.cls C ∧ c.slots.size = n ∧ n < 2 ^ 31 ∧ ∀ i, i < n → c.slots[i]? = some (g i) ∧ (g i = .null ∨ ∃ x, g i = .ref x ∧ Exa Z h x C)
theorem RAr.lt (F : RAr Z h a C n g) : a < h.size := by obtain ⟨c, A, -⟩ := F; exact A.lt
theorem RAr.ext (F : RAr Z h a C n g) (E : Ext h h') : RAr Z h' a C n g := by
  obtain ⟨c, A, O, S, B, H⟩ := F
  exact ⟨c, A.ext E, O, S, B, fun i hi => ⟨(H i hi).1, (H i hi).2.imp id fun ⟨x, q, r⟩ => ⟨x, q, r.ext E⟩⟩⟩
theorem RAr.other {sl : Nat} {v : Value} (F : RAr Z h b C n g) (W : Wr h h' a sl v) (q : b ≠ a) : RAr Z h' b C n g := by
  obtain ⟨c, A, O, S, B, H⟩ := F
  exact ⟨c, A.other W q, O, S, B, fun i hi => ⟨(H i hi).1, (H i hi).2.imp id fun ⟨x, q, r⟩ => ⟨x, q, r.wr W⟩⟩⟩
theorem RAr.keep {ws : List Addr} (F : RAr Z h a C n g) (K : Keep h h' ws) (q : a ∉ ws) : RAr Z h' a C n g := by
  obtain ⟨c, A, O, S, B, H⟩ := F
  exact ⟨c, ⟨K.2.1 a c A.1 q, A.2⟩, O, S, B, fun i hi => ⟨(H i hi).1, (H i hi).2.imp id fun ⟨x, q, r⟩ => ⟨x, q, r.keep K⟩⟩⟩
theorem RAr.new {k : ClassId} {z : Int32} (A : Arr Z h a (newA k (.object C) z) (.object C)) (O : Ovr Z k C) (q : z.toInt = n) : RAr Z h a C n (fun _ => .null) := by
  obtain ⟨c, A', S, B, H⟩ := Ary.new (n := n) A q
  cases A.1.symm.trans A'.1
  exact ⟨_, A, O, S, B, fun i hi => ⟨H i hi, Or.inl rfl⟩⟩
theorem RAr.ary (F : RAr Z h a C n g) : Ary Z h a (.object C) n g := by obtain ⟨c, A, O, S, B, H⟩ := F; exact ⟨c, A, S, B, fun i hi => (H i hi).1⟩
theorem own_neR {a0 : Array Value} {k : Nat} {K : String} (F : Exa Z h a K) (wi : (Cond.instantiable K k).before a0 Z = true) (G : RAr Z h b C n g) : a ≠ b := own_neA F wi G.ary
theorem own_stR (X : Stand p l e R s m args below meth c T locs cells slots) (hx : p.tables.exec = Jvm.exec) (hZ : Z.Warmed39 s.vm) (eT : T.heap = h) (F : RAr Z h a C n g) {j : Int32} {v : Value} (hv : v = .null ∨ ∃ x, v = .ref x ∧ Exa Z h x C) (k : Nat) (q : j.toInt = k) (hk : k < n) {f : JFrame} (hg : f.method = m) {rest : List Value} (hs : f.stack = v :: .int j :: .ref a :: rest) (hd : decode c.code f.pc = .ok (.aastore, 1)) :
    ∃ T' h', Stand p l e R s m args below meth c T' (locs ++ [⟨a, k⟩]) cells slots ∧ T'.heap = h' ∧ Wr h h' a k v ∧ RAr Z h' a C n (up g k v) ∧ ∀ target, Steps p.tables e below (T'.setTop { f with pc := f.pc + 1, stack := rest }) target → Steps p.tables e below (T.setTop f) target := by
  obtain ⟨cl, A, O, S, B, H⟩ := F
  obtain ⟨hin, e1⟩ := own_idx S q hk
  have hSt : Sto Z h a v := by
    rcases hv with rfl | ⟨x, rfl, E⟩
    · exact Or.inl rfl
    · exact Sto.of A O (Ins.self E)
  have r := stR X hx hZ eT A hin rfl hSt hg hs hd
  rw [e1] at r
  obtain ⟨T', h', X', e', W, st⟩ := r
  refine ⟨T', h', X', e', W, ⟨_, A.same W, O, by rw [sz_set]; exact S, B, fun i hi => ?_⟩, st⟩
  by_cases qi : k = i
  · subst qi
    rw [up_same]
    refine ⟨by simp [Cell.setSlot, S, hi], ?_⟩
    exact hv.imp id fun ⟨x, q, r⟩ => ⟨x, q, r.wr W⟩
  · rw [up_ne _ _ (Ne.symm qi)]
    refine ⟨?_, (H i hi).2.imp id fun ⟨x, q, r⟩ => ⟨x, q, r.wr W⟩⟩
    rw [← (H i hi).1]; simp only [Cell.setSlot]; rw [Array.getElem?_setIfInBounds_ne qi]
/-- a stretch copied within one array -/
def own_sh {α : Type} (g : Nat → α) (sp dp k : Nat) : Nat → α := fun j => if dp ≤ j ∧ j < dp + k then g (sp + (j - dp)) else g j
theorem own_gd (g : Nat → Value) (dv : Value) {n j : Nat} (hj : j < n) : ((List.range n).map g).getD j dv = g j := by
  simp [List.getD_eq_getElem?_getD, List.getElem?_map, List.getElem?_range hj]
theorem own_shl (g : Nat → Value) (dv : Value) {n sp dp k j : Nat} (h1 : sp + k ≤ n) (h2 : dp + k ≤ n) (hj : j < n) :
    (((List.range n).map g).take dp ++ (List.range k).map (fun i => ((List.range n).map g).getD (sp + i) dv) ++ ((List.range n).map g).drop (dp + k)).getD j dv = own_sh g sp dp k j := by
  have ld : (((List.range n).map g).take dp).length = dp := by simp; omega
  have lk : ((List.range k).map (fun i => ((List.range n).map g).getD (sp + i) dv)).length = k := by simp
  rw [List.getD_eq_getElem?_getD]
  unfold own_sh
  by_cases c1 : j < dp
  · rw [if_neg (by omega), List.append_assoc, List.getElem?_append_left (by omega), List.getElem?_take, if_pos c1]
    simp [List.getElem?_map, List.getElem?_range hj]
  · by_cases c2 : j < dp + k
    · rw [if_pos ⟨by omega, c2⟩, List.append_assoc, List.getElem?_append_right (by omega), ld, List.getElem?_append_left (by omega)]
      rw [List.getElem?_map, List.getElem?_range (by omega)]
      show (some _).getD dv = _
      rw [Option.getD_some]
      exact own_gd g dv (by omega)
    · rw [if_neg (by omega), List.getElem?_append_right (by rw [List.length_append]; omega), List.length_append, ld, lk, List.getElem?_drop]
      rw [show dp + k + (j - (dp + k)) = j by omega]
      simp [List.getElem?_map, List.getElem?_range hj]
theorem own_clamp {z : Int32} (q : z.toInt = (n : Int)) : z.toNatClampNeg = n := by simp only [Int32.toNatClampNeg]; omega
theorem own_nn {z : Int32} (q : z.toInt = (n : Int)) : ¬ z < 0 := by rw [Int32.lt_iff_toInt_lt, q]; show ¬ (n : Int) < 0; omega
theorem own_StoL : ∀ (us : List Value), (∀ v ∈ us, Sto Z h a v) → StoL Z h a us
  | [], _ => trivial
  | v :: r, H => ⟨H v (List.mem_cons_self ..), own_StoL r fun w hw => H w (List.mem_cons_of_mem _ hw)⟩
/-- the library's arraycopy on an array told by a function -/
theorem own_cp0 (X : Stand p l e R s m args below meth c T locs cells slots) (hx : p.tables.exec = Jvm.exec) (hZ : Z.Warmed39 s.vm) {a0 : Array Value} {own : String} {index : Nat} (hown : s.vm.findClass own = some m.cls)
    (w1 : (Cond.methodLink own index Jvm.Stand.acN).before a0 Z = true) (w2 : (Cond.native Jvm.Stand.acN).before a0 Z = true) (w3 : (Cond.static Jvm.Stand.acN).before a0 Z = true) (w4 : (Cond.initialized "java/lang/System").before a0 Z = true) (eT : T.heap = h)
    {ty : FieldType} {cl : Cell} (A : Arr Z h a cl ty) (S : cl.slots.size = n) (hn : n < 2 ^ 31) (H : ∀ i, i < n → cl.slots[i]? = some (g i) ∧ fits ty (g i) = true) (hty : refKind ty = false ∨ (refKind ty = true ∧ ∀ i, i < n → Sto Z h a (g i)))
    {sp dp nn : Int32} (i j k : Nat) (hi : sp.toInt = i) (hj : dp.toInt = j) (hk : nn.toInt = k) (h4 : i + k ≤ n) (h5 : j + k ≤ n) {n0 : Nat} (N : Fr n0 locs) (ge : n0 ≤ a)
    {f : JFrame} (hg : f.method = m) (hsize : f.locals.size = c.maxLocals) {rest : List Value} (hs : f.stack = .int nn :: .int dp :: .ref a :: .int sp :: .ref a :: rest) (hd : decode c.code f.pc = .ok (.invokestatic index, 3))
    (hf : 1 ≤ R.frames) {W : Nat} (hW : 2 * f.monitorRoom + (rest.map fun v => v.category).sum ≤ W) (hlo : W + (nativeFrameWords "java/lang/System" "arraycopy" 5 + 11) ≤ R.locals) :
    ∃ T' h' L, Stand p l e R s m args below meth c T' L cells slots ∧ T'.heap = h' ∧ Fr n0 L ∧ Keep h h' [a] ∧ (∃ cl' : Cell, Arr Z h' a cl' ty ∧ cl'.cls = cl.cls ∧ cl'.slots.size = n ∧ ∀ x, x < n → cl'.slots[x]? = some (own_sh g i j k x)) ∧
      ∀ target, Steps p.tables e below (T'.setTop { f with pc := f.pc + 3, stack := rest }) target → Steps p.tables e below (T.setTop f) target := by
  have hz : (Int32.ofNat n).toInt = (n : Int) := Int32.toInt_ofNat_small hn
  have hzc := own_clamp hz
  have V : Arv Z h a cl.cls ty (Int32.ofNat n) ((List.range n).map g) (.int 0) := by
    refine ⟨cl, A, rfl, by rw [hzc]; exact S, own_nn hz, fun x hx' => ?_, fun x hx' => ?_⟩
    · rw [S] at hx'; rw [own_gd g _ hx']; exact (H x hx').1
    · rw [S] at hx'; rw [own_gd g _ hx']; exact (H x hx').2
  have hty' : (ty = ty ∧ refKind ty = false) ∨ (refKind ty = true ∧ refKind ty = true ∧ StoL Z h a ((List.range nn.toNatClampNeg).map fun x => ((List.range n).map g).getD (sp.toNatClampNeg + x) (.int 0))) := by
    rcases hty with q | ⟨q, r⟩
    · exact Or.inl ⟨rfl, q⟩
    · refine Or.inr ⟨q, q, own_StoL _ fun v hv => ?_⟩
      obtain ⟨x, hx1, rfl⟩ := List.mem_map.mp hv
      have hx2 := List.mem_range.mp hx1
      rw [own_clamp hk] at hx2
      rw [own_clamp hi, own_gd g _ (by omega)]
      exact r _ (by omega)
  obtain ⟨T', h', L, X', e', N', K, V', st⟩ := cpA X hx hZ hown w1 w2 w3 w4 eT V V hty' (own_nn hi) (own_nn hj) (own_nn hk) (by rw [own_clamp hi, own_clamp hk, hzc]; exact h4) (by rw [own_clamp hj, own_clamp hk, hzc]; exact h5) rfl (by rw [own_clamp hj, own_clamp hk]; simp; omega) N ge hg hsize hs hd hf hW hlo
  obtain ⟨cl', A', q1, S', -, H', -⟩ := V'
  rw [hzc] at S'
  refine ⟨T', h', L, X', e', N', K, ⟨cl', A', q1, S', fun x hx' => ?_⟩, st⟩
  have r := H' x (by rw [S']; exact hx')
  rw [own_clamp hi, own_clamp hj, own_clamp hk, own_shl g (.int 0) h4 h5 hx'] at r
  exact r
theorem own_shJ (g : Nat → Int64) (i j k : Nat) : own_sh (fun x => Value.long (g x)) i j k = fun x => Value.long (own_sh g i j k x) := by funext x; simp only [own_sh]; split <;> rfl
theorem own_cpJ (X : Stand p l e R s m args below meth c T locs cells slots) (hx : p.tables.exec = Jvm.exec) (hZ : Z.Warmed39 s.vm) {a0 : Array Value} {own : String} {index : Nat} (hown : s.vm.findClass own = some m.cls)
    (w1 : (Cond.methodLink own index Jvm.Stand.acN).before a0 Z = true) (w2 : (Cond.native Jvm.Stand.acN).before a0 Z = true) (w3 : (Cond.static Jvm.Stand.acN).before a0 Z = true) (w4 : (Cond.initialized "java/lang/System").before a0 Z = true) (eT : T.heap = h)
    {g : Nat → Int64} (F : AryJ Z h a n g) {sp dp nn : Int32} (i j k : Nat) (hi : sp.toInt = i) (hj : dp.toInt = j) (hk : nn.toInt = k) (h4 : i + k ≤ n) (h5 : j + k ≤ n) {n0 : Nat} (N : Fr n0 locs) (ge : n0 ≤ a)
    {f : JFrame} (hg : f.method = m) (hsize : f.locals.size = c.maxLocals) {rest : List Value} (hs : f.stack = .int nn :: .int dp :: .ref a :: .int sp :: .ref a :: rest) (hd : decode c.code f.pc = .ok (.invokestatic index, 3))
    (hf : 1 ≤ R.frames) {W : Nat} (hW : 2 * f.monitorRoom + (rest.map fun v => v.category).sum ≤ W) (hlo : W + (nativeFrameWords "java/lang/System" "arraycopy" 5 + 11) ≤ R.locals) :
    ∃ T' h' L, Stand p l e R s m args below meth c T' L cells slots ∧ T'.heap = h' ∧ Fr n0 L ∧ Keep h h' [a] ∧ AryJ Z h' a n (own_sh g i j k) ∧
      ∀ target, Steps p.tables e below (T'.setTop { f with pc := f.pc + 3, stack := rest }) target → Steps p.tables e below (T.setTop f) target := by
  obtain ⟨cl, A, S, B, H⟩ := F
  obtain ⟨T', h', L, X', e', N', K, ⟨cl', A', q1, S', H'⟩, st⟩ := own_cp0 X hx hZ hown w1 w2 w3 w4 eT A S B (fun x hx' => ⟨H x hx', rfl⟩) (Or.inl rfl) i j k hi hj hk h4 h5 N ge hg hsize hs hd hf hW hlo
  refine ⟨T', h', L, X', e', N', K, ⟨cl', A', S', B, fun x hx' => ?_⟩, st⟩
  have r := H' x hx'
  rw [own_shJ] at r; exact r
theorem own_cpR (X : Stand p l e R s m args below meth c T locs cells slots) (hx : p.tables.exec = Jvm.exec) (hZ : Z.Warmed39 s.vm) {a0 : Array Value} {own : String} {index : Nat} (hown : s.vm.findClass own = some m.cls)
    (w1 : (Cond.methodLink own index Jvm.Stand.acN).before a0 Z = true) (w2 : (Cond.native Jvm.Stand.acN).before a0 Z = true) (w3 : (Cond.static Jvm.Stand.acN).before a0 Z = true) (w4 : (Cond.initialized "java/lang/System").before a0 Z = true) (eT : T.heap = h)
    (F : RAr Z h a C n g) {sp dp nn : Int32} (i j k : Nat) (hi : sp.toInt = i) (hj : dp.toInt = j) (hk : nn.toInt = k) (h4 : i + k ≤ n) (h5 : j + k ≤ n) {n0 : Nat} (N : Fr n0 locs) (ge : n0 ≤ a)
    {f : JFrame} (hg : f.method = m) (hsize : f.locals.size = c.maxLocals) {rest : List Value} (hs : f.stack = .int nn :: .int dp :: .ref a :: .int sp :: .ref a :: rest) (hd : decode c.code f.pc = .ok (.invokestatic index, 3))
    (hf : 1 ≤ R.frames) {W : Nat} (hW : 2 * f.monitorRoom + (rest.map fun v => v.category).sum ≤ W) (hlo : W + (nativeFrameWords "java/lang/System" "arraycopy" 5 + 11) ≤ R.locals) :
    ∃ T' h' L, Stand p l e R s m args below meth c T' L cells slots ∧ T'.heap = h' ∧ Fr n0 L ∧ Keep h h' [a] ∧ RAr Z h' a C n (own_sh g i j k) ∧
      ∀ target, Steps p.tables e below (T'.setTop { f with pc := f.pc + 3, stack := rest }) target → Steps p.tables e below (T.setTop f) target := by
  obtain ⟨cl, A, O, S, B, H⟩ := F
  have hfit : ∀ x, x < n → fits (.object C) (g x) = true := fun x hx' => by
    rcases (H x hx').2 with q | ⟨y, q, -⟩ <;> rw [q] <;> rfl
  have hst : ∀ x, x < n → Sto Z h a (g x) := fun x hx' => by
    rcases (H x hx').2 with q | ⟨y, q, E⟩
    · rw [q]; exact Or.inl rfl
    · rw [q]; exact Sto.of A O (Ins.self E)
  obtain ⟨T', h', L, X', e', N', K, ⟨cl', A', q1, S', H'⟩, st⟩ := own_cp0 X hx hZ hown w1 w2 w3 w4 eT A S B (fun x hx' => ⟨(H x hx').1, hfit x hx'⟩) (Or.inr ⟨rfl, hst⟩) i j k hi hj hk h4 h5 N ge hg hsize hs hd hf hW hlo
  refine ⟨T', h', L, X', e', N', K, ⟨cl', A', by rw [q1]; exact O, S', B, fun x hx' => ⟨H' x hx', ?_⟩⟩, st⟩
  have key : ∀ y, y < n → g y = .null ∨ ∃ z, g y = .ref z ∧ Exa Z h' z C := fun y hy => (H y hy).2.imp id fun ⟨z, q, r⟩ => ⟨z, q, r.keep K⟩
  unfold own_sh
  split
  · exact key _ (by omega)
  · exact key _ hx'
end Lv
theorem own_cat {w : Value} (h : w.isRef = true) : w.category = 1 := by rcases ref_cases h with rfl | ⟨_, rfl⟩ <;> rfl
theorem own_nrw {w : Value} {C : String} (h : w.isRef = true) : narrow (.object C) w = w := by rcases ref_cases h with rfl | ⟨_, rfl⟩ <;> rfl
theorem own_frw {w : Value} {C : String} (h : w.isRef = true) : fits (.object C) w = true := by rcases ref_cases h with rfl | ⟨_, rfl⟩ <;> rfl
theorem RAr.ref {Z : State} {h : Heap} {a : Addr} {C : String} {n : Nat} {g : Nat → Value} (F : RAr Z h a C n g) {i : Nat} (hi : i < n) : (g i).isRef = true := by
  obtain ⟨c, A, O, S, B, H⟩ := F
  rcases (H i hi).2 with q | ⟨x, q, -⟩ <;> rw [q] <;> rfl
theorem own_ldR {p : Program} {l : Launch} {e : Env} {R : Room} {s : State} {m : MethodId} {args : Array Value} {below : List Frame} {meth : Method} {c : Code} {T : State} {locs : List Loc} {cells slots : Nat} {Z : State} {h : Heap} {a : Addr} {n : Nat} {C : String} {g : Nat → Value} (X : Stand p l e R s m args below meth c T locs cells slots) (hx : p.tables.exec = Jvm.exec) (hZ : Z.Warmed39 s.vm) (eT : T.heap = h) (F : RAr Z h a C n g) {j : Int32} (k : Nat) (q : j.toInt = k) (hk : k < n) {f : JFrame} (hg : f.method = m) {rest : List Value} (hs : f.stack = .int j :: .ref a :: rest) (hd : decode c.code f.pc = .ok (.aaload, 1)) :
    ∀ target, Steps p.tables e below (T.setTop { f with pc := f.pc + 1, stack := g k :: rest }) target → Steps p.tables e below (T.setTop f) target := by
  obtain ⟨cl, A, O, S, -, H⟩ := F
  obtain ⟨hin, e1⟩ := own_idx S q hk
  have hat : cl.slots[j.toNatClampNeg]? = some (g k) := by rw [e1]; exact (H k hk).1
  intro t kt
  exact X.aaload hx (by rw [eT]; exact A.1) (State.isArrayOf_alike hZ.alike A.2.1) rfl A.2.2 hin hat hg hs hd t kt
/-- what a search in n sorted places tells -/
def own_found (n : Nat) (gk : Nat → Int64) (ky : Int64) (r : Int32) : Prop := (∃ i : Nat, i < n ∧ r.toInt = (i : Int) ∧ gk i = ky) ∨ (∃ p : Nat, p ≤ n ∧ r.toInt = -(p : Int) - 1 ∧ (∀ i, i < p → gk i < ky) ∧ ∀ i, p ≤ i → i < n → ky < gk i)
def own_srt (n : Nat) (gk : Nat → Int64) : Prop := ∀ i j, i < j → j < n → gk i < gk j
theorem own_nf {n : Nat} {gk : Nat → Int64} {ky : Int64} (hs : own_srt n gk) (p : Nat) (hp : p ≤ n) (hlo : p = 0 ∨ gk (p - 1) < ky) (hhi : p = n ∨ ky < gk p) : (∀ i, i < p → gk i < ky) ∧ ∀ i, p ≤ i → i < n → ky < gk i := by
  constructor
  · intro i hi
    rcases hlo with q | q
    · omega
    · by_cases e : i = p - 1
      · rw [e]; exact q
      · exact Int64.lt_trans (hs i (p - 1) (by omega) (by omega)) q
  · intro i h1 h2
    rcases hhi with q | q
    · omega
    · by_cases e : i = p
      · rw [e]; exact q
      · exact Int64.lt_trans q (hs p i (by omega) h2)
theorem own_eqk {x y : Int64} (h1 : ¬ x < y) (h2 : ¬ y < x) : x = y := Int64.toInt_inj.mp (by have a1 := own_nltL h1; have a2 := own_nltL h2; omega)
theorem own_nek {x y : Int64} (h : x < y) : x ≠ y := fun q => by have a1 := own_ltL h; rw [q] at a1; omega
theorem own_abs {n : Nat} {gk : Nat → Int64} {ky : Int64} {r : Int32} (h : own_found n gk ky r) (hnew : ∀ i, i < n → gk i ≠ ky) : ∃ p : Nat, p ≤ n ∧ r.toInt = -(p : Int) - 1 ∧ (∀ i, i < p → gk i < ky) ∧ ∀ i, p ≤ i → i < n → ky < gk i := by
  rcases h with ⟨i, h1, -, h3⟩ | h
  · exact absurd h3 (hnew i h1)
  · exact h
theorem own_prs {n : Nat} {gk : Nat → Int64} {ky : Int64} {r : Int32} (h : own_found n gk ky r) (hin : ∃ i, i < n ∧ gk i = ky) : ∃ i : Nat, i < n ∧ r.toInt = (i : Int) ∧ gk i = ky := by
  rcases h with h | ⟨p, -, -, h1, h2⟩
  · exact h
  · obtain ⟨i, q1, q2⟩ := hin
    by_cases c : i < p
    · exact absurd q2 (own_nek (h1 i c))
    · exact absurd q2.symm (own_nek (h2 i (by omega) q1))
theorem own_pi {r pi : Int32} {p : Nat} (h : ((-r) - (1 : Int32)) = pi) (hr : r.toInt = -(p : Int) - 1) (hp : p ≤ 3) : pi.toInt = (p : Int) := by
  subst h
  rcases (by omega : p = 0 ∨ p = 1 ∨ p = 2 ∨ p = 3) with rfl | rfl | rfl | rfl
  · have e : r = -1 := Int32.toInt_inj.mp (by rw [hr]; rfl)
    subst e; decide
  · have e : r = -2 := Int32.toInt_inj.mp (by rw [hr]; rfl)
    subst e; decide
  · have e : r = -3 := Int32.toInt_inj.mp (by rw [hr]; rfl)
    subst e; decide
  · have e : r = -4 := Int32.toInt_inj.mp (by rw [hr]; rfl)
    subst e; decide
theorem own_p1 {pi : Int32} {p : Nat} (h : pi.toInt = (p : Int)) (hp : p ≤ 64) : (pi + (1 : Int32)).toInt = ((p + 1 : Nat) : Int) := by
  have h1 := c_iadd pi 1
  have h2 := own_rng32 (pi + 1)
  have h3 : (1 : Int32).toInt = 1 := rfl
  omega
theorem own_mn {pi z : Int32} {p n : Nat} (hz : z.toInt = (n : Int)) (h : pi.toInt = (p : Int)) (hp : p ≤ n) (hn : n ≤ 64) : (z - pi).toInt = ((n - p : Nat) : Int) := by
  have h1 := c_isub z pi
  have h2 := own_rng32 (z - pi)
  omega
def own_In (n : Nat) (gk : Nat → Int64) (gl : Nat → Value) (P : Int64 → Value → Prop) : Prop := own_srt n gk ∧ ∀ k v, P k v ↔ ∃ j, j < n ∧ gk j = k ∧ gl j = v
theorem own_In.congr {n : Nat} {gk : Nat → Int64} {gl : Nat → Value} {P P' : Int64 → Value → Prop} (h : own_In n gk gl P) (q : ∀ k v, P k v ↔ P' k v) : own_In n gk gl P' := ⟨h.1, fun k v => (q k v).symm.trans (h.2 k v)⟩
theorem own_insv {α : Type} (g : Nat → α) {p n j : Nat} (x : α) (hj : j < n + 1) (hp : p ≤ n) : up (own_sh g p (p + 1) (n - p)) p x j = if j < p then g j else if j = p then x else g (j - 1) := by
  unfold up own_sh
  by_cases c1 : j = p
  · subst c1; simp
  · rw [if_neg c1]
    by_cases c2 : j < p
    · rw [if_neg (by omega), if_pos c2]
    · rw [if_pos (by omega), if_neg c2, if_neg c1]; congr 1; omega
theorem own_remv {α : Type} (g : Nat → α) {i n j : Nat} (hj : j < n) (hi : i ≤ n) : own_sh g (i + 1) i (n - i) j = if j < i then g j else g (j + 1) := by
  unfold own_sh
  by_cases c2 : j < i
  · rw [if_neg (by omega), if_pos c2]
  · rw [if_pos (by omega), if_neg c2]; congr 1; omega
theorem own_put {n : Nat} {gk : Nat → Int64} {gl : Nat → Value} {P : Int64 → Value → Prop} (h : own_In n gk gl P) {p : Nat} {ky : Int64} (hp : p ≤ n) (hlo : ∀ i, i < p → gk i < ky) (hhi : ∀ i, p ≤ i → i < n → ky < gk i) (lv : Value) :
    own_In (n + 1) (up (own_sh gk p (p + 1) (n - p)) p ky) (up (own_sh gl p (p + 1) (n - p)) p lv) (fun k v => P k v ∨ (k = ky ∧ v = lv)) := by
  refine ⟨fun i j hij hj => ?_, fun k v => ⟨?_, ?_⟩⟩
  · rw [own_insv gk ky (by omega) hp, own_insv gk ky hj hp]
    by_cases a1 : i < p
    · rw [if_pos a1]
      by_cases a2 : j < p
      · rw [if_pos a2]; exact h.1 i j hij (by omega)
      · rw [if_neg a2]
        by_cases a3 : j = p
        · rw [if_pos a3]; exact hlo i a1
        · rw [if_neg a3]; exact h.1 i (j - 1) (by omega) (by omega)
    · rw [if_neg a1, if_neg (by omega : ¬ j < p), if_neg (by omega : ¬ j = p)]
      by_cases a2 : i = p
      · rw [if_pos a2]; exact hhi (j - 1) (by omega) (by omega)
      · rw [if_neg a2]; exact h.1 (i - 1) (j - 1) (by omega) (by omega)
  · rintro (q | ⟨rfl, rfl⟩)
    · obtain ⟨j, h1, h2, h3⟩ := (h.2 k v).mp q
      by_cases c : j < p
      · exact ⟨j, by omega, by rw [own_insv gk ky (by omega) hp, if_pos c]; exact h2, by rw [own_insv gl lv (by omega) hp, if_pos c]; exact h3⟩
      · refine ⟨j + 1, by omega, ?_, ?_⟩
        · rw [own_insv gk ky (by omega) hp, if_neg (by omega), if_neg (by omega)]; exact h2
        · rw [own_insv gl lv (by omega) hp, if_neg (by omega), if_neg (by omega)]; exact h3
    · refine ⟨p, by omega, ?_, ?_⟩
      · rw [own_insv gk k (by omega) hp, if_neg (by omega), if_pos rfl]
      · rw [own_insv gl v (by omega) hp, if_neg (by omega), if_pos rfl]
  · rintro ⟨j, hj, h2, h3⟩
    rw [own_insv gk ky hj hp] at h2
    rw [own_insv gl lv hj hp] at h3
    by_cases c : j < p
    · rw [if_pos c] at h2 h3
      exact Or.inl ((h.2 k v).mpr ⟨j, by omega, h2, h3⟩)
    · rw [if_neg c] at h2 h3
      by_cases c2 : j = p
      · rw [if_pos c2] at h2 h3; exact Or.inr ⟨h2.symm, h3.symm⟩
      · rw [if_neg c2] at h2 h3; exact Or.inl ((h.2 k v).mpr ⟨j - 1, by omega, h2, h3⟩)
theorem own_rem {n : Nat} {gk : Nat → Int64} {gl : Nat → Value} {P : Int64 → Value → Prop} (h : own_In (n + 1) gk gl P) {i : Nat} {ky : Int64} (hi : i < n + 1) (hk : gk i = ky) :
    own_In n (own_sh gk (i + 1) i (n - i)) (up (own_sh gl (i + 1) i (n - i)) n .null) (fun k v => P k v ∧ k ≠ ky) := by
  have inj : ∀ x y, x < n + 1 → y < n + 1 → gk x = gk y → x = y := fun x y hx hy q => by
    rcases Nat.lt_trichotomy x y with c | c | c
    · exact absurd q (own_nek (h.1 x y c hy))
    · exact c
    · exact absurd q.symm (own_nek (h.1 y x c hx))
  refine ⟨fun x y hxy hy => ?_, fun k v => ⟨?_, ?_⟩⟩
  · rw [own_remv gk (by omega) (by omega), own_remv gk hy (by omega)]
    split <;> split <;> exact h.1 _ _ (by omega) (by omega)
  · rintro ⟨q, hne⟩
    obtain ⟨j, h1, h2, h3⟩ := (h.2 k v).mp q
    have hji : j ≠ i := fun e => hne (by rw [← h2, e]; exact hk)
    by_cases c : j < i
    · exact ⟨j, by omega, by rw [own_remv gk (by omega) (by omega), if_pos c]; exact h2, by rw [up_ne _ _ (by omega), own_remv gl (by omega) (by omega), if_pos c]; exact h3⟩
    · refine ⟨j - 1, by omega, ?_, ?_⟩
      · rw [own_remv gk (by omega) (by omega), if_neg (by omega), show j - 1 + 1 = j by omega]; exact h2
      · rw [up_ne _ _ (by omega), own_remv gl (by omega) (by omega), if_neg (by omega), show j - 1 + 1 = j by omega]; exact h3
  · rintro ⟨j, hj, h2, h3⟩
    rw [own_remv gk hj (by omega)] at h2
    rw [up_ne _ _ (by omega), own_remv gl hj (by omega)] at h3
    by_cases c : j < i
    · rw [if_pos c] at h2 h3
      exact ⟨(h.2 k v).mpr ⟨j, by omega, h2, h3⟩, fun e => absurd (inj j i (by omega) hi (by rw [h2, hk, e])) (by omega)⟩
    · rw [if_neg c] at h2 h3
      exact ⟨(h.2 k v).mpr ⟨j + 1, by omega, h2, h3⟩, fun e => absurd (inj (j + 1) i (by omega) hi (by rw [h2, hk, e])) (by omega)⟩
def own_P (pa pb pc : Bool) (a b c : Int64) (la lb lc : Addr) (k : Int64) (v : Value) : Prop := (pa = true ∧ k = a ∧ v = .ref la) ∨ (pb = true ∧ k = b ∧ v = .ref lb) ∨ (pc = true ∧ k = c ∧ v = .ref lc)
def own_D (pa pb pc : Bool) (a b c : Int64) : Prop := (pa = true → pb = true → a ≠ b) ∧ (pa = true → pc = true → a ≠ c) ∧ (pb = true → pc = true → b ≠ c)
def own_I (n : Nat) (gk : Nat → Int64) (gl : Nat → Value) (pa pb pc : Bool) (a b c : Int64) (la lb lc : Addr) : Prop := own_In n gk gl (own_P pa pb pc a b c la lb lc) ∧ own_D pa pb pc a b c
section
variable {n : Nat} {gk : Nat → Int64} {gl : Nat → Value} {pa pb pc : Bool} {a b c : Int64} {la lb lc : Addr}
theorem own_I.nil : own_I 0 gk gl false false false a b c la lb lc :=
  ⟨⟨fun i j _ h => absurd h (by omega), fun k v => ⟨fun h => by rcases h with h | h | h <;> exact absurd h.1 (by decide), fun ⟨j, h, _⟩ => absurd h (by omega)⟩⟩, fun h => absurd h (by decide), fun h => absurd h (by decide), fun h => absurd h (by decide)⟩
theorem own_I.new0 {ky : Int64} : ∀ i, i < 0 → gk i ≠ ky := fun i h => absurd h (by omega)
theorem own_I.srt (h : own_I n gk gl pa pb pc a b c la lb lc) : own_srt n gk := h.1.1
theorem own_I.newB (h : own_I n gk gl pa false pc a b c la lb lc) (h1 : pa = true → a ≠ b) (h2 : pc = true → b ≠ c) : ∀ i, i < n → gk i ≠ b := fun i hi q => by
  rcases (h.1.2 (gk i) (gl i)).mpr ⟨i, hi, rfl, rfl⟩ with r | r | r
  · exact h1 r.1 (r.2.1.symm.trans q)
  · exact absurd r.1 (by decide)
  · exact h2 r.1 (q.symm.trans r.2.1)
theorem own_I.newC (h : own_I n gk gl pa pb false a b c la lb lc) (h1 : pa = true → a ≠ c) (h2 : pb = true → b ≠ c) : ∀ i, i < n → gk i ≠ c := fun i hi q => by
  rcases (h.1.2 (gk i) (gl i)).mpr ⟨i, hi, rfl, rfl⟩ with r | r | r
  · exact h1 r.1 (r.2.1.symm.trans q)
  · exact h2 r.1 (r.2.1.symm.trans q)
  · exact absurd r.1 (by decide)
theorem own_I.inA (h : own_I n gk gl true pb pc a b c la lb lc) : ∃ i, i < n ∧ gk i = a := by
  obtain ⟨j, h1, h2, -⟩ := (h.1.2 a (.ref la)).mp (Or.inl ⟨rfl, rfl, rfl⟩); exact ⟨j, h1, h2⟩
theorem own_I.inB (h : own_I n gk gl pa true pc a b c la lb lc) : ∃ i, i < n ∧ gk i = b := by
  obtain ⟨j, h1, h2, -⟩ := (h.1.2 b (.ref lb)).mp (Or.inr (Or.inl ⟨rfl, rfl, rfl⟩)); exact ⟨j, h1, h2⟩
theorem own_I.inC (h : own_I n gk gl pa pb true a b c la lb lc) : ∃ i, i < n ∧ gk i = c := by
  obtain ⟨j, h1, h2, -⟩ := (h.1.2 c (.ref lc)).mp (Or.inr (Or.inr ⟨rfl, rfl, rfl⟩)); exact ⟨j, h1, h2⟩
theorem own_I.remA (h : own_I (n + 1) gk gl true pb pc a b c la lb lc) {i : Nat} (hi : i < n + 1) (hk : gk i = a) : own_I n (own_sh gk (i + 1) i (n - i)) (up (own_sh gl (i + 1) i (n - i)) n .null) false pb pc a b c la lb lc := by
  refine ⟨(own_rem h.1 hi hk).congr fun k v => ⟨?_, ?_⟩, fun q => absurd q (by decide), fun q => absurd q (by decide), h.2.2.2⟩
  · rintro ⟨r | r | r, ne⟩
    · exact absurd r.2.1 ne
    · exact Or.inr (Or.inl r)
    · exact Or.inr (Or.inr r)
  · rintro (r | r | r)
    · exact absurd r.1 (by decide)
    · exact ⟨Or.inr (Or.inl r), fun q => h.2.1 rfl r.1 (q.symm.trans r.2.1)⟩
    · exact ⟨Or.inr (Or.inr r), fun q => h.2.2.1 rfl r.1 (q.symm.trans r.2.1)⟩
theorem own_I.remB (h : own_I (n + 1) gk gl pa true pc a b c la lb lc) {i : Nat} (hi : i < n + 1) (hk : gk i = b) : own_I n (own_sh gk (i + 1) i (n - i)) (up (own_sh gl (i + 1) i (n - i)) n .null) pa false pc a b c la lb lc := by
  refine ⟨(own_rem h.1 hi hk).congr fun k v => ⟨?_, ?_⟩, fun _ q => absurd q (by decide), h.2.2.1, fun q => absurd q (by decide)⟩
  · rintro ⟨r | r | r, ne⟩
    · exact Or.inl r
    · exact absurd r.2.1 ne
    · exact Or.inr (Or.inr r)
  · rintro (r | r | r)
    · exact ⟨Or.inl r, fun q => h.2.1 r.1 rfl (r.2.1.symm.trans q)⟩
    · exact absurd r.1 (by decide)
    · exact ⟨Or.inr (Or.inr r), fun q => h.2.2.2 rfl r.1 (q.symm.trans r.2.1)⟩
theorem own_I.remC (h : own_I (n + 1) gk gl pa pb true a b c la lb lc) {i : Nat} (hi : i < n + 1) (hk : gk i = c) : own_I n (own_sh gk (i + 1) i (n - i)) (up (own_sh gl (i + 1) i (n - i)) n .null) pa pb false a b c la lb lc := by
  refine ⟨(own_rem h.1 hi hk).congr fun k v => ⟨?_, ?_⟩, h.2.1, fun _ q => absurd q (by decide), fun _ q => absurd q (by decide)⟩
  · rintro ⟨r | r | r, ne⟩
    · exact Or.inl r
    · exact Or.inr (Or.inl r)
    · exact absurd r.2.1 ne
  · rintro (r | r | r)
    · exact ⟨Or.inl r, fun q => h.2.2.1 r.1 rfl (r.2.1.symm.trans q)⟩
    · exact ⟨Or.inr (Or.inl r), fun q => h.2.2.2 r.1 rfl (r.2.1.symm.trans q)⟩
    · exact absurd r.1 (by decide)
theorem own_I.putA (h : own_I n gk gl false pb pc a b c la lb lc) (h1 : pb = true → a ≠ b) (h2 : pc = true → a ≠ c) {p : Nat} (hp : p ≤ n) (hlo : ∀ i, i < p → gk i < a) (hhi : ∀ i, p ≤ i → i < n → a < gk i) :
    own_I (n + 1) (up (own_sh gk p (p + 1) (n - p)) p a) (up (own_sh gl p (p + 1) (n - p)) p (.ref la)) true pb pc a b c la lb lc := by
  refine ⟨(own_put h.1 hp hlo hhi (.ref la)).congr fun k v => ⟨?_, ?_⟩, fun _ => h1, fun _ => h2, h.2.2.2⟩
  · rintro ((r | r | r) | r)
    · exact absurd r.1 (by decide)
    · exact Or.inr (Or.inl r)
    · exact Or.inr (Or.inr r)
    · exact Or.inl ⟨rfl, r⟩
  · rintro (r | r | r)
    · exact Or.inr r.2
    · exact Or.inl (Or.inr (Or.inl r))
    · exact Or.inl (Or.inr (Or.inr r))
theorem own_I.putB (h : own_I n gk gl pa false pc a b c la lb lc) (h1 : pa = true → a ≠ b) (h2 : pc = true → b ≠ c) {p : Nat} (hp : p ≤ n) (hlo : ∀ i, i < p → gk i < b) (hhi : ∀ i, p ≤ i → i < n → b < gk i) :
    own_I (n + 1) (up (own_sh gk p (p + 1) (n - p)) p b) (up (own_sh gl p (p + 1) (n - p)) p (.ref lb)) pa true pc a b c la lb lc := by
  refine ⟨(own_put h.1 hp hlo hhi (.ref lb)).congr fun k v => ⟨?_, ?_⟩, fun q _ => h1 q, h.2.2.1, fun _ => h2⟩
  · rintro ((r | r | r) | r)
    · exact Or.inl r
    · exact absurd r.1 (by decide)
    · exact Or.inr (Or.inr r)
    · exact Or.inr (Or.inl ⟨rfl, r⟩)
  · rintro (r | r | r)
    · exact Or.inl (Or.inl r)
    · exact Or.inr r.2
    · exact Or.inl (Or.inr (Or.inr r))
theorem own_I.putC (h : own_I n gk gl pa pb false a b c la lb lc) (h1 : pa = true → a ≠ c) (h2 : pb = true → b ≠ c) {p : Nat} (hp : p ≤ n) (hlo : ∀ i, i < p → gk i < c) (hhi : ∀ i, p ≤ i → i < n → c < gk i) :
    own_I (n + 1) (up (own_sh gk p (p + 1) (n - p)) p c) (up (own_sh gl p (p + 1) (n - p)) p (.ref lc)) pa pb true a b c la lb lc := by
  refine ⟨(own_put h.1 hp hlo hhi (.ref lc)).congr fun k v => ⟨?_, ?_⟩, h.2.1, fun q _ => h1 q, fun q _ => h2 q⟩
  · rintro ((r | r | r) | r)
    · exact Or.inl r
    · exact Or.inr (Or.inl r)
    · exact absurd r.1 (by decide)
    · exact Or.inr (Or.inr ⟨rfl, r⟩)
  · rintro (r | r | r)
    · exact Or.inl (Or.inl r)
    · exact Or.inl (Or.inr (Or.inl r))
    · exact Or.inr r.2
def own_G (P : Int64 → Value → Prop) (v : Value) : Prop := ∃ km, P km v ∧ ∀ k w, P k w → k.toInt ≤ km.toInt
theorem own_best {P : Int64 → Value → Prop} {v : Value} (h : own_In (n + 1) gk gl P) (g : own_G P v) : gl n = v := by
  obtain ⟨km, g1, g2⟩ := g
  obtain ⟨j, j1, j2, j3⟩ := (h.2 km v).mp g1
  have q := g2 (gk n) (gl n) ((h.2 _ _).mpr ⟨n, by omega, rfl, rfl⟩)
  by_cases e : j = n
  · rw [← j3, e]
  · have r := own_ltL (h.1 j n (by omega) (by omega))
    rw [j2] at r; omega
theorem own_GP {km : Int64} {v : Value} (h : own_P pa pb pc a b c la lb lc km v) (h1 : pa = true → a.toInt ≤ km.toInt) (h2 : pb = true → b.toInt ≤ km.toInt) (h3 : pc = true → c.toInt ≤ km.toInt) : own_G (own_P pa pb pc a b c la lb lc) v := by
  refine ⟨km, h, fun k w r => ?_⟩
  rcases r with r | r | r
  · rw [r.2.1]; exact h1 r.1
  · rw [r.2.1]; exact h2 r.1
  · rw [r.2.1]; exact h3 r.1
end
section
variable {z : Int32} {n m : Nat}
theorem own_z1 (hz : z.toInt = (n : Int)) : ¬ z < (0 : Int32) := fun q => by have a := own_lt q; have b : (0 : Int32).toInt = 0 := rfl; omega
theorem own_z2 (hz : z.toInt = (n : Int)) (hn : n ≤ 3) : ¬ (65 : Int32) < z := fun q => by have a := own_lt q; have b : (65 : Int32).toInt = 65 := rfl; omega
theorem own_z64 (hz : z.toInt = (n : Int)) (hn : n ≤ 3) : ¬ (64 : Int32) < (z + (1 : Int32)) := fun q => by have a := own_lt q; have b : (64 : Int32).toInt = 64 := rfl; have c := own_p1 hz (by omega); omega
theorem own_zlt (hz : z.toInt = (n : Int)) (hn : n ≤ 3) : z < (64 : Int32) := by rw [Int32.lt_iff_toInt_lt]; have b : (64 : Int32).toInt = 64 := rfl; omega
theorem own_zne (hz : z.toInt = (n : Int)) (h1 : 1 ≤ n) : ¬ z = (0 : Int32) := fun q => by have a := own_eq q; have b : (0 : Int32).toInt = 0 := rfl; omega
theorem own_zm1 (hz : z.toInt = (n : Int)) (h1 : 1 ≤ n) (hn : n ≤ 3) : (z - (1 : Int32)).toInt = ((n - 1 : Nat) : Int) := own_mn hz rfl h1 (by omega)
theorem own_zm (hz : z.toInt = ((m + 1 : Nat) : Int)) (hm : m ≤ 2) : (z - (1 : Int32)).toInt = (m : Int) := own_mn (p := 1) hz rfl (by omega) (by omega)
theorem own_zmne (hz : z.toInt = ((m + 1 : Nat) : Int)) (h1 : 1 ≤ m) (hm : m ≤ 2) : ¬ (z - (1 : Int32)) = (0 : Int32) := own_zne (own_zm hz hm) h1
theorem own_z1lt (hz : z.toInt = ((m + 1 : Nat) : Int)) (h1 : 1 ≤ m) : (1 : Int32) < z := by rw [Int32.lt_iff_toInt_lt]; have b : (1 : Int32).toInt = 1 := rfl; omega
theorem own_znz (hz : z.toInt = ((m + 1 : Nat) : Int)) : ¬ z = (0 : Int32) := own_zne hz (by omega)
theorem own_n3 (hz : z.toInt = (n : Int)) (h1 : 1 ≤ n) (h3 : n ≤ 3) : (n = 1 ∧ z = 1) ∨ (n = 2 ∧ z = 2) ∨ (n = 3 ∧ z = 3) := by
  rcases (by omega : n = 1 ∨ n = 2 ∨ n = 3) with rfl | rfl | rfl
  · exact Or.inl ⟨rfl, Int32.toInt_inj.mp hz⟩
  · exact Or.inr (Or.inl ⟨rfl, Int32.toInt_inj.mp hz⟩)
  · exact Or.inr (Or.inr ⟨rfl, Int32.toInt_inj.mp hz⟩)
end
def own_X (ba bb bc : Bool) (a b c : Int64) (la lb lc : Addr) (v : Value) : Prop := (ba = false ∧ bb = false ∧ bc = false ∧ v = .null) ∨ own_G (own_P ba bb bc a b c la lb lc) v
theorem own_X0 {a b c : Int64} {la lb lc : Addr} {v : Value} (h : own_X false false false a b c la lb lc v) : Value.null = v := by
  rcases h with h | ⟨km, h, -⟩
  · exact h.2.2.2.symm
  · rcases h with h | h | h <;> exact absurd h.1 (by decide)
theorem own_X1 {n : Nat} {gk : Nat → Int64} {gl : Nat → Value} {ba bb bc : Bool} {a b c : Int64} {la lb lc : Addr} {v : Value} (i : own_I (n + 1) gk gl ba bb bc a b c la lb lc) (h : own_X ba bb bc a b c la lb lc v) (q : ¬ (ba = false ∧ bb = false ∧ bc = false)) : gl n = v := by
  rcases h with h | h
  · exact absurd ⟨h.1, h.2.1, h.2.2.1⟩ q
  · exact own_best i.1 h
theorem own_w1 {w : Value} (h : w.isRef = true) : 2 * 0 + ([w].map fun v => v.category).sum ≤ 1 := by rcases ref_cases h with rfl | ⟨_, rfl⟩ <;> exact Nat.le_of_eq rfl
theorem d5_0 : decode prog_42_method_1_code 0 = .ok (.aload_n 0, 1) := by decide +kernel
theorem d5_1 : decode prog_42_method_1_code 1 = .ok (.invokespecial 1, 3) := by decide +kernel
theorem d5_4 : decode prog_42_method_1_code 4 = .ok (.aload_n 0, 1) := by decide +kernel
theorem d5_5 : decode prog_42_method_1_code 5 = .ok (.aload_n 1, 1) := by decide +kernel
theorem d5_6 : decode prog_42_method_1_code 6 = .ok (.putfield 7, 3) := by decide +kernel
theorem d5_9 : decode prog_42_method_1_code 9 = .ok (.aload_n 0, 1) := by decide +kernel
theorem d5_10 : decode prog_42_method_1_code 10 = .ok (.aload_n 2, 1) := by decide +kernel
theorem d5_11 : decode prog_42_method_1_code 11 = .ok (.putfield 13, 3) := by decide +kernel
theorem d5_14 : decode prog_42_method_1_code 14 = .ok (.return_, 1) := by decide +kernel
theorem pn_5 : plainName "com/example/matchstone/matchstone/PriceLevel" = true := by first | (simp [plainName, overriddenIn]; done) | decide +kernel
theorem ef_5 (m : MethodId) (x0 : Addr) : entryFrame m #[(.ref x0), .null, .null] 3 = mkF m 0 #[.val (.ref x0), .val .null, .val .null] [] := by first | (simp [entryFrame, mkF, argsToLocals, Value.category]; done) | rfl
def Q5 (Z : State) (pl : Addr) (h0 : Heap) (n0 : Nat) (v : Option Value) (h : Heap) (L : List Loc) : Prop := v = none ∧ Fr n0 L ∧ Keep h0 h [pl] ∧ Exa Z h pl "com/example/matchstone/matchstone/PriceLevel"
set_option maxRecDepth 65536 in
set_option maxHeartbeats 40000000 in
theorem rm5 (l : Launch) (Z : State) (a0 : Array Value) (hw : ∀ d ∈ tables_1, d.before a0 Z = true) (ws : List Jvm.Cond) (pl : Addr) (h0 : Heap) (n0 : Nat) (Z0 : n0 ≤ h0.size) (F_price_pl : Fld Z h0 pl "com/example/matchstone/matchstone/PriceLevel" "price" "Lcom/example/matchstone/matchstone/Price;" .null) (F_bookSide_pl : Fld Z h0 pl "com/example/matchstone/matchstone/PriceLevel" "bookSide" "Lcom/example/matchstone/matchstone/BookSide;" .null) (E_pl : Exa Z h0 pl "com/example/matchstone/matchstone/PriceLevel") (g_pl : n0 ≤ pl) :
    MetFree l (⟨"com/example/matchstone/matchstone/PriceLevel", "<init>", "(Lcom/example/matchstone/matchstone/Price;Lcom/example/matchstone/matchstone/BookSide;)V"⟩ : MethodName) (head1 (Jvm.Cond.code (⟨"com/example/matchstone/matchstone/PriceLevel", "<init>", "(Lcom/example/matchstone/matchstone/Price;Lcom/example/matchstone/matchstone/BookSide;)V"⟩ : MethodName) prog_42_method_1_code 3 none :: ws) ({ frames := 1, cells := 0, slots := 0, locals := 12 } : Room)) (fun a U => a = #[(.ref pl), .null, .null] ∧ Z.Warmed39 U.vm ∧ U.heap = h0) (fun _ _ _ _ _ => True) (fun _ U o U' => ∃ v L, o = .returned v ∧ Q5 Z pl h0 n0 v U'.heap L ∧ FrameEnd U o U' L ({ frames := 1, cells := 0, slots := 0, locals := 12 } : Room).cells ({ frames := 1, cells := 0, slots := 0, locals := 12 } : Room).slots) := by
  refine MetFree.of_bodySF (plainFor_of_name pn_5) hisR ?_
  intro p e s m args below meth c s₁ Bd hml0 hP hK
  obtain ⟨rfl, hZ, hh⟩ := hP
  have hx := Bd.exec
  have hby := Bd.bytes
  have hml : c.maxLocals = 3 := hml0
  have hown : s.vm.findClass "com/example/matchstone/matchstone/PriceLevel" = some m.cls := findClass_of_methodNamed Bd.named
  have hnm := (name_of_methodNamed Bd.named Bd.method).1
  have X0 : Stand p l e ({ frames := 1, cells := 0, slots := 0, locals := 12 } : Room) s m #[(.ref pl), .null, .null] below meth c s₁ [] 0 0 := Stand.of_body Bd
  have e0 : s₁.heap = h0 := by rw [← hh, Bd.state]; rfl
  have N0 := Fr.nil n0
  have K0 := Keep.refl h0 ([pl] : List Addr)
  show Go p e below s (Q5 Z pl h0 n0) ({ frames := 1, cells := 0, slots := 0, locals := 12 } : Room).cells ({ frames := 1, cells := 0, slots := 0, locals := 12 } : Room).slots (s₁.setTop (entryFrame m #[(.ref pl), .null, .null] 3))
  rw [ef_5]
  show Go _ _ _ _ _ _ _ (s₁.setTop (mkF m 0 #[.val (.ref pl), .val .null, .val .null] []))
  refine Go.step (fun t k => XS.aloadN X0.here hx rfl (hb hby d5_0) rfl rfl k) ?_
  show Go _ _ _ _ _ _ _ (s₁.setTop (mkF m 1 #[.val (.ref pl), .val .null, .val .null] [(.ref pl)]))
  obtain ⟨T1, X1, e1, st1⟩ := initO X0 hx hZ hown (hw _ (List.mem_of_getElem? (i := 38) rfl)) (hw _ (List.mem_of_getElem? (i := 7) rfl)) (hw _ (List.mem_of_getElem? (i := 8) rfl)) e0 (g := (mkF m 1 #[.val (.ref pl), .val .null, .val .null] [(.ref pl)])) rfl (by rw [hml]; rfl) rfl (hb hby d5_1) (by decide) (W := 0) (by show 2 * 0 + _ ≤ _; exact Nat.le_of_eq rfl) (by decide)
  refine Go.step st1 ?_
  show Go _ _ _ _ _ _ _ (T1.setTop (mkF m 4 #[.val (.ref pl), .val .null, .val .null] []))
  refine Go.step (fun t k => XS.aloadN X1.here hx rfl (hb hby d5_4) rfl rfl (XS.aloadN X1.here hx rfl (hb hby d5_5) rfl rfl k)) ?_
  show Go _ _ _ _ _ _ _ (T1.setTop (mkF m 6 #[.val (.ref pl), .val .null, .val .null] [.null, (.ref pl)]))
  obtain ⟨T2, h2, X2, e2, W2, st2⟩ := putF X1 hx hZ hown (host := "") (Or.inl (hw _ (List.mem_of_getElem? (i := 39) rfl))) Via.refl e1 F_price_pl E_pl (Or.inr ⟨(hw _ (List.mem_of_getElem? (i := 40) rfl)), rfl, hnm⟩) (hw _ (List.mem_of_getElem? (i := 33) rfl)) (ty := (.object "com/example/matchstone/matchstone/Price")) (by decide) rfl rfl (g := (mkF m 6 #[.val (.ref pl), .val .null, .val .null] [.null, (.ref pl)])) rfl rfl (hb hby d5_6)
  replace F_bookSide_pl := F_bookSide_pl.other W2 (Or.inr (slot_ne (Or.inr (hw _ (List.mem_of_getElem? (i := 42) rfl))) (Or.inr (hw _ (List.mem_of_getElem? (i := 40) rfl))) (by decide) (t := (.object "com/example/matchstone/matchstone/BookSide")) (t' := (.object "com/example/matchstone/matchstone/Price")) (by decide) (by decide)))
  replace E_pl := E_pl.wr W2
  have Z2 := Nat.le_trans Z0 (Keep.of_wr W2).1
  have N2 := Fr.snoc X2 N0 g_pl
  have K2 := K0.wr W2 (Or.inl (List.mem_of_getElem? (i := 0) rfl))
  replace F_price_pl := F_price_pl.same W2
  refine Go.step st2 ?_
  show Go _ _ _ _ _ _ _ (T2.setTop (mkF m 9 #[.val (.ref pl), .val .null, .val .null] []))
  refine Go.step (fun t k => XS.aloadN X2.here hx rfl (hb hby d5_9) rfl rfl (XS.aloadN X2.here hx rfl (hb hby d5_10) rfl rfl k)) ?_
  show Go _ _ _ _ _ _ _ (T2.setTop (mkF m 11 #[.val (.ref pl), .val .null, .val .null] [.null, (.ref pl)]))
  obtain ⟨T3, h3, X3, e3, W3, st3⟩ := putF X2 hx hZ hown (host := "") (Or.inl (hw _ (List.mem_of_getElem? (i := 41) rfl))) Via.refl e2 F_bookSide_pl E_pl (Or.inr ⟨(hw _ (List.mem_of_getElem? (i := 42) rfl)), rfl, hnm⟩) (hw _ (List.mem_of_getElem? (i := 33) rfl)) (ty := (.object "com/example/matchstone/matchstone/BookSide")) (by decide) rfl rfl (g := (mkF m 11 #[.val (.ref pl), .val .null, .val .null] [.null, (.ref pl)])) rfl rfl (hb hby d5_11)
  replace F_price_pl := F_price_pl.other W3 (Or.inr (slot_ne (Or.inr (hw _ (List.mem_of_getElem? (i := 40) rfl))) (Or.inr (hw _ (List.mem_of_getElem? (i := 42) rfl))) (by decide) (t := (.object "com/example/matchstone/matchstone/Price")) (t' := (.object "com/example/matchstone/matchstone/BookSide")) (by decide) (by decide)))
  replace E_pl := E_pl.wr W3
  have Z3 := Nat.le_trans Z2 (Keep.of_wr W3).1
  have N3 := Fr.snoc X3 N2 g_pl
  have K3 := K2.wr W3 (Or.inl (List.mem_of_getElem? (i := 0) rfl))
  replace F_bookSide_pl := F_bookSide_pl.same W3
  refine Go.step st3 ?_
  show Go _ _ _ _ _ _ _ (T3.setTop (mkF m 14 #[.val (.ref pl), .val .null, .val .null] []))
  refine Go.retV X3 Bd.notSynchronized hx Bd.returns (hb hby d5_14) (by decide) (by decide) ?_
  rw [e3]
  exact ⟨rfl, N3, K3, E_pl⟩
theorem d4_0 : decode prog_23_method_1_code 0 = .ok (.aload_n 0, 1) := by decide +kernel
theorem d4_1 : decode prog_23_method_1_code 1 = .ok (.invokespecial 3, 3) := by decide +kernel
theorem d4_4 : decode prog_23_method_1_code 4 = .ok (.aload_n 0, 1) := by decide +kernel
theorem d4_5 : decode prog_23_method_1_code 5 = .ok (.aload_n 1, 1) := by decide +kernel
theorem d4_6 : decode prog_23_method_1_code 6 = .ok (.putfield 9, 3) := by decide +kernel
theorem d4_9 : decode prog_23_method_1_code 9 = .ok (.aload_n 0, 1) := by decide +kernel
theorem d4_10 : decode prog_23_method_1_code 10 = .ok (.aload_n 2, 1) := by decide +kernel
theorem d4_11 : decode prog_23_method_1_code 11 = .ok (.putfield 15, 3) := by decide +kernel
theorem d4_14 : decode prog_23_method_1_code 14 = .ok (.aload_n 0, 1) := by decide +kernel
theorem d4_15 : decode prog_23_method_1_code 15 = .ok (.aload_n 3, 1) := by decide +kernel
theorem d4_16 : decode prog_23_method_1_code 16 = .ok (.putfield 19, 3) := by decide +kernel
theorem d4_19 : decode prog_23_method_1_code 19 = .ok (.return_, 1) := by decide +kernel
theorem pn_4 : plainName "com/example/matchstone/matchstone/LevelIndex$Node" = true := by first | (simp [plainName, overriddenIn]; done) | decide +kernel
theorem ef_4 (m : MethodId) (x0 : Addr) (x1 : Addr) (x2 : Addr) : entryFrame m #[(.ref x0), (.ref x1), (.ref x2), .null] 4 = mkF m 0 #[.val (.ref x0), .val (.ref x1), .val (.ref x2), .val .null] [] := by first | (simp [entryFrame, mkF, argsToLocals, Value.category]; done) | rfl
def Q4 (Z : State) (nd : Addr) (kr : Addr) (lr : Addr) (h0 : Heap) (n0 : Nat) (v : Option Value) (h : Heap) (L : List Loc) : Prop := v = none ∧ Fr n0 L ∧ Keep h0 h [nd] ∧ Fld Z h nd "com/example/matchstone/matchstone/LevelIndex$Node" "keys" "[J" (.ref kr) ∧ Fld Z h nd "com/example/matchstone/matchstone/LevelIndex$Node" "levels" "[Lcom/example/matchstone/matchstone/PriceLevel;" (.ref lr) ∧ Fld Z h nd "com/example/matchstone/matchstone/LevelIndex$Node" "children" "[Lcom/example/matchstone/matchstone/LevelIndex$Node;" .null ∧ Fld Z h nd "com/example/matchstone/matchstone/LevelIndex$Node" "size" "I" (.int (0 : Int32)) ∧ Fld Z h nd "com/example/matchstone/matchstone/LevelIndex$Node" "next" "Lcom/example/matchstone/matchstone/LevelIndex$Node;" .null ∧ Fld Z h nd "com/example/matchstone/matchstone/LevelIndex$Node" "previous" "Lcom/example/matchstone/matchstone/LevelIndex$Node;" .null ∧ Exa Z h nd "com/example/matchstone/matchstone/LevelIndex$Node"
set_option maxRecDepth 65536 in
set_option maxHeartbeats 40000000 in
theorem rm4 (l : Launch) (Z : State) (a0 : Array Value) (hw : ∀ d ∈ tables_1, d.before a0 Z = true) (ws : List Jvm.Cond) (nd : Addr) (kr : Addr) (lr : Addr) (h0 : Heap) (n0 : Nat) (Z0 : n0 ≤ h0.size) (F_keys_nd : Fld Z h0 nd "com/example/matchstone/matchstone/LevelIndex$Node" "keys" "[J" .null) (F_levels_nd : Fld Z h0 nd "com/example/matchstone/matchstone/LevelIndex$Node" "levels" "[Lcom/example/matchstone/matchstone/PriceLevel;" .null) (F_children_nd : Fld Z h0 nd "com/example/matchstone/matchstone/LevelIndex$Node" "children" "[Lcom/example/matchstone/matchstone/LevelIndex$Node;" .null) (F_size_nd : Fld Z h0 nd "com/example/matchstone/matchstone/LevelIndex$Node" "size" "I" (.int (0 : Int32))) (F_next_nd : Fld Z h0 nd "com/example/matchstone/matchstone/LevelIndex$Node" "next" "Lcom/example/matchstone/matchstone/LevelIndex$Node;" .null) (F_previous_nd : Fld Z h0 nd "com/example/matchstone/matchstone/LevelIndex$Node" "previous" "Lcom/example/matchstone/matchstone/LevelIndex$Node;" .null) (E_nd : Exa Z h0 nd "com/example/matchstone/matchstone/LevelIndex$Node") (g_nd : n0 ≤ nd) :
    MetFree l (⟨"com/example/matchstone/matchstone/LevelIndex$Node", "<init>", "([J[Lcom/example/matchstone/matchstone/PriceLevel;[Lcom/example/matchstone/matchstone/LevelIndex$Node;)V"⟩ : MethodName) (head1 (Jvm.Cond.code (⟨"com/example/matchstone/matchstone/LevelIndex$Node", "<init>", "([J[Lcom/example/matchstone/matchstone/PriceLevel;[Lcom/example/matchstone/matchstone/LevelIndex$Node;)V"⟩ : MethodName) prog_23_method_1_code 4 none :: ws) ({ frames := 1, cells := 0, slots := 0, locals := 12 } : Room)) (fun a U => a = #[(.ref nd), (.ref kr), (.ref lr), .null] ∧ Z.Warmed39 U.vm ∧ U.heap = h0) (fun _ _ _ _ _ => True) (fun _ U o U' => ∃ v L, o = .returned v ∧ Q4 Z nd kr lr h0 n0 v U'.heap L ∧ FrameEnd U o U' L ({ frames := 1, cells := 0, slots := 0, locals := 12 } : Room).cells ({ frames := 1, cells := 0, slots := 0, locals := 12 } : Room).slots) := by
  refine MetFree.of_bodySF (plainFor_of_name pn_4) hisR ?_
  intro p e s m args below meth c s₁ Bd hml0 hP hK
  obtain ⟨rfl, hZ, hh⟩ := hP
  have hx := Bd.exec
  have hby := Bd.bytes
  have hml : c.maxLocals = 4 := hml0
  have hown : s.vm.findClass "com/example/matchstone/matchstone/LevelIndex$Node" = some m.cls := findClass_of_methodNamed Bd.named
  have hnm := (name_of_methodNamed Bd.named Bd.method).1
  have X0 : Stand p l e ({ frames := 1, cells := 0, slots := 0, locals := 12 } : Room) s m #[(.ref nd), (.ref kr), (.ref lr), .null] below meth c s₁ [] 0 0 := Stand.of_body Bd
  have e0 : s₁.heap = h0 := by rw [← hh, Bd.state]; rfl
  have N0 := Fr.nil n0
  have K0 := Keep.refl h0 ([nd] : List Addr)
  show Go p e below s (Q4 Z nd kr lr h0 n0) ({ frames := 1, cells := 0, slots := 0, locals := 12 } : Room).cells ({ frames := 1, cells := 0, slots := 0, locals := 12 } : Room).slots (s₁.setTop (entryFrame m #[(.ref nd), (.ref kr), (.ref lr), .null] 4))
  rw [ef_4]
  show Go _ _ _ _ _ _ _ (s₁.setTop (mkF m 0 #[.val (.ref nd), .val (.ref kr), .val (.ref lr), .val .null] []))
  refine Go.step (fun t k => XS.aloadN X0.here hx rfl (hb hby d4_0) rfl rfl k) ?_
  show Go _ _ _ _ _ _ _ (s₁.setTop (mkF m 1 #[.val (.ref nd), .val (.ref kr), .val (.ref lr), .val .null] [(.ref nd)]))
  obtain ⟨T1, X1, e1, st1⟩ := initO X0 hx hZ hown (hw _ (List.mem_of_getElem? (i := 21) rfl)) (hw _ (List.mem_of_getElem? (i := 7) rfl)) (hw _ (List.mem_of_getElem? (i := 8) rfl)) e0 (g := (mkF m 1 #[.val (.ref nd), .val (.ref kr), .val (.ref lr), .val .null] [(.ref nd)])) rfl (by rw [hml]; rfl) rfl (hb hby d4_1) (by decide) (W := 0) (by show 2 * 0 + _ ≤ _; exact Nat.le_of_eq rfl) (by decide)
  refine Go.step st1 ?_
  show Go _ _ _ _ _ _ _ (T1.setTop (mkF m 4 #[.val (.ref nd), .val (.ref kr), .val (.ref lr), .val .null] []))
  refine Go.step (fun t k => XS.aloadN X1.here hx rfl (hb hby d4_4) rfl rfl (XS.aloadN X1.here hx rfl (hb hby d4_5) rfl rfl k)) ?_
  show Go _ _ _ _ _ _ _ (T1.setTop (mkF m 6 #[.val (.ref nd), .val (.ref kr), .val (.ref lr), .val .null] [(.ref kr), (.ref nd)]))
  obtain ⟨T2, h2, X2, e2, W2, st2⟩ := putF X1 hx hZ hown (host := "") (Or.inl (hw _ (List.mem_of_getElem? (i := 22) rfl))) Via.refl e1 F_keys_nd E_nd (Or.inr ⟨(hw _ (List.mem_of_getElem? (i := 23) rfl)), rfl, hnm⟩) (hw _ (List.mem_of_getElem? (i := 14) rfl)) (ty := (.array .long)) (by decide) rfl rfl (g := (mkF m 6 #[.val (.ref nd), .val (.ref kr), .val (.ref lr), .val .null] [(.ref kr), (.ref nd)])) rfl rfl (hb hby d4_6)
  replace F_levels_nd := F_levels_nd.other W2 (Or.inr (slot_ne (Or.inr (hw _ (List.mem_of_getElem? (i := 25) rfl))) (Or.inr (hw _ (List.mem_of_getElem? (i := 23) rfl))) (by decide) (t := (.array (.object "com/example/matchstone/matchstone/PriceLevel"))) (t' := (.array .long)) (by decide) (by decide)))
  replace F_children_nd := F_children_nd.other W2 (Or.inr (slot_ne (Or.inr (hw _ (List.mem_of_getElem? (i := 27) rfl))) (Or.inr (hw _ (List.mem_of_getElem? (i := 23) rfl))) (by decide) (t := (.array (.object "com/example/matchstone/matchstone/LevelIndex$Node"))) (t' := (.array .long)) (by decide) (by decide)))
  replace F_size_nd := F_size_nd.other W2 (Or.inr (slot_ne (Or.inl (hw _ (List.mem_of_getElem? (i := 49) rfl))) (Or.inr (hw _ (List.mem_of_getElem? (i := 23) rfl))) (by decide) (t := .int) (t' := (.array .long)) (by decide) (by decide)))
  replace F_next_nd := F_next_nd.other W2 (Or.inr (slot_ne (Or.inl (hw _ (List.mem_of_getElem? (i := 121) rfl))) (Or.inr (hw _ (List.mem_of_getElem? (i := 23) rfl))) (by decide) (t := (.object "com/example/matchstone/matchstone/LevelIndex$Node")) (t' := (.array .long)) (by decide) (by decide)))
  replace F_previous_nd := F_previous_nd.other W2 (Or.inr (slot_ne (Or.inl (hw _ (List.mem_of_getElem? (i := 103) rfl))) (Or.inr (hw _ (List.mem_of_getElem? (i := 23) rfl))) (by decide) (t := (.object "com/example/matchstone/matchstone/LevelIndex$Node")) (t' := (.array .long)) (by decide) (by decide)))
  replace E_nd := E_nd.wr W2
  have Z2 := Nat.le_trans Z0 (Keep.of_wr W2).1
  have N2 := Fr.snoc X2 N0 g_nd
  have K2 := K0.wr W2 (Or.inl (List.mem_of_getElem? (i := 0) rfl))
  replace F_keys_nd := F_keys_nd.same W2
  refine Go.step st2 ?_
  show Go _ _ _ _ _ _ _ (T2.setTop (mkF m 9 #[.val (.ref nd), .val (.ref kr), .val (.ref lr), .val .null] []))
  refine Go.step (fun t k => XS.aloadN X2.here hx rfl (hb hby d4_9) rfl rfl (XS.aloadN X2.here hx rfl (hb hby d4_10) rfl rfl k)) ?_
  show Go _ _ _ _ _ _ _ (T2.setTop (mkF m 11 #[.val (.ref nd), .val (.ref kr), .val (.ref lr), .val .null] [(.ref lr), (.ref nd)]))
  obtain ⟨T3, h3, X3, e3, W3, st3⟩ := putF X2 hx hZ hown (host := "") (Or.inl (hw _ (List.mem_of_getElem? (i := 24) rfl))) Via.refl e2 F_levels_nd E_nd (Or.inr ⟨(hw _ (List.mem_of_getElem? (i := 25) rfl)), rfl, hnm⟩) (hw _ (List.mem_of_getElem? (i := 14) rfl)) (ty := (.array (.object "com/example/matchstone/matchstone/PriceLevel"))) (by decide) rfl rfl (g := (mkF m 11 #[.val (.ref nd), .val (.ref kr), .val (.ref lr), .val .null] [(.ref lr), (.ref nd)])) rfl rfl (hb hby d4_11)
  replace F_keys_nd := F_keys_nd.other W3 (Or.inr (slot_ne (Or.inr (hw _ (List.mem_of_getElem? (i := 23) rfl))) (Or.inr (hw _ (List.mem_of_getElem? (i := 25) rfl))) (by decide) (t := (.array .long)) (t' := (.array (.object "com/example/matchstone/matchstone/PriceLevel"))) (by decide) (by decide)))
  replace F_children_nd := F_children_nd.other W3 (Or.inr (slot_ne (Or.inr (hw _ (List.mem_of_getElem? (i := 27) rfl))) (Or.inr (hw _ (List.mem_of_getElem? (i := 25) rfl))) (by decide) (t := (.array (.object "com/example/matchstone/matchstone/LevelIndex$Node"))) (t' := (.array (.object "com/example/matchstone/matchstone/PriceLevel"))) (by decide) (by decide)))
  replace F_size_nd := F_size_nd.other W3 (Or.inr (slot_ne (Or.inl (hw _ (List.mem_of_getElem? (i := 49) rfl))) (Or.inr (hw _ (List.mem_of_getElem? (i := 25) rfl))) (by decide) (t := .int) (t' := (.array (.object "com/example/matchstone/matchstone/PriceLevel"))) (by decide) (by decide)))
  replace F_next_nd := F_next_nd.other W3 (Or.inr (slot_ne (Or.inl (hw _ (List.mem_of_getElem? (i := 121) rfl))) (Or.inr (hw _ (List.mem_of_getElem? (i := 25) rfl))) (by decide) (t := (.object "com/example/matchstone/matchstone/LevelIndex$Node")) (t' := (.array (.object "com/example/matchstone/matchstone/PriceLevel"))) (by decide) (by decide)))
  replace F_previous_nd := F_previous_nd.other W3 (Or.inr (slot_ne (Or.inl (hw _ (List.mem_of_getElem? (i := 103) rfl))) (Or.inr (hw _ (List.mem_of_getElem? (i := 25) rfl))) (by decide) (t := (.object "com/example/matchstone/matchstone/LevelIndex$Node")) (t' := (.array (.object "com/example/matchstone/matchstone/PriceLevel"))) (by decide) (by decide)))
  replace E_nd := E_nd.wr W3
  have Z3 := Nat.le_trans Z2 (Keep.of_wr W3).1
  have N3 := Fr.snoc X3 N2 g_nd
  have K3 := K2.wr W3 (Or.inl (List.mem_of_getElem? (i := 0) rfl))
  replace F_levels_nd := F_levels_nd.same W3
  refine Go.step st3 ?_
  show Go _ _ _ _ _ _ _ (T3.setTop (mkF m 14 #[.val (.ref nd), .val (.ref kr), .val (.ref lr), .val .null] []))
  refine Go.step (fun t k => XS.aloadN X3.here hx rfl (hb hby d4_14) rfl rfl (XS.aloadN X3.here hx rfl (hb hby d4_15) rfl rfl k)) ?_
  show Go _ _ _ _ _ _ _ (T3.setTop (mkF m 16 #[.val (.ref nd), .val (.ref kr), .val (.ref lr), .val .null] [.null, (.ref nd)]))
  obtain ⟨T4, h4, X4, e4, W4, st4⟩ := putF X3 hx hZ hown (host := "") (Or.inl (hw _ (List.mem_of_getElem? (i := 26) rfl))) Via.refl e3 F_children_nd E_nd (Or.inr ⟨(hw _ (List.mem_of_getElem? (i := 27) rfl)), rfl, hnm⟩) (hw _ (List.mem_of_getElem? (i := 14) rfl)) (ty := (.array (.object "com/example/matchstone/matchstone/LevelIndex$Node"))) (by decide) rfl rfl (g := (mkF m 16 #[.val (.ref nd), .val (.ref kr), .val (.ref lr), .val .null] [.null, (.ref nd)])) rfl rfl (hb hby d4_16)
  replace F_keys_nd := F_keys_nd.other W4 (Or.inr (slot_ne (Or.inr (hw _ (List.mem_of_getElem? (i := 23) rfl))) (Or.inr (hw _ (List.mem_of_getElem? (i := 27) rfl))) (by decide) (t := (.array .long)) (t' := (.array (.object "com/example/matchstone/matchstone/LevelIndex$Node"))) (by decide) (by decide)))
  replace F_levels_nd := F_levels_nd.other W4 (Or.inr (slot_ne (Or.inr (hw _ (List.mem_of_getElem? (i := 25) rfl))) (Or.inr (hw _ (List.mem_of_getElem? (i := 27) rfl))) (by decide) (t := (.array (.object "com/example/matchstone/matchstone/PriceLevel"))) (t' := (.array (.object "com/example/matchstone/matchstone/LevelIndex$Node"))) (by decide) (by decide)))
  replace F_size_nd := F_size_nd.other W4 (Or.inr (slot_ne (Or.inl (hw _ (List.mem_of_getElem? (i := 49) rfl))) (Or.inr (hw _ (List.mem_of_getElem? (i := 27) rfl))) (by decide) (t := .int) (t' := (.array (.object "com/example/matchstone/matchstone/LevelIndex$Node"))) (by decide) (by decide)))
  replace F_next_nd := F_next_nd.other W4 (Or.inr (slot_ne (Or.inl (hw _ (List.mem_of_getElem? (i := 121) rfl))) (Or.inr (hw _ (List.mem_of_getElem? (i := 27) rfl))) (by decide) (t := (.object "com/example/matchstone/matchstone/LevelIndex$Node")) (t' := (.array (.object "com/example/matchstone/matchstone/LevelIndex$Node"))) (by decide) (by decide)))
  replace F_previous_nd := F_previous_nd.other W4 (Or.inr (slot_ne (Or.inl (hw _ (List.mem_of_getElem? (i := 103) rfl))) (Or.inr (hw _ (List.mem_of_getElem? (i := 27) rfl))) (by decide) (t := (.object "com/example/matchstone/matchstone/LevelIndex$Node")) (t' := (.array (.object "com/example/matchstone/matchstone/LevelIndex$Node"))) (by decide) (by decide)))
  replace E_nd := E_nd.wr W4
  have Z4 := Nat.le_trans Z3 (Keep.of_wr W4).1
  have N4 := Fr.snoc X4 N3 g_nd
  have K4 := K3.wr W4 (Or.inl (List.mem_of_getElem? (i := 0) rfl))
  replace F_children_nd := F_children_nd.same W4
  refine Go.step st4 ?_
  show Go _ _ _ _ _ _ _ (T4.setTop (mkF m 19 #[.val (.ref nd), .val (.ref kr), .val (.ref lr), .val .null] []))
  refine Go.retV X4 Bd.notSynchronized hx Bd.returns (hb hby d4_19) (by decide) (by decide) ?_
  rw [e4]
  exact ⟨rfl, N4, K4, F_keys_nd, F_levels_nd, F_children_nd, F_size_nd, F_next_nd, F_previous_nd, E_nd⟩
theorem d3_0 : decode prog_23_method_2_code 0 = .ok (.new 10, 3) := by decide +kernel
theorem d3_3 : decode prog_23_method_2_code 3 = .ok (.dup, 1) := by decide +kernel
theorem d3_4 : decode prog_23_method_2_code 4 = .ok (.bipush 65, 2) := by decide +kernel
theorem d3_6 : decode prog_23_method_2_code 6 = .ok (.newarray .long, 2) := by decide +kernel
theorem d3_8 : decode prog_23_method_2_code 8 = .ok (.bipush 65, 2) := by decide +kernel
theorem d3_10 : decode prog_23_method_2_code 10 = .ok (.anewarray 23, 3) := by decide +kernel
theorem d3_13 : decode prog_23_method_2_code 13 = .ok (.aconst_null, 1) := by decide +kernel
theorem d3_14 : decode prog_23_method_2_code 14 = .ok (.invokespecial 25, 3) := by decide +kernel
theorem d3_17 : decode prog_23_method_2_code 17 = .ok (.areturn, 1) := by decide +kernel
theorem pn_3 : plainName "com/example/matchstone/matchstone/LevelIndex$Node" = true := by first | (simp [plainName, overriddenIn]; done) | decide +kernel
theorem pd_3_0 : parseMethodDescriptor "([J[Lcom/example/matchstone/matchstone/PriceLevel;[Lcom/example/matchstone/matchstone/LevelIndex$Node;)V" = some ⟨[(.array .long), (.array (.object "com/example/matchstone/matchstone/PriceLevel")), (.array (.object "com/example/matchstone/matchstone/LevelIndex$Node"))], none⟩ := by decide +kernel
theorem ef_3 (m : MethodId) : entryFrame m #[] 0 = mkF m 0 #[] [] := by first | (simp [entryFrame, mkF, argsToLocals, Value.category]; done) | rfl
def Q3 (Z : State) (h0 : Heap) (n0 : Nat) (v : Option Value) (h : Heap) (L : List Loc) : Prop := ∃ nd : Addr, ∃ kr : Addr, ∃ lr : Addr, v = some (.ref nd) ∧ Fr n0 L ∧ Keep h0 h [] ∧ h0.size ≤ nd ∧ h0.size ≤ kr ∧ h0.size ≤ lr ∧ kr ≠ lr ∧ Fld Z h nd "com/example/matchstone/matchstone/LevelIndex$Node" "keys" "[J" (.ref kr) ∧ Fld Z h nd "com/example/matchstone/matchstone/LevelIndex$Node" "levels" "[Lcom/example/matchstone/matchstone/PriceLevel;" (.ref lr) ∧ Fld Z h nd "com/example/matchstone/matchstone/LevelIndex$Node" "children" "[Lcom/example/matchstone/matchstone/LevelIndex$Node;" .null ∧ Fld Z h nd "com/example/matchstone/matchstone/LevelIndex$Node" "size" "I" (.int (0 : Int32)) ∧ Fld Z h nd "com/example/matchstone/matchstone/LevelIndex$Node" "next" "Lcom/example/matchstone/matchstone/LevelIndex$Node;" .null ∧ Fld Z h nd "com/example/matchstone/matchstone/LevelIndex$Node" "previous" "Lcom/example/matchstone/matchstone/LevelIndex$Node;" .null ∧ Exa Z h nd "com/example/matchstone/matchstone/LevelIndex$Node" ∧ AryJ Z h kr 65 (fun _ => (0 : Int64)) ∧ RAr Z h lr "com/example/matchstone/matchstone/PriceLevel" 65 (fun _ => .null)
set_option maxRecDepth 65536 in
set_option maxHeartbeats 40000000 in
theorem rm3 (l : Launch) (Z : State) (a0 : Array Value) (hw : ∀ d ∈ tables_1, d.before a0 Z = true) (ws : List Jvm.Cond) (h0 : Heap) (n0 : Nat) (Z0 : n0 ≤ h0.size) :
    MetFree l (⟨"com/example/matchstone/matchstone/LevelIndex$Node", "leaf", "()Lcom/example/matchstone/matchstone/LevelIndex$Node;"⟩ : MethodName) (head1 (Jvm.Cond.code (⟨"com/example/matchstone/matchstone/LevelIndex$Node", "leaf", "()Lcom/example/matchstone/matchstone/LevelIndex$Node;"⟩ : MethodName) prog_23_method_2_code 0 (some (.object "com/example/matchstone/matchstone/LevelIndex$Node")) :: ws) ({ frames := 2, cells := 3, slots := 136, locals := 28 } : Room)) (fun a U => a = #[] ∧ Z.Warmed39 U.vm ∧ U.heap = h0) (fun _ _ _ _ _ => True) (fun _ U o U' => ∃ v L, o = .returned v ∧ Q3 Z h0 n0 v U'.heap L ∧ FrameEnd U o U' L ({ frames := 2, cells := 3, slots := 136, locals := 28 } : Room).cells ({ frames := 2, cells := 3, slots := 136, locals := 28 } : Room).slots) := by
  refine MetFree.of_bodySF (plainFor_of_name pn_3) hisR ?_
  intro p e s m args below meth c s₁ Bd hml0 hP hK
  obtain ⟨rfl, hZ, hh⟩ := hP
  have hx := Bd.exec
  have hby := Bd.bytes
  have hml : c.maxLocals = 0 := hml0
  have hown : s.vm.findClass "com/example/matchstone/matchstone/LevelIndex$Node" = some m.cls := findClass_of_methodNamed Bd.named
  have hnm := (name_of_methodNamed Bd.named Bd.method).1
  have X0 : Stand p l e ({ frames := 2, cells := 3, slots := 136, locals := 28 } : Room) s m #[] below meth c s₁ [] 0 0 := Stand.of_body Bd
  have e0 : s₁.heap = h0 := by rw [← hh, Bd.state]; rfl
  have N0 := Fr.nil n0
  have K0 := Keep.refl h0 ([] : List Addr)
  show Go p e below s (Q3 Z h0 n0) ({ frames := 2, cells := 3, slots := 136, locals := 28 } : Room).cells ({ frames := 2, cells := 3, slots := 136, locals := 28 } : Room).slots (s₁.setTop (entryFrame m #[] 0))
  rw [ef_3]
  show Go _ _ _ _ _ _ _ (s₁.setTop (mkF m 0 #[] []))
  obtain ⟨T1, h1, X1, e1, E1, A1, D1, -, st1⟩ := newO X0 hx hZ hown (hw _ (List.mem_of_getElem? (i := 13) rfl)) (hw _ (List.mem_of_getElem? (i := 14) rfl)) (hw _ (List.mem_of_getElem? (i := 11) rfl)) e0 (g := (mkF m 0 #[] [])) rfl (hb hby d3_0) (by decide) (by decide)
  obtain ⟨nd, gz1⟩ : ∃ z, z = h0.size := ⟨_, rfl⟩
  have g_nd : n0 ≤ nd := Nat.le_trans Z0 (Nat.le_of_eq gz1.symm)
  have sz_nd : h0.size ≤ nd := Nat.le_trans K0.1 (Nat.le_of_eq gz1.symm)
  rw [← gz1] at A1 D1 st1
  have Z1 := Nat.le_trans Z0 E1.1
  have K1 := K0.ext E1
  have E_nd := A1
  have F_keys_nd : Fld Z h1 nd "com/example/matchstone/matchstone/LevelIndex$Node" "keys" "[J" .null := D1 (Or.inr (hw _ (List.mem_of_getElem? (i := 23) rfl))) (ty := (.array .long)) (by decide)
  have F_levels_nd : Fld Z h1 nd "com/example/matchstone/matchstone/LevelIndex$Node" "levels" "[Lcom/example/matchstone/matchstone/PriceLevel;" .null := D1 (Or.inr (hw _ (List.mem_of_getElem? (i := 25) rfl))) (ty := (.array (.object "com/example/matchstone/matchstone/PriceLevel"))) (by decide)
  have F_children_nd : Fld Z h1 nd "com/example/matchstone/matchstone/LevelIndex$Node" "children" "[Lcom/example/matchstone/matchstone/LevelIndex$Node;" .null := D1 (Or.inr (hw _ (List.mem_of_getElem? (i := 27) rfl))) (ty := (.array (.object "com/example/matchstone/matchstone/LevelIndex$Node"))) (by decide)
  have F_size_nd : Fld Z h1 nd "com/example/matchstone/matchstone/LevelIndex$Node" "size" "I" (.int (0 : Int32)) := D1 (Or.inl (hw _ (List.mem_of_getElem? (i := 49) rfl))) (ty := .int) (by decide)
  have F_previous_nd : Fld Z h1 nd "com/example/matchstone/matchstone/LevelIndex$Node" "previous" "Lcom/example/matchstone/matchstone/LevelIndex$Node;" .null := D1 (Or.inl (hw _ (List.mem_of_getElem? (i := 103) rfl))) (ty := (.object "com/example/matchstone/matchstone/LevelIndex$Node")) (by decide)
  have F_next_nd : Fld Z h1 nd "com/example/matchstone/matchstone/LevelIndex$Node" "next" "Lcom/example/matchstone/matchstone/LevelIndex$Node;" .null := D1 (Or.inl (hw _ (List.mem_of_getElem? (i := 121) rfl))) (ty := (.object "com/example/matchstone/matchstone/LevelIndex$Node")) (by decide)
  refine Go.step st1 ?_
  show Go _ _ _ _ _ _ _ (T1.setTop (mkF m 3 #[] [(.ref nd)]))
  refine Go.step (fun t k => XS.dup X1.here hx rfl (hb hby d3_3) rfl rfl (XS.bipush X1.here hx rfl (hb hby d3_4) k)) ?_
  show Go _ _ _ _ _ _ _ (T1.setTop (mkF m 6 #[] [(.int (65 : Int32)), (.ref nd), (.ref nd)]))
  obtain ⟨T2, h2, k2, X2, e2, E2, A2, st2⟩ := newP X1 hx hZ (hw _ (List.mem_of_getElem? (i := 15) rfl)) e1 (g := (mkF m 6 #[] [(.int (65 : Int32)), (.ref nd), (.ref nd)])) rfl (hb hby d3_6) rfl (by decide) (cap := 65) (by decide) (by decide) (by decide) (by decide)
  obtain ⟨kr, gz2⟩ : ∃ z, z = h1.size := ⟨_, rfl⟩
  have ne_nd_kr : nd ≠ kr := Nat.ne_of_lt (Nat.lt_of_lt_of_le E_nd.lt (Nat.le_of_eq gz2.symm))
  have g_kr : n0 ≤ kr := Nat.le_trans Z1 (Nat.le_of_eq gz2.symm)
  have sz_kr : h0.size ≤ kr := Nat.le_trans K1.1 (Nat.le_of_eq gz2.symm)
  rw [← gz2] at A2 st2
  replace E_nd := E_nd.ext E2
  replace F_keys_nd := F_keys_nd.ext E2
  replace F_levels_nd := F_levels_nd.ext E2
  replace F_children_nd := F_children_nd.ext E2
  replace F_size_nd := F_size_nd.ext E2
  replace F_previous_nd := F_previous_nd.ext E2
  replace F_next_nd := F_next_nd.ext E2
  have Z2 := Nat.le_trans Z1 E2.1
  have K2 := K1.ext E2
  have A_kr : AryJ Z h2 kr 65 (fun _ => (0 : Int64)) := Ary.new A2 rfl
  refine Go.step st2 ?_
  show Go _ _ _ _ _ _ _ (T2.setTop (mkF m 8 #[] [(.ref kr), (.ref nd), (.ref nd)]))
  refine Go.step (fun t k => XS.bipush X2.here hx rfl (hb hby d3_8) k) ?_
  show Go _ _ _ _ _ _ _ (T2.setTop (mkF m 10 #[] [(.int (65 : Int32)), (.ref kr), (.ref nd), (.ref nd)]))
  obtain ⟨T3, h3, k3, X3, e3, E3, A3, O3, st3⟩ := newR X2 hx hZ hown (hw _ (List.mem_of_getElem? (i := 16) rfl)) (hw _ (List.mem_of_getElem? (i := 17) rfl)) e2 (g := (mkF m 10 #[] [(.int (65 : Int32)), (.ref kr), (.ref nd), (.ref nd)])) rfl (hb hby d3_10) rfl (by decide) (cap := 65) (by decide) (by decide) (by decide) (by decide)
  obtain ⟨lr, gz3⟩ : ∃ z, z = h2.size := ⟨_, rfl⟩
  have ne_nd_lr : nd ≠ lr := Nat.ne_of_lt (Nat.lt_of_lt_of_le E_nd.lt (Nat.le_of_eq gz3.symm))
  have ne_kr_lr : kr ≠ lr := Nat.ne_of_lt (Nat.lt_of_lt_of_le A_kr.lt (Nat.le_of_eq gz3.symm))
  have g_lr : n0 ≤ lr := Nat.le_trans Z2 (Nat.le_of_eq gz3.symm)
  have sz_lr : h0.size ≤ lr := Nat.le_trans K2.1 (Nat.le_of_eq gz3.symm)
  rw [← gz3] at A3 st3
  replace E_nd := E_nd.ext E3
  replace F_keys_nd := F_keys_nd.ext E3
  replace F_levels_nd := F_levels_nd.ext E3
  replace F_children_nd := F_children_nd.ext E3
  replace F_size_nd := F_size_nd.ext E3
  replace F_previous_nd := F_previous_nd.ext E3
  replace F_next_nd := F_next_nd.ext E3
  replace A_kr := A_kr.ext E3
  have Z3 := Nat.le_trans Z2 E3.1
  have K3 := K2.ext E3
  have R_lr : RAr Z h3 lr "com/example/matchstone/matchstone/PriceLevel" 65 (fun _ => .null) := RAr.new A3 O3 rfl
  refine Go.step st3 ?_
  show Go _ _ _ _ _ _ _ (T3.setTop (mkF m 13 #[] [(.ref lr), (.ref kr), (.ref nd), (.ref nd)]))
  refine Go.step (fun t k => XS.aconstNull X3.here hx rfl (hb hby d3_13) k) ?_
  show Go _ _ _ _ _ _ _ (T3.setTop (mkF m 14 #[] [.null, (.ref lr), (.ref kr), (.ref nd), (.ref nd)]))
  obtain ⟨_, _, ⟨T4, L4, k4, n4⟩, -, X4, ⟨Lc4, hQ4, l4, y4, z4⟩, st4⟩ := X3.specialBack hx (y := (⟨"com/example/matchstone/matchstone/LevelIndex$Node", "<init>", "([J[Lcom/example/matchstone/matchstone/PriceLevel;[Lcom/example/matchstone/matchstone/LevelIndex$Node;)V"⟩ : MethodName)) rfl hown (mvT hZ (hw _ (List.mem_of_getElem? (i := 18) rfl))) (mvT hZ (hw _ (List.mem_of_getElem? (i := 19) rfl))) (mvT hZ (hw _ (List.mem_of_getElem? (i := 20) rfl))) (by decide) (backOf (W := 1) (rm4 l Z a0 hw [] nd kr lr h3 n0 Z3 F_keys_nd F_levels_nd F_children_nd F_size_nd F_next_nd F_previous_nd E_nd g_nd) hZ (hw _ (List.mem_of_getElem? (i := 20) rfl)) (hw _ (List.mem_of_getElem? (i := 11) rfl)) (by decide) (by decide)) (g := (mkF m 14 #[] [.null, (.ref lr), (.ref kr), (.ref nd), (.ref nd)])) rfl (by rw [hml]; rfl) (Steps.refl _) (a := nd) (argsL := [(.ref kr), (.ref lr), .null]) (rest := [(.ref nd)]) (lenOf pd_3_0 rfl) rfl (by show 2 * 0 + _ ≤ _; exact Nat.le_of_eq rfl) (hb hby d3_14) (fun _ _ => ⟨rfl, e3, (by decide : 3 + 0 ≤ _), (by decide : 136 + 0 ≤ _)⟩)
  dsimp only [Pt.U, Pt.locs, Pt.cells, Pt.slots] at X4 l4 y4 z4 st4 hQ4
  subst l4 y4 z4
  obtain ⟨rfl, N4q, K4q, o4_F_keys_nd, o4_F_levels_nd, o4_F_children_nd, o4_F_size_nd, o4_F_next_nd, o4_F_previous_nd, o4_E_nd⟩ := hQ4
  have N4 := Fr.app N0 N4q
  replace E_nd := E_nd.keep K4q
  replace A_kr := A_kr.keep K4q (ninS (Ne.symm ne_nd_kr) nin0)
  replace R_lr := R_lr.keep K4q (ninS (Ne.symm ne_nd_lr) nin0)
  have Z4 := Nat.le_trans Z3 K4q.1
  have K4' := K3.trans K4q (allS (Or.inr sz_nd) all0)
  have F_keys_nd := o4_F_keys_nd
  have F_levels_nd := o4_F_levels_nd
  have F_children_nd := o4_F_children_nd
  have F_size_nd := o4_F_size_nd
  have F_next_nd := o4_F_next_nd
  have F_previous_nd := o4_F_previous_nd
  have E_nd := o4_E_nd
  refine Go.step (fun t k => st4.trans k) ?_
  show Go _ _ _ _ _ _ _ (T4.setTop (mkF m 17 #[] [(.ref nd)]))
  refine Go.retA X4 Bd.notSynchronized hx Bd.returns rfl rfl rfl (hb hby d3_17) (by decide) (by decide) ?_
  exact ⟨nd, kr, lr, rfl, N4, K4', sz_nd, sz_kr, sz_lr, ne_kr_lr, F_keys_nd, F_levels_nd, F_children_nd, F_size_nd, F_next_nd, F_previous_nd, E_nd, A_kr, R_lr⟩
theorem d1_0 : decode prog_21_method_1_code 0 = .ok (.aload_n 0, 1) := by decide +kernel
theorem d1_1 : decode prog_21_method_1_code 1 = .ok (.invokespecial 1, 3) := by decide +kernel
theorem d1_4 : decode prog_21_method_1_code 4 = .ok (.aload_n 0, 1) := by decide +kernel
theorem d1_5 : decode prog_21_method_1_code 5 = .ok (.invokestatic 7, 3) := by decide +kernel
theorem d1_8 : decode prog_21_method_1_code 8 = .ok (.putfield 13, 3) := by decide +kernel
theorem d1_11 : decode prog_21_method_1_code 11 = .ok (.aload_n 0, 1) := by decide +kernel
theorem d1_12 : decode prog_21_method_1_code 12 = .ok (.aload_n 0, 1) := by decide +kernel
theorem d1_13 : decode prog_21_method_1_code 13 = .ok (.getfield 13, 3) := by decide +kernel
theorem d1_16 : decode prog_21_method_1_code 16 = .ok (.putfield 19, 3) := by decide +kernel
theorem d1_19 : decode prog_21_method_1_code 19 = .ok (.return_, 1) := by decide +kernel
theorem pn_1 : plainName "com/example/matchstone/matchstone/LevelIndex" = true := by first | (simp [plainName, overriddenIn]; done) | decide +kernel
theorem pd_1_0 : parseMethodDescriptor "()Lcom/example/matchstone/matchstone/LevelIndex$Node;" = some ⟨[], some (.object "com/example/matchstone/matchstone/LevelIndex$Node")⟩ := by decide +kernel
theorem ef_1 (m : MethodId) (x0 : Addr) : entryFrame m #[(.ref x0)] 1 = mkF m 0 #[.val (.ref x0)] [] := by first | (simp [entryFrame, mkF, argsToLocals, Value.category]; done) | rfl
def Q1 (Z : State) (li : Addr) (h0 : Heap) (n0 : Nat) (v : Option Value) (h : Heap) (L : List Loc) : Prop := ∃ nd : Addr, ∃ kr : Addr, ∃ lr : Addr, v = none ∧ Fr n0 L ∧ Keep h0 h [li] ∧ h0.size ≤ nd ∧ h0.size ≤ kr ∧ h0.size ≤ lr ∧ kr ≠ lr ∧ Fld Z h li "com/example/matchstone/matchstone/LevelIndex" "root" "Lcom/example/matchstone/matchstone/LevelIndex$Node;" (.ref nd) ∧ Fld Z h li "com/example/matchstone/matchstone/LevelIndex" "last" "Lcom/example/matchstone/matchstone/LevelIndex$Node;" (.ref nd) ∧ Fld Z h li "com/example/matchstone/matchstone/LevelIndex" "ahead" "Lcom/example/matchstone/matchstone/PriceLevel;" .null ∧ Exa Z h li "com/example/matchstone/matchstone/LevelIndex" ∧ Fld Z h nd "com/example/matchstone/matchstone/LevelIndex$Node" "keys" "[J" (.ref kr) ∧ Fld Z h nd "com/example/matchstone/matchstone/LevelIndex$Node" "levels" "[Lcom/example/matchstone/matchstone/PriceLevel;" (.ref lr) ∧ Fld Z h nd "com/example/matchstone/matchstone/LevelIndex$Node" "children" "[Lcom/example/matchstone/matchstone/LevelIndex$Node;" .null ∧ Fld Z h nd "com/example/matchstone/matchstone/LevelIndex$Node" "size" "I" (.int (0 : Int32)) ∧ Fld Z h nd "com/example/matchstone/matchstone/LevelIndex$Node" "next" "Lcom/example/matchstone/matchstone/LevelIndex$Node;" .null ∧ Fld Z h nd "com/example/matchstone/matchstone/LevelIndex$Node" "previous" "Lcom/example/matchstone/matchstone/LevelIndex$Node;" .null ∧ Exa Z h nd "com/example/matchstone/matchstone/LevelIndex$Node" ∧ AryJ Z h kr 65 (fun _ => (0 : Int64)) ∧ RAr Z h lr "com/example/matchstone/matchstone/PriceLevel" 65 (fun _ => .null)
set_option maxRecDepth 65536 in
set_option maxHeartbeats 40000000 in
theorem rm1 (l : Launch) (Z : State) (a0 : Array Value) (hw : ∀ d ∈ tables_1, d.before a0 Z = true) (ws : List Jvm.Cond) (li : Addr) (h0 : Heap) (n0 : Nat) (Z0 : n0 ≤ h0.size) (F_root_li : Fld Z h0 li "com/example/matchstone/matchstone/LevelIndex" "root" "Lcom/example/matchstone/matchstone/LevelIndex$Node;" .null) (F_last_li : Fld Z h0 li "com/example/matchstone/matchstone/LevelIndex" "last" "Lcom/example/matchstone/matchstone/LevelIndex$Node;" .null) (F_ahead_li : Fld Z h0 li "com/example/matchstone/matchstone/LevelIndex" "ahead" "Lcom/example/matchstone/matchstone/PriceLevel;" .null) (E_li : Exa Z h0 li "com/example/matchstone/matchstone/LevelIndex") (g_li : n0 ≤ li) :
    MetFree l (⟨"com/example/matchstone/matchstone/LevelIndex", "<init>", "()V"⟩ : MethodName) (head1 (Jvm.Cond.code (⟨"com/example/matchstone/matchstone/LevelIndex", "<init>", "()V"⟩ : MethodName) prog_21_method_1_code 1 none :: ws) ({ frames := 3, cells := 3, slots := 136, locals := 40 } : Room)) (fun a U => a = #[(.ref li)] ∧ Z.Warmed39 U.vm ∧ U.heap = h0) (fun _ _ _ _ _ => True) (fun _ U o U' => ∃ v L, o = .returned v ∧ Q1 Z li h0 n0 v U'.heap L ∧ FrameEnd U o U' L ({ frames := 3, cells := 3, slots := 136, locals := 40 } : Room).cells ({ frames := 3, cells := 3, slots := 136, locals := 40 } : Room).slots) := by
  refine MetFree.of_bodySF (plainFor_of_name pn_1) hisR ?_
  intro p e s m args below meth c s₁ Bd hml0 hP hK
  obtain ⟨rfl, hZ, hh⟩ := hP
  have hx := Bd.exec
  have hby := Bd.bytes
  have hml : c.maxLocals = 1 := hml0
  have hown : s.vm.findClass "com/example/matchstone/matchstone/LevelIndex" = some m.cls := findClass_of_methodNamed Bd.named
  have hnm := (name_of_methodNamed Bd.named Bd.method).1
  have X0 : Stand p l e ({ frames := 3, cells := 3, slots := 136, locals := 40 } : Room) s m #[(.ref li)] below meth c s₁ [] 0 0 := Stand.of_body Bd
  have e0 : s₁.heap = h0 := by rw [← hh, Bd.state]; rfl
  have N0 := Fr.nil n0
  have K0 := Keep.refl h0 ([li] : List Addr)
  show Go p e below s (Q1 Z li h0 n0) ({ frames := 3, cells := 3, slots := 136, locals := 40 } : Room).cells ({ frames := 3, cells := 3, slots := 136, locals := 40 } : Room).slots (s₁.setTop (entryFrame m #[(.ref li)] 1))
  rw [ef_1]
  show Go _ _ _ _ _ _ _ (s₁.setTop (mkF m 0 #[.val (.ref li)] []))
  refine Go.step (fun t k => XS.aloadN X0.here hx rfl (hb hby d1_0) rfl rfl k) ?_
  show Go _ _ _ _ _ _ _ (s₁.setTop (mkF m 1 #[.val (.ref li)] [(.ref li)]))
  obtain ⟨T1, X1, e1, st1⟩ := initO X0 hx hZ hown (hw _ (List.mem_of_getElem? (i := 6) rfl)) (hw _ (List.mem_of_getElem? (i := 7) rfl)) (hw _ (List.mem_of_getElem? (i := 8) rfl)) e0 (g := (mkF m 1 #[.val (.ref li)] [(.ref li)])) rfl (by rw [hml]; rfl) rfl (hb hby d1_1) (by decide) (W := 0) (by show 2 * 0 + _ ≤ _; exact Nat.le_of_eq rfl) (by decide)
  refine Go.step st1 ?_
  show Go _ _ _ _ _ _ _ (T1.setTop (mkF m 4 #[.val (.ref li)] []))
  refine Go.step (fun t k => XS.aloadN X1.here hx rfl (hb hby d1_4) rfl rfl k) ?_
  show Go _ _ _ _ _ _ _ (T1.setTop (mkF m 5 #[.val (.ref li)] [(.ref li)]))
  obtain ⟨_, _, ⟨T2, L2, k2, n2⟩, -, X2, ⟨Lc2, hQ2, l2, y2, z2⟩, st2⟩ := Jvm.LawKit.callS X1 hx (y := (⟨"com/example/matchstone/matchstone/LevelIndex$Node", "leaf", "()Lcom/example/matchstone/matchstone/LevelIndex$Node;"⟩ : MethodName)) hown (mvT hZ (hw _ (List.mem_of_getElem? (i := 9) rfl))) (mvT hZ (hw _ (List.mem_of_getElem? (i := 10) rfl))) (mvT hZ (hw _ (List.mem_of_getElem? (i := 11) rfl))) (mvT hZ (hw _ (List.mem_of_getElem? (i := 12) rfl))) (by decide) (backOf (W := 1) (rm3 l Z a0 hw []  h0 n0 Z0) hZ (hw _ (List.mem_of_getElem? (i := 12) rfl)) (hw _ (List.mem_of_getElem? (i := 11) rfl)) (by decide) (by decide)) (g := (mkF m 5 #[.val (.ref li)] [(.ref li)])) rfl (by rw [hml]; rfl) (argsL := []) (rest := [(.ref li)]) (lenOf pd_1_0 rfl) rfl (by show 2 * 0 + _ ≤ _; exact Nat.le_of_eq rfl) (hb hby d1_5) (fun _ _ => ⟨rfl, e1, (by decide : 0 + 3 ≤ _), (by decide : 0 + 136 ≤ _)⟩)
  dsimp only [Pt.U, Pt.locs, Pt.cells, Pt.slots] at X2 l2 y2 z2 st2 hQ2
  subst l2 y2 z2
  obtain ⟨nd, kr, lr, rfl, N2q, K2q, o2_nw_nd, o2_nw_kr, o2_nw_lr, o2_ne_kr_lr, o2_F_keys_nd, o2_F_levels_nd, o2_F_children_nd, o2_F_size_nd, o2_F_next_nd, o2_F_previous_nd, o2_E_nd, o2_A_kr, o2_R_lr⟩ := hQ2
  have N2 := Fr.app N0 N2q
  have ne_li_nd : li ≠ nd := Nat.ne_of_lt (Nat.lt_of_lt_of_le F_root_li.lt o2_nw_nd)
  have g_nd : n0 ≤ nd := Nat.le_trans Z0 o2_nw_nd
  have sz_nd : h0.size ≤ nd := Nat.le_trans K0.1 o2_nw_nd
  have ne_li_kr : li ≠ kr := Nat.ne_of_lt (Nat.lt_of_lt_of_le F_root_li.lt o2_nw_kr)
  have g_kr : n0 ≤ kr := Nat.le_trans Z0 o2_nw_kr
  have sz_kr : h0.size ≤ kr := Nat.le_trans K0.1 o2_nw_kr
  have ne_li_lr : li ≠ lr := Nat.ne_of_lt (Nat.lt_of_lt_of_le F_root_li.lt o2_nw_lr)
  have g_lr : n0 ≤ lr := Nat.le_trans Z0 o2_nw_lr
  have sz_lr : h0.size ≤ lr := Nat.le_trans K0.1 o2_nw_lr
  replace F_root_li := F_root_li.keep K2q nin0
  replace F_last_li := F_last_li.keep K2q nin0
  replace F_ahead_li := F_ahead_li.keep K2q nin0
  replace E_li := E_li.keep K2q
  have Z2 := Nat.le_trans Z0 K2q.1
  have K2' := K0.trans K2q all0
  have F_keys_nd := o2_F_keys_nd
  have F_levels_nd := o2_F_levels_nd
  have F_children_nd := o2_F_children_nd
  have F_size_nd := o2_F_size_nd
  have F_next_nd := o2_F_next_nd
  have F_previous_nd := o2_F_previous_nd
  have E_nd := o2_E_nd
  have A_kr := o2_A_kr
  have R_lr := o2_R_lr
  refine Go.step st2 ?_
  show Go _ _ _ _ _ _ _ (T2.setTop (mkF m 8 #[.val (.ref li)] [(.ref nd), (.ref li)]))
  obtain ⟨T3, h3, X3, e3, W3, st3⟩ := putF X2 hx hZ hown (host := "") (Or.inl (hw _ (List.mem_of_getElem? (i := 28) rfl))) Via.refl rfl F_root_li E_li (Or.inl (hw _ (List.mem_of_getElem? (i := 29) rfl))) (hw _ (List.mem_of_getElem? (i := 1) rfl)) (ty := (.object "com/example/matchstone/matchstone/LevelIndex$Node")) (by decide) rfl rfl (g := (mkF m 8 #[.val (.ref li)] [(.ref nd), (.ref li)])) rfl rfl (hb hby d1_8)
  replace F_last_li := F_last_li.other W3 (Or.inr (slot_ne (Or.inl (hw _ (List.mem_of_getElem? (i := 31) rfl))) (Or.inl (hw _ (List.mem_of_getElem? (i := 29) rfl))) (by decide) (t := (.object "com/example/matchstone/matchstone/LevelIndex$Node")) (t' := (.object "com/example/matchstone/matchstone/LevelIndex$Node")) (by decide) (by decide)))
  replace F_ahead_li := F_ahead_li.other W3 (Or.inr (slot_ne (Or.inl (hw _ (List.mem_of_getElem? (i := 83) rfl))) (Or.inl (hw _ (List.mem_of_getElem? (i := 29) rfl))) (by decide) (t := (.object "com/example/matchstone/matchstone/PriceLevel")) (t' := (.object "com/example/matchstone/matchstone/LevelIndex$Node")) (by decide) (by decide)))
  replace E_li := E_li.wr W3
  replace F_keys_nd := F_keys_nd.other W3 (Or.inl (Ne.symm ne_li_nd))
  replace F_levels_nd := F_levels_nd.other W3 (Or.inl (Ne.symm ne_li_nd))
  replace F_children_nd := F_children_nd.other W3 (Or.inl (Ne.symm ne_li_nd))
  replace F_size_nd := F_size_nd.other W3 (Or.inl (Ne.symm ne_li_nd))
  replace F_next_nd := F_next_nd.other W3 (Or.inl (Ne.symm ne_li_nd))
  replace F_previous_nd := F_previous_nd.other W3 (Or.inl (Ne.symm ne_li_nd))
  replace E_nd := E_nd.wr W3
  replace A_kr := A_kr.other W3 (Ne.symm ne_li_kr)
  replace R_lr := R_lr.other W3 (Ne.symm ne_li_lr)
  have Z3 := Nat.le_trans Z2 (Keep.of_wr W3).1
  have N3 := Fr.snoc X3 N2 g_li
  have K3 := K2'.wr W3 (Or.inl (List.mem_of_getElem? (i := 0) rfl))
  replace F_root_li := F_root_li.same W3
  refine Go.step st3 ?_
  show Go _ _ _ _ _ _ _ (T3.setTop (mkF m 11 #[.val (.ref li)] []))
  refine Go.step (fun t k => XS.aloadN X3.here hx rfl (hb hby d1_11) rfl rfl (XS.aloadN X3.here hx rfl (hb hby d1_12) rfl rfl k)) ?_
  show Go _ _ _ _ _ _ _ (T3.setTop (mkF m 13 #[.val (.ref li)] [(.ref li), (.ref li)]))
  obtain ⟨T4, X4, e4, st4⟩ := getF X3 hx hZ hown (host := "") (Or.inl (hw _ (List.mem_of_getElem? (i := 28) rfl))) Via.refl e3 F_root_li (g := (mkF m 13 #[.val (.ref li)] [(.ref li), (.ref li)])) rfl rfl (hb hby d1_13)
  refine Go.step st4 ?_
  show Go _ _ _ _ _ _ _ (T4.setTop (mkF m 16 #[.val (.ref li)] [(.ref nd), (.ref li)]))
  obtain ⟨T5, h5, X5, e5, W5, st5⟩ := putF X4 hx hZ hown (host := "") (Or.inl (hw _ (List.mem_of_getElem? (i := 30) rfl))) Via.refl e4 F_last_li E_li (Or.inl (hw _ (List.mem_of_getElem? (i := 31) rfl))) (hw _ (List.mem_of_getElem? (i := 1) rfl)) (ty := (.object "com/example/matchstone/matchstone/LevelIndex$Node")) (by decide) rfl rfl (g := (mkF m 16 #[.val (.ref li)] [(.ref nd), (.ref li)])) rfl rfl (hb hby d1_16)
  replace F_root_li := F_root_li.other W5 (Or.inr (slot_ne (Or.inl (hw _ (List.mem_of_getElem? (i := 29) rfl))) (Or.inl (hw _ (List.mem_of_getElem? (i := 31) rfl))) (by decide) (t := (.object "com/example/matchstone/matchstone/LevelIndex$Node")) (t' := (.object "com/example/matchstone/matchstone/LevelIndex$Node")) (by decide) (by decide)))
  replace F_ahead_li := F_ahead_li.other W5 (Or.inr (slot_ne (Or.inl (hw _ (List.mem_of_getElem? (i := 83) rfl))) (Or.inl (hw _ (List.mem_of_getElem? (i := 31) rfl))) (by decide) (t := (.object "com/example/matchstone/matchstone/PriceLevel")) (t' := (.object "com/example/matchstone/matchstone/LevelIndex$Node")) (by decide) (by decide)))
  replace E_li := E_li.wr W5
  replace F_keys_nd := F_keys_nd.other W5 (Or.inl (Ne.symm ne_li_nd))
  replace F_levels_nd := F_levels_nd.other W5 (Or.inl (Ne.symm ne_li_nd))
  replace F_children_nd := F_children_nd.other W5 (Or.inl (Ne.symm ne_li_nd))
  replace F_size_nd := F_size_nd.other W5 (Or.inl (Ne.symm ne_li_nd))
  replace F_next_nd := F_next_nd.other W5 (Or.inl (Ne.symm ne_li_nd))
  replace F_previous_nd := F_previous_nd.other W5 (Or.inl (Ne.symm ne_li_nd))
  replace E_nd := E_nd.wr W5
  replace A_kr := A_kr.other W5 (Ne.symm ne_li_kr)
  replace R_lr := R_lr.other W5 (Ne.symm ne_li_lr)
  have Z5 := Nat.le_trans Z3 (Keep.of_wr W5).1
  have N5 := Fr.snoc X5 N3 g_li
  have K5 := K3.wr W5 (Or.inl (List.mem_of_getElem? (i := 0) rfl))
  replace F_last_li := F_last_li.same W5
  refine Go.step st5 ?_
  show Go _ _ _ _ _ _ _ (T5.setTop (mkF m 19 #[.val (.ref li)] []))
  refine Go.retV X5 Bd.notSynchronized hx Bd.returns (hb hby d1_19) (by decide) (by decide) ?_
  rw [e5]
  exact ⟨nd, kr, lr, rfl, N5, K5, sz_nd, sz_kr, sz_lr, o2_ne_kr_lr, F_root_li, F_last_li, F_ahead_li, E_li, F_keys_nd, F_levels_nd, F_children_nd, F_size_nd, F_next_nd, F_previous_nd, E_nd, A_kr, R_lr⟩
theorem d9_0 : decode prog_23_method_4_code 0 = .ok (.aload_n 0, 1) := by decide +kernel
theorem d9_1 : decode prog_23_method_4_code 1 = .ok (.getfield 15, 3) := by decide +kernel
theorem d9_4 : decode prog_23_method_4_code 4 = .ok (.ifnull 7, 3) := by decide +kernel
theorem d9_7 : decode prog_23_method_4_code 7 = .ok (.iconst 1, 1) := by decide +kernel
theorem d9_8 : decode prog_23_method_4_code 8 = .ok (.goto 4, 3) := by decide +kernel
theorem d9_12 : decode prog_23_method_4_code 12 = .ok (.ireturn, 1) := by decide +kernel
theorem pn_9 : plainName "com/example/matchstone/matchstone/LevelIndex$Node" = true := by first | (simp [plainName, overriddenIn]; done) | decide +kernel
theorem ef_9 (m : MethodId) (x0 : Addr) : entryFrame m #[(.ref x0)] 1 = mkF m 0 #[.val (.ref x0)] [] := by first | (simp [entryFrame, mkF, argsToLocals, Value.category]; done) | rfl
def Q9 (Z : State) (nd : Addr) (lr : Addr) (h0 : Heap) (n0 : Nat) (v : Option Value) (h : Heap) (L : List Loc) : Prop := v = some (.int (1 : Int32)) ∧ Fr n0 L ∧ h = h0
set_option maxRecDepth 65536 in
set_option maxHeartbeats 40000000 in
theorem rm9 (l : Launch) (Z : State) (a0 : Array Value) (hw : ∀ d ∈ tables_1, d.before a0 Z = true) (ws : List Jvm.Cond) (nd : Addr) (lr : Addr) (h0 : Heap) (n0 : Nat) (Z0 : n0 ≤ h0.size) (F_levels_nd : Fld Z h0 nd "com/example/matchstone/matchstone/LevelIndex$Node" "levels" "[Lcom/example/matchstone/matchstone/PriceLevel;" (.ref lr)) :
    MetFree l (⟨"com/example/matchstone/matchstone/LevelIndex$Node", "isLeaf", "()Z"⟩ : MethodName) (head1 (Jvm.Cond.code (⟨"com/example/matchstone/matchstone/LevelIndex$Node", "isLeaf", "()Z"⟩ : MethodName) prog_23_method_4_code 1 (some .boolean) :: ws) ({ frames := 0, cells := 0, slots := 0, locals := 0 } : Room)) (fun a U => a = #[(.ref nd)] ∧ Z.Warmed39 U.vm ∧ U.heap = h0) (fun _ _ _ _ _ => True) (fun _ U o U' => ∃ v L, o = .returned v ∧ Q9 Z nd lr h0 n0 v U'.heap L ∧ FrameEnd U o U' L ({ frames := 0, cells := 0, slots := 0, locals := 0 } : Room).cells ({ frames := 0, cells := 0, slots := 0, locals := 0 } : Room).slots) := by
  refine MetFree.of_bodySF (plainFor_of_name pn_9) hisR ?_
  intro p e s m args below meth c s₁ Bd hml0 hP hK
  obtain ⟨rfl, hZ, hh⟩ := hP
  have hx := Bd.exec
  have hby := Bd.bytes
  have hml : c.maxLocals = 1 := hml0
  have hown : s.vm.findClass "com/example/matchstone/matchstone/LevelIndex$Node" = some m.cls := findClass_of_methodNamed Bd.named
  have hnm := (name_of_methodNamed Bd.named Bd.method).1
  have X0 : Stand p l e ({ frames := 0, cells := 0, slots := 0, locals := 0 } : Room) s m #[(.ref nd)] below meth c s₁ [] 0 0 := Stand.of_body Bd
  have e0 : s₁.heap = h0 := by rw [← hh, Bd.state]; rfl
  have N0 := Fr.nil n0
  show Go p e below s (Q9 Z nd lr h0 n0) ({ frames := 0, cells := 0, slots := 0, locals := 0 } : Room).cells ({ frames := 0, cells := 0, slots := 0, locals := 0 } : Room).slots (s₁.setTop (entryFrame m #[(.ref nd)] 1))
  rw [ef_9]
  show Go _ _ _ _ _ _ _ (s₁.setTop (mkF m 0 #[.val (.ref nd)] []))
  refine Go.step (fun t k => XS.aloadN X0.here hx rfl (hb hby d9_0) rfl rfl k) ?_
  show Go _ _ _ _ _ _ _ (s₁.setTop (mkF m 1 #[.val (.ref nd)] [(.ref nd)]))
  obtain ⟨T1, X1, e1, st1⟩ := getF X0 hx hZ hown (host := "") (Or.inl (hw _ (List.mem_of_getElem? (i := 24) rfl))) Via.refl e0 F_levels_nd (g := (mkF m 1 #[.val (.ref nd)] [(.ref nd)])) rfl rfl (hb hby d9_1)
  refine Go.step st1 ?_
  show Go _ _ _ _ _ _ _ (T1.setTop (mkF m 4 #[.val (.ref nd)] [(.ref lr)]))
  refine Go.step (fun t k => XS.ifnullNo X1.here hx rfl (hb hby d9_4) rfl k) ?_
  show Go _ _ _ _ _ _ _ (T1.setTop (mkF m 7 #[.val (.ref nd)] []))
  refine Go.step (fun t k => XS.iconst X1.here hx rfl (hb hby d9_7) k) ?_
  show Go _ _ _ _ _ _ _ (T1.setTop (mkF m 8 #[.val (.ref nd)] [(.int (1 : Int32))]))
  refine Go.step (fun t k => XS.goto X1.here hx rfl (pc0 := 8) (pc' := 12) rfl (hb hby d9_8) (by decide) (by decide) k) ?_
  show Go _ _ _ _ _ _ _ (T1.setTop (mkF m 12 #[.val (.ref nd)] [(.int (1 : Int32))]))
  refine Go.retN X1 Bd.notSynchronized hx (t := .boolean) Bd.returns (by simp) (hb hby d9_12) (by decide) (by decide) (1 : Int32) rfl ?_
  rw [e1]
  exact ⟨rfl, N0, rfl⟩
theorem d11_0 : decode jdk_65_method_30_code 0 = .ok (.iload_n 1, 1) := by decide +kernel
theorem d11_1 : decode jdk_65_method_30_code 1 = .ok (.iload_n 2, 1) := by decide +kernel
theorem d11_2 : decode jdk_65_method_30_code 2 = .ok (.if_icmp .le 44, 3) := by decide +kernel
theorem d11_46 : decode jdk_65_method_30_code 46 = .ok (.iload_n 1, 1) := by decide +kernel
theorem d11_47 : decode jdk_65_method_30_code 47 = .ok (.ifCond .ge 12, 3) := by decide +kernel
theorem d11_59 : decode jdk_65_method_30_code 59 = .ok (.iload_n 2, 1) := by decide +kernel
theorem d11_60 : decode jdk_65_method_30_code 60 = .ok (.iload_n 0, 1) := by decide +kernel
theorem d11_61 : decode jdk_65_method_30_code 61 = .ok (.if_icmp .le 12, 3) := by decide +kernel
theorem d11_73 : decode jdk_65_method_30_code 73 = .ok (.return_, 1) := by decide +kernel
theorem pn_11 : plainName "java/util/Arrays" = true := by first | (simp [plainName, overriddenIn]; done) | decide +kernel
theorem ef_11 (m : MethodId) (x0 : Int32) : entryFrame m #[(.int (65 : Int32)), (.int (0 : Int32)), (.int x0)] 3 = mkF m 0 #[.val (.int (65 : Int32)), .val (.int (0 : Int32)), .val (.int x0)] [] := by first | (simp [entryFrame, mkF, argsToLocals, Value.category]; done) | rfl
def Q11 (Z : State) (sz : Int32) (h0 : Heap) (n0 : Nat) (v : Option Value) (h : Heap) (L : List Loc) : Prop := v = none ∧ Fr n0 L ∧ h = h0
set_option maxRecDepth 65536 in
set_option maxHeartbeats 40000000 in
theorem rm11 (l : Launch) (Z : State) (a0 : Array Value) (hw : ∀ d ∈ tables_1, d.before a0 Z = true) (ws : List Jvm.Cond) (sz : Int32) (h0 : Heap) (n0 : Nat) (Z0 : n0 ≤ h0.size) (hz1 : (¬ sz < (0 : Int32))) (hz2 : (¬ (65 : Int32) < sz)) :
    MetFree l (⟨"java/util/Arrays", "rangeCheck", "(III)V"⟩ : MethodName) (head1 (Jvm.Cond.code (⟨"java/util/Arrays", "rangeCheck", "(III)V"⟩ : MethodName) jdk_65_method_30_code 3 none :: ws) ({ frames := 0, cells := 0, slots := 0, locals := 0 } : Room)) (fun a U => a = #[(.int (65 : Int32)), (.int (0 : Int32)), (.int sz)] ∧ Z.Warmed39 U.vm ∧ U.heap = h0) (fun _ _ _ _ _ => True) (fun _ U o U' => ∃ v L, o = .returned v ∧ Q11 Z sz h0 n0 v U'.heap L ∧ FrameEnd U o U' L ({ frames := 0, cells := 0, slots := 0, locals := 0 } : Room).cells ({ frames := 0, cells := 0, slots := 0, locals := 0 } : Room).slots) := by
  refine MetFree.of_bodySF (plainFor_of_name pn_11) hisR ?_
  intro p e s m args below meth c s₁ Bd hml0 hP hK
  obtain ⟨rfl, hZ, hh⟩ := hP
  have hx := Bd.exec
  have hby := Bd.bytes
  have hml : c.maxLocals = 3 := hml0
  have hown : s.vm.findClass "java/util/Arrays" = some m.cls := findClass_of_methodNamed Bd.named
  have hnm := (name_of_methodNamed Bd.named Bd.method).1
  have X0 : Stand p l e ({ frames := 0, cells := 0, slots := 0, locals := 0 } : Room) s m #[(.int (65 : Int32)), (.int (0 : Int32)), (.int sz)] below meth c s₁ [] 0 0 := Stand.of_body Bd
  have e0 : s₁.heap = h0 := by rw [← hh, Bd.state]; rfl
  have N0 := Fr.nil n0
  show Go p e below s (Q11 Z sz h0 n0) ({ frames := 0, cells := 0, slots := 0, locals := 0 } : Room).cells ({ frames := 0, cells := 0, slots := 0, locals := 0 } : Room).slots (s₁.setTop (entryFrame m #[(.int (65 : Int32)), (.int (0 : Int32)), (.int sz)] 3))
  rw [ef_11]
  show Go _ _ _ _ _ _ _ (s₁.setTop (mkF m 0 #[.val (.int (65 : Int32)), .val (.int (0 : Int32)), .val (.int sz)] []))
  refine Go.step (fun t k => XS.iloadN X0.here hx rfl (hb hby d11_0) rfl (XS.iloadN X0.here hx rfl (hb hby d11_1) rfl k)) ?_
  show Go _ _ _ _ _ _ _ (s₁.setTop (mkF m 2 #[.val (.int (65 : Int32)), .val (.int (0 : Int32)), .val (.int sz)] [(.int sz), (.int (0 : Int32))]))
  refine Go.step (fun t k => XS.icmpYes X0.here hx rfl (pc0 := 2) (pc' := 46) rfl (hb hby d11_2) rfl (flt (hz1 : ¬ sz < (0 : Int32))).2.2.2 (by decide) (by decide) k) ?_
  show Go _ _ _ _ _ _ _ (s₁.setTop (mkF m 46 #[.val (.int (65 : Int32)), .val (.int (0 : Int32)), .val (.int sz)] []))
  refine Go.step (fun t k => XS.iloadN X0.here hx rfl (hb hby d11_46) rfl k) ?_
  show Go _ _ _ _ _ _ _ (s₁.setTop (mkF m 47 #[.val (.int (65 : Int32)), .val (.int (0 : Int32)), .val (.int sz)] [(.int (0 : Int32))]))
  refine Go.step (fun t k => XS.ifYes X0.here hx rfl (pc0 := 47) (pc' := 59) rfl (hb hby d11_47) rfl ((if0 _ _).trans (flt (by decide : ¬ (0 : Int32) < (0 : Int32))).2.1) (by decide) (by decide) k) ?_
  show Go _ _ _ _ _ _ _ (s₁.setTop (mkF m 59 #[.val (.int (65 : Int32)), .val (.int (0 : Int32)), .val (.int sz)] []))
  refine Go.step (fun t k => XS.iloadN X0.here hx rfl (hb hby d11_59) rfl (XS.iloadN X0.here hx rfl (hb hby d11_60) rfl k)) ?_
  show Go _ _ _ _ _ _ _ (s₁.setTop (mkF m 61 #[.val (.int (65 : Int32)), .val (.int (0 : Int32)), .val (.int sz)] [(.int (65 : Int32)), (.int sz)]))
  refine Go.step (fun t k => XS.icmpYes X0.here hx rfl (pc0 := 61) (pc' := 73) rfl (hb hby d11_61) rfl (flt (hz2 : ¬ (65 : Int32) < sz)).2.2.2 (by decide) (by decide) k) ?_
  show Go _ _ _ _ _ _ _ (s₁.setTop (mkF m 73 #[.val (.int (65 : Int32)), .val (.int (0 : Int32)), .val (.int sz)] []))
  refine Go.retV X0 Bd.notSynchronized hx Bd.returns (hb hby d11_73) (by decide) (by decide) ?_
  rw [e0]
  exact ⟨rfl, N0, rfl⟩
theorem d12_0 : decode jdk_65_method_56_code 0 = .ok (.iload_n 1, 1) := by decide +kernel
theorem d12_1 : decode jdk_65_method_56_code 1 = .ok (.istore 5, 2) := by decide +kernel
theorem d12_3 : decode jdk_65_method_56_code 3 = .ok (.iload_n 2, 1) := by decide +kernel
theorem d12_4 : decode jdk_65_method_56_code 4 = .ok (.iconst 1, 1) := by decide +kernel
theorem d12_5 : decode jdk_65_method_56_code 5 = .ok (.isub, 1) := by decide +kernel
theorem d12_6 : decode jdk_65_method_56_code 6 = .ok (.istore 6, 2) := by decide +kernel
theorem d12_8 : decode jdk_65_method_56_code 8 = .ok (.iload 5, 2) := by decide +kernel
theorem d12_10 : decode jdk_65_method_56_code 10 = .ok (.iload 6, 2) := by decide +kernel
theorem d12_12 : decode jdk_65_method_56_code 12 = .ok (.if_icmp .gt 56, 3) := by decide +kernel
theorem d12_15 : decode jdk_65_method_56_code 15 = .ok (.iload 5, 2) := by decide +kernel
theorem d12_17 : decode jdk_65_method_56_code 17 = .ok (.iload 6, 2) := by decide +kernel
theorem d12_19 : decode jdk_65_method_56_code 19 = .ok (.iadd, 1) := by decide +kernel
theorem d12_20 : decode jdk_65_method_56_code 20 = .ok (.iconst 1, 1) := by decide +kernel
theorem d12_21 : decode jdk_65_method_56_code 21 = .ok (.iushr, 1) := by decide +kernel
theorem d12_22 : decode jdk_65_method_56_code 22 = .ok (.istore 7, 2) := by decide +kernel
theorem d12_24 : decode jdk_65_method_56_code 24 = .ok (.aload_n 0, 1) := by decide +kernel
theorem d12_25 : decode jdk_65_method_56_code 25 = .ok (.iload 7, 2) := by decide +kernel
theorem d12_27 : decode jdk_65_method_56_code 27 = .ok (.laload, 1) := by decide +kernel
theorem d12_28 : decode jdk_65_method_56_code 28 = .ok (.lstore 8, 2) := by decide +kernel
theorem d12_30 : decode jdk_65_method_56_code 30 = .ok (.lload 8, 2) := by decide +kernel
theorem d12_32 : decode jdk_65_method_56_code 32 = .ok (.lload_n 3, 1) := by decide +kernel
theorem d12_33 : decode jdk_65_method_56_code 33 = .ok (.lcmp, 1) := by decide +kernel
theorem d12_34 : decode jdk_65_method_56_code 34 = .ok (.ifCond .ge 12, 3) := by decide +kernel
theorem d12_37 : decode jdk_65_method_56_code 37 = .ok (.iload 7, 2) := by decide +kernel
theorem d12_39 : decode jdk_65_method_56_code 39 = .ok (.iconst 1, 1) := by decide +kernel
theorem d12_40 : decode jdk_65_method_56_code 40 = .ok (.iadd, 1) := by decide +kernel
theorem d12_41 : decode jdk_65_method_56_code 41 = .ok (.istore 5, 2) := by decide +kernel
theorem d12_43 : decode jdk_65_method_56_code 43 = .ok (.goto 22, 3) := by decide +kernel
theorem d12_46 : decode jdk_65_method_56_code 46 = .ok (.lload 8, 2) := by decide +kernel
theorem d12_48 : decode jdk_65_method_56_code 48 = .ok (.lload_n 3, 1) := by decide +kernel
theorem d12_49 : decode jdk_65_method_56_code 49 = .ok (.lcmp, 1) := by decide +kernel
theorem d12_50 : decode jdk_65_method_56_code 50 = .ok (.ifCond .le 12, 3) := by decide +kernel
theorem d12_53 : decode jdk_65_method_56_code 53 = .ok (.iload 7, 2) := by decide +kernel
theorem d12_55 : decode jdk_65_method_56_code 55 = .ok (.iconst 1, 1) := by decide +kernel
theorem d12_56 : decode jdk_65_method_56_code 56 = .ok (.isub, 1) := by decide +kernel
theorem d12_57 : decode jdk_65_method_56_code 57 = .ok (.istore 6, 2) := by decide +kernel
theorem d12_59 : decode jdk_65_method_56_code 59 = .ok (.goto 6, 3) := by decide +kernel
theorem d12_62 : decode jdk_65_method_56_code 62 = .ok (.iload 7, 2) := by decide +kernel
theorem d12_64 : decode jdk_65_method_56_code 64 = .ok (.ireturn, 1) := by decide +kernel
theorem d12_65 : decode jdk_65_method_56_code 65 = .ok (.goto (-57), 3) := by decide +kernel
theorem d12_68 : decode jdk_65_method_56_code 68 = .ok (.iload 5, 2) := by decide +kernel
theorem d12_70 : decode jdk_65_method_56_code 70 = .ok (.iconst 1, 1) := by decide +kernel
theorem d12_71 : decode jdk_65_method_56_code 71 = .ok (.iadd, 1) := by decide +kernel
theorem d12_72 : decode jdk_65_method_56_code 72 = .ok (.ineg, 1) := by decide +kernel
theorem d12_73 : decode jdk_65_method_56_code 73 = .ok (.ireturn, 1) := by decide +kernel
theorem pn_12 : plainName "java/util/Arrays" = true := by first | (simp [plainName, overriddenIn]; done) | decide +kernel
theorem ef_12 (m : MethodId) (x0 : Addr) (x1 : Int32) (x2 : Int64) : entryFrame m #[(.ref x0), (.int (0 : Int32)), (.int x1), (.long x2)] 10 = mkF m 0 #[.val (.ref x0), .val (.int (0 : Int32)), .val (.int x1), .val (.long x2), .second, .unset, .unset, .unset, .unset, .unset] [] := by first | (simp [entryFrame, mkF, argsToLocals, Value.category]; done) | rfl
def Q12 (Z : State) (kr : Addr) (sz : Int32) (ky : Int64) (gk : Nat → Int64) (n : Nat) (h0 : Heap) (n0 : Nat) (v : Option Value) (h : Heap) (L : List Loc) : Prop := ∃ r : Int32, v = some (.int r) ∧ Fr n0 L ∧ h = h0 ∧ (own_found n gk ky r)
set_option maxRecDepth 65536 in
set_option maxHeartbeats 40000000 in
theorem rm12 (l : Launch) (Z : State) (a0 : Array Value) (hw : ∀ d ∈ tables_1, d.before a0 Z = true) (ws : List Jvm.Cond) (kr : Addr) (sz : Int32) (ky : Int64) (gk : Nat → Int64) (n : Nat) (h0 : Heap) (n0 : Nat) (Z0 : n0 ≤ h0.size) (A_kr : AryJ Z h0 kr 65 gk) (hz : (sz.toInt = (n : Int))) (hn1 : (1 ≤ n)) (hn : (n ≤ 3)) (hs : (own_srt n gk)) :
    MetFree l (⟨"java/util/Arrays", "binarySearch0", "([JIIJ)I"⟩ : MethodName) (head1 (Jvm.Cond.code (⟨"java/util/Arrays", "binarySearch0", "([JIIJ)I"⟩ : MethodName) jdk_65_method_56_code 10 (some .int) :: ws) ({ frames := 0, cells := 0, slots := 0, locals := 0 } : Room)) (fun a U => a = #[(.ref kr), (.int (0 : Int32)), (.int sz), (.long ky)] ∧ Z.Warmed39 U.vm ∧ U.heap = h0) (fun _ _ _ _ _ => True) (fun _ U o U' => ∃ v L, o = .returned v ∧ Q12 Z kr sz ky gk n h0 n0 v U'.heap L ∧ FrameEnd U o U' L ({ frames := 0, cells := 0, slots := 0, locals := 0 } : Room).cells ({ frames := 0, cells := 0, slots := 0, locals := 0 } : Room).slots) := by
  refine MetFree.of_bodySF (plainFor_of_name pn_12) hisR ?_
  intro p e s m args below meth c s₁ Bd hml0 hP hK
  obtain ⟨rfl, hZ, hh⟩ := hP
  have hx := Bd.exec
  have hby := Bd.bytes
  have hml : c.maxLocals = 10 := hml0
  have hown : s.vm.findClass "java/util/Arrays" = some m.cls := findClass_of_methodNamed Bd.named
  have hnm := (name_of_methodNamed Bd.named Bd.method).1
  have X0 : Stand p l e ({ frames := 0, cells := 0, slots := 0, locals := 0 } : Room) s m #[(.ref kr), (.int (0 : Int32)), (.int sz), (.long ky)] below meth c s₁ [] 0 0 := Stand.of_body Bd
  have e0 : s₁.heap = h0 := by rw [← hh, Bd.state]; rfl
  have N0 := Fr.nil n0
  show Go p e below s (Q12 Z kr sz ky gk n h0 n0) ({ frames := 0, cells := 0, slots := 0, locals := 0 } : Room).cells ({ frames := 0, cells := 0, slots := 0, locals := 0 } : Room).slots (s₁.setTop (entryFrame m #[(.ref kr), (.int (0 : Int32)), (.int sz), (.long ky)] 10))
  rw [ef_12]
  show Go _ _ _ _ _ _ _ (s₁.setTop (mkF m 0 #[.val (.ref kr), .val (.int (0 : Int32)), .val (.int sz), .val (.long ky), .second, .unset, .unset, .unset, .unset, .unset] []))
  rcases own_n3 hz hn1 hn with ⟨rfl, rfl⟩ | ⟨rfl, rfl⟩ | ⟨rfl, rfl⟩
  · show Go _ _ _ _ _ _ _ (s₁.setTop (mkF m 0 #[.val (.ref kr), .val (.int (0 : Int32)), .val (.int (1 : Int32)), .val (.long ky), .second, .unset, .unset, .unset, .unset, .unset] []))
    refine Go.step (fun t k => XS.iloadN X0.here hx rfl (hb hby d12_0) rfl (XS.istore X0.here hx rfl (hb hby d12_1) rfl (l' := #[.val (.ref kr), .val (.int (0 : Int32)), .val (.int (1 : Int32)), .val (.long ky), .second, .val (.int (0 : Int32)), .unset, .unset, .unset, .unset]) rfl (XS.iloadN X0.here hx rfl (hb hby d12_3) rfl (XS.iconst X0.here hx rfl (hb hby d12_4) (XS.isub X0.here hx rfl (hb hby d12_5) rfl (XS.istore X0.here hx rfl (hb hby d12_6) rfl (l' := #[.val (.ref kr), .val (.int (0 : Int32)), .val (.int (1 : Int32)), .val (.long ky), .second, .val (.int (0 : Int32)), .val (.int (0 : Int32)), .unset, .unset, .unset]) rfl (XS.iload X0.here hx rfl (hb hby d12_8) rfl (XS.iload X0.here hx rfl (hb hby d12_10) rfl k)))))))) ?_
    show Go _ _ _ _ _ _ _ (s₁.setTop (mkF m 12 #[.val (.ref kr), .val (.int (0 : Int32)), .val (.int (1 : Int32)), .val (.long ky), .second, .val (.int (0 : Int32)), .val (.int (0 : Int32)), .unset, .unset, .unset] [(.int (0 : Int32)), (.int (0 : Int32))]))
    refine Go.step (fun t k => XS.icmpNo X0.here hx rfl (hb hby d12_12) rfl (flt (by decide : ¬ (0 : Int32) < (0 : Int32))).2.2.1 k) ?_
    show Go _ _ _ _ _ _ _ (s₁.setTop (mkF m 15 #[.val (.ref kr), .val (.int (0 : Int32)), .val (.int (1 : Int32)), .val (.long ky), .second, .val (.int (0 : Int32)), .val (.int (0 : Int32)), .unset, .unset, .unset] []))
    refine Go.step (fun t k => XS.iload X0.here hx rfl (hb hby d12_15) rfl (XS.iload X0.here hx rfl (hb hby d12_17) rfl (XS.iadd X0.here hx rfl (hb hby d12_19) rfl (XS.iconst X0.here hx rfl (hb hby d12_20) (XS.iushr X0.here hx rfl (hb hby d12_21) rfl (XS.istore X0.here hx rfl (hb hby d12_22) rfl (l' := #[.val (.ref kr), .val (.int (0 : Int32)), .val (.int (1 : Int32)), .val (.long ky), .second, .val (.int (0 : Int32)), .val (.int (0 : Int32)), .val (.int (0 : Int32)), .unset, .unset]) rfl (XS.aloadN X0.here hx rfl (hb hby d12_24) rfl rfl (XS.iload X0.here hx rfl (hb hby d12_25) rfl k)))))))) ?_
    show Go _ _ _ _ _ _ _ (s₁.setTop (mkF m 27 #[.val (.ref kr), .val (.int (0 : Int32)), .val (.int (1 : Int32)), .val (.long ky), .second, .val (.int (0 : Int32)), .val (.int (0 : Int32)), .val (.int (0 : Int32)), .unset, .unset] [(.int (0 : Int32)), (.ref kr)]))
    refine Go.step (own_ld X0 hx hZ e0 A_kr (j := (0 : Int32)) 0 rfl (by decide) (v := (.long (gk 0))) rfl (Or.inr (Or.inl ⟨rfl, rfl⟩)) (f := (mkF m 27 #[.val (.ref kr), .val (.int (0 : Int32)), .val (.int (1 : Int32)), .val (.long ky), .second, .val (.int (0 : Int32)), .val (.int (0 : Int32)), .val (.int (0 : Int32)), .unset, .unset] [(.int (0 : Int32)), (.ref kr)])) rfl rfl (hb hby d12_27)) ?_
    show Go _ _ _ _ _ _ _ (s₁.setTop (mkF m 28 #[.val (.ref kr), .val (.int (0 : Int32)), .val (.int (1 : Int32)), .val (.long ky), .second, .val (.int (0 : Int32)), .val (.int (0 : Int32)), .val (.int (0 : Int32)), .unset, .unset] [(.long (gk 0))]))
    refine Go.step (fun t k => XS.lstore X0.here hx rfl (hb hby d12_28) rfl (l' := #[.val (.ref kr), .val (.int (0 : Int32)), .val (.int (1 : Int32)), .val (.long ky), .second, .val (.int (0 : Int32)), .val (.int (0 : Int32)), .val (.int (0 : Int32)), .val (.long (gk 0)), .second]) rfl (XS.lload X0.here hx rfl (hb hby d12_30) rfl (XS.lloadN X0.here hx rfl (hb hby d12_32) rfl (XS.lcmp X0.here hx rfl (hb hby d12_33) rfl k)))) ?_
    show Go _ _ _ _ _ _ _ (s₁.setTop (mkF m 34 #[.val (.ref kr), .val (.int (0 : Int32)), .val (.int (1 : Int32)), .val (.long ky), .second, .val (.int (0 : Int32)), .val (.int (0 : Int32)), .val (.int (0 : Int32)), .val (.long (gk 0)), .second] [(.int (lcmpW (gk 0) ky))]))
    by_cases hc34_2 : (gk 0) < ky
    · refine Go.step (fun t k => XS.ifNo X0.here hx rfl (hb hby d12_34) rfl ((if0 _ _).trans (tlt (own_lwlt hc34_2)).2.1) k) ?_
      show Go _ _ _ _ _ _ _ (s₁.setTop (mkF m 37 #[.val (.ref kr), .val (.int (0 : Int32)), .val (.int (1 : Int32)), .val (.long ky), .second, .val (.int (0 : Int32)), .val (.int (0 : Int32)), .val (.int (0 : Int32)), .val (.long (gk 0)), .second] []))
      refine Go.step (fun t k => XS.iload X0.here hx rfl (hb hby d12_37) rfl (XS.iconst X0.here hx rfl (hb hby d12_39) (XS.iadd X0.here hx rfl (hb hby d12_40) rfl (XS.istore X0.here hx rfl (hb hby d12_41) rfl (l' := #[.val (.ref kr), .val (.int (0 : Int32)), .val (.int (1 : Int32)), .val (.long ky), .second, .val (.int (1 : Int32)), .val (.int (0 : Int32)), .val (.int (0 : Int32)), .val (.long (gk 0)), .second]) rfl k)))) ?_
      show Go _ _ _ _ _ _ _ (s₁.setTop (mkF m 43 #[.val (.ref kr), .val (.int (0 : Int32)), .val (.int (1 : Int32)), .val (.long ky), .second, .val (.int (1 : Int32)), .val (.int (0 : Int32)), .val (.int (0 : Int32)), .val (.long (gk 0)), .second] []))
      refine Go.step (fun t k => XS.goto X0.here hx rfl (pc0 := 43) (pc' := 65) rfl (hb hby d12_43) (by decide) (by decide) k) ?_
      show Go _ _ _ _ _ _ _ (s₁.setTop (mkF m 65 #[.val (.ref kr), .val (.int (0 : Int32)), .val (.int (1 : Int32)), .val (.long ky), .second, .val (.int (1 : Int32)), .val (.int (0 : Int32)), .val (.int (0 : Int32)), .val (.long (gk 0)), .second] []))
      refine Go.step (fun t k => XS.goto X0.here hx rfl (pc0 := 65) (pc' := 8) rfl (hb hby d12_65) (by decide) (by decide) (XS.iload X0.here hx rfl (hb hby d12_8) rfl (XS.iload X0.here hx rfl (hb hby d12_10) rfl k))) ?_
      show Go _ _ _ _ _ _ _ (s₁.setTop (mkF m 12 #[.val (.ref kr), .val (.int (0 : Int32)), .val (.int (1 : Int32)), .val (.long ky), .second, .val (.int (1 : Int32)), .val (.int (0 : Int32)), .val (.int (0 : Int32)), .val (.long (gk 0)), .second] [(.int (0 : Int32)), (.int (1 : Int32))]))
      refine Go.step (fun t k => XS.icmpYes X0.here hx rfl (pc0 := 12) (pc' := 68) rfl (hb hby d12_12) rfl (tlt (by decide : (0 : Int32) < (1 : Int32))).2.2.1 (by decide) (by decide) k) ?_
      show Go _ _ _ _ _ _ _ (s₁.setTop (mkF m 68 #[.val (.ref kr), .val (.int (0 : Int32)), .val (.int (1 : Int32)), .val (.long ky), .second, .val (.int (1 : Int32)), .val (.int (0 : Int32)), .val (.int (0 : Int32)), .val (.long (gk 0)), .second] []))
      refine Go.step (fun t k => XS.iload X0.here hx rfl (hb hby d12_68) rfl (XS.iconst X0.here hx rfl (hb hby d12_70) (XS.iadd X0.here hx rfl (hb hby d12_71) rfl (XS.ineg X0.here hx rfl (hb hby d12_72) rfl k)))) ?_
      show Go _ _ _ _ _ _ _ (s₁.setTop (mkF m 73 #[.val (.ref kr), .val (.int (0 : Int32)), .val (.int (1 : Int32)), .val (.long ky), .second, .val (.int (1 : Int32)), .val (.int (0 : Int32)), .val (.int (0 : Int32)), .val (.long (gk 0)), .second] [(.int (-(2 : Int32)))]))
      refine Go.retI X0 Bd.notSynchronized hx Bd.returns (hb hby d12_73) (by decide) (by decide) ?_
      rw [e0]
      exact ⟨(-(2 : Int32)), rfl, N0, rfl, (Or.inr ⟨1, by decide, by decide, own_nf hs 1 (by decide) (Or.inr hc34_2) (Or.inl rfl)⟩)⟩
    · refine Go.step (fun t k => XS.ifYes X0.here hx rfl (pc0 := 34) (pc' := 46) rfl (hb hby d12_34) rfl ((if0 _ _).trans (flt (own_nlwlt hc34_2)).2.1) (by decide) (by decide) k) ?_
      show Go _ _ _ _ _ _ _ (s₁.setTop (mkF m 46 #[.val (.ref kr), .val (.int (0 : Int32)), .val (.int (1 : Int32)), .val (.long ky), .second, .val (.int (0 : Int32)), .val (.int (0 : Int32)), .val (.int (0 : Int32)), .val (.long (gk 0)), .second] []))
      refine Go.step (fun t k => XS.lload X0.here hx rfl (hb hby d12_46) rfl (XS.lloadN X0.here hx rfl (hb hby d12_48) rfl (XS.lcmp X0.here hx rfl (hb hby d12_49) rfl k))) ?_
      show Go _ _ _ _ _ _ _ (s₁.setTop (mkF m 50 #[.val (.ref kr), .val (.int (0 : Int32)), .val (.int (1 : Int32)), .val (.long ky), .second, .val (.int (0 : Int32)), .val (.int (0 : Int32)), .val (.int (0 : Int32)), .val (.long (gk 0)), .second] [(.int (lcmpW (gk 0) ky))]))
      by_cases hc50_3 : ky < (gk 0)
      · refine Go.step (fun t k => XS.ifNo X0.here hx rfl (hb hby d12_50) rfl ((if0 _ _).trans (tlt (own_lwgt hc50_3)).2.2.2) k) ?_
        show Go _ _ _ _ _ _ _ (s₁.setTop (mkF m 53 #[.val (.ref kr), .val (.int (0 : Int32)), .val (.int (1 : Int32)), .val (.long ky), .second, .val (.int (0 : Int32)), .val (.int (0 : Int32)), .val (.int (0 : Int32)), .val (.long (gk 0)), .second] []))
        refine Go.step (fun t k => XS.iload X0.here hx rfl (hb hby d12_53) rfl (XS.iconst X0.here hx rfl (hb hby d12_55) (XS.isub X0.here hx rfl (hb hby d12_56) rfl (XS.istore X0.here hx rfl (hb hby d12_57) rfl (l' := #[.val (.ref kr), .val (.int (0 : Int32)), .val (.int (1 : Int32)), .val (.long ky), .second, .val (.int (0 : Int32)), .val (.int (-1 : Int32)), .val (.int (0 : Int32)), .val (.long (gk 0)), .second]) rfl k)))) ?_
        show Go _ _ _ _ _ _ _ (s₁.setTop (mkF m 59 #[.val (.ref kr), .val (.int (0 : Int32)), .val (.int (1 : Int32)), .val (.long ky), .second, .val (.int (0 : Int32)), .val (.int (-1 : Int32)), .val (.int (0 : Int32)), .val (.long (gk 0)), .second] []))
        refine Go.step (fun t k => XS.goto X0.here hx rfl (pc0 := 59) (pc' := 65) rfl (hb hby d12_59) (by decide) (by decide) k) ?_
        show Go _ _ _ _ _ _ _ (s₁.setTop (mkF m 65 #[.val (.ref kr), .val (.int (0 : Int32)), .val (.int (1 : Int32)), .val (.long ky), .second, .val (.int (0 : Int32)), .val (.int (-1 : Int32)), .val (.int (0 : Int32)), .val (.long (gk 0)), .second] []))
        refine Go.step (fun t k => XS.goto X0.here hx rfl (pc0 := 65) (pc' := 8) rfl (hb hby d12_65) (by decide) (by decide) (XS.iload X0.here hx rfl (hb hby d12_8) rfl (XS.iload X0.here hx rfl (hb hby d12_10) rfl k))) ?_
        show Go _ _ _ _ _ _ _ (s₁.setTop (mkF m 12 #[.val (.ref kr), .val (.int (0 : Int32)), .val (.int (1 : Int32)), .val (.long ky), .second, .val (.int (0 : Int32)), .val (.int (-1 : Int32)), .val (.int (0 : Int32)), .val (.long (gk 0)), .second] [(.int (-1 : Int32)), (.int (0 : Int32))]))
        refine Go.step (fun t k => XS.icmpYes X0.here hx rfl (pc0 := 12) (pc' := 68) rfl (hb hby d12_12) rfl (tlt (by decide : (-1 : Int32) < (0 : Int32))).2.2.1 (by decide) (by decide) k) ?_
        show Go _ _ _ _ _ _ _ (s₁.setTop (mkF m 68 #[.val (.ref kr), .val (.int (0 : Int32)), .val (.int (1 : Int32)), .val (.long ky), .second, .val (.int (0 : Int32)), .val (.int (-1 : Int32)), .val (.int (0 : Int32)), .val (.long (gk 0)), .second] []))
        refine Go.step (fun t k => XS.iload X0.here hx rfl (hb hby d12_68) rfl (XS.iconst X0.here hx rfl (hb hby d12_70) (XS.iadd X0.here hx rfl (hb hby d12_71) rfl (XS.ineg X0.here hx rfl (hb hby d12_72) rfl k)))) ?_
        show Go _ _ _ _ _ _ _ (s₁.setTop (mkF m 73 #[.val (.ref kr), .val (.int (0 : Int32)), .val (.int (1 : Int32)), .val (.long ky), .second, .val (.int (0 : Int32)), .val (.int (-1 : Int32)), .val (.int (0 : Int32)), .val (.long (gk 0)), .second] [(.int (-(1 : Int32)))]))
        refine Go.retI X0 Bd.notSynchronized hx Bd.returns (hb hby d12_73) (by decide) (by decide) ?_
        rw [e0]
        exact ⟨(-(1 : Int32)), rfl, N0, rfl, (Or.inr ⟨0, by decide, by decide, own_nf hs 0 (by decide) (Or.inl rfl) (Or.inr hc50_3)⟩)⟩
      · refine Go.step (fun t k => XS.ifYes X0.here hx rfl (pc0 := 50) (pc' := 62) rfl (hb hby d12_50) rfl ((if0 _ _).trans (flt (own_nlwgt hc50_3)).2.2.2) (by decide) (by decide) k) ?_
        show Go _ _ _ _ _ _ _ (s₁.setTop (mkF m 62 #[.val (.ref kr), .val (.int (0 : Int32)), .val (.int (1 : Int32)), .val (.long ky), .second, .val (.int (0 : Int32)), .val (.int (0 : Int32)), .val (.int (0 : Int32)), .val (.long (gk 0)), .second] []))
        refine Go.step (fun t k => XS.iload X0.here hx rfl (hb hby d12_62) rfl k) ?_
        show Go _ _ _ _ _ _ _ (s₁.setTop (mkF m 64 #[.val (.ref kr), .val (.int (0 : Int32)), .val (.int (1 : Int32)), .val (.long ky), .second, .val (.int (0 : Int32)), .val (.int (0 : Int32)), .val (.int (0 : Int32)), .val (.long (gk 0)), .second] [(.int (0 : Int32))]))
        refine Go.retI X0 Bd.notSynchronized hx Bd.returns (hb hby d12_64) (by decide) (by decide) ?_
        rw [e0]
        exact ⟨(0 : Int32), rfl, N0, rfl, (Or.inl ⟨0, by decide, by decide, own_eqk hc34_2 hc50_3⟩)⟩
  · show Go _ _ _ _ _ _ _ (s₁.setTop (mkF m 0 #[.val (.ref kr), .val (.int (0 : Int32)), .val (.int (2 : Int32)), .val (.long ky), .second, .unset, .unset, .unset, .unset, .unset] []))
    refine Go.step (fun t k => XS.iloadN X0.here hx rfl (hb hby d12_0) rfl (XS.istore X0.here hx rfl (hb hby d12_1) rfl (l' := #[.val (.ref kr), .val (.int (0 : Int32)), .val (.int (2 : Int32)), .val (.long ky), .second, .val (.int (0 : Int32)), .unset, .unset, .unset, .unset]) rfl (XS.iloadN X0.here hx rfl (hb hby d12_3) rfl (XS.iconst X0.here hx rfl (hb hby d12_4) (XS.isub X0.here hx rfl (hb hby d12_5) rfl (XS.istore X0.here hx rfl (hb hby d12_6) rfl (l' := #[.val (.ref kr), .val (.int (0 : Int32)), .val (.int (2 : Int32)), .val (.long ky), .second, .val (.int (0 : Int32)), .val (.int (1 : Int32)), .unset, .unset, .unset]) rfl (XS.iload X0.here hx rfl (hb hby d12_8) rfl (XS.iload X0.here hx rfl (hb hby d12_10) rfl k)))))))) ?_
    show Go _ _ _ _ _ _ _ (s₁.setTop (mkF m 12 #[.val (.ref kr), .val (.int (0 : Int32)), .val (.int (2 : Int32)), .val (.long ky), .second, .val (.int (0 : Int32)), .val (.int (1 : Int32)), .unset, .unset, .unset] [(.int (1 : Int32)), (.int (0 : Int32))]))
    refine Go.step (fun t k => XS.icmpNo X0.here hx rfl (hb hby d12_12) rfl (flt (by decide : ¬ (1 : Int32) < (0 : Int32))).2.2.1 k) ?_
    show Go _ _ _ _ _ _ _ (s₁.setTop (mkF m 15 #[.val (.ref kr), .val (.int (0 : Int32)), .val (.int (2 : Int32)), .val (.long ky), .second, .val (.int (0 : Int32)), .val (.int (1 : Int32)), .unset, .unset, .unset] []))
    refine Go.step (fun t k => XS.iload X0.here hx rfl (hb hby d12_15) rfl (XS.iload X0.here hx rfl (hb hby d12_17) rfl (XS.iadd X0.here hx rfl (hb hby d12_19) rfl (XS.iconst X0.here hx rfl (hb hby d12_20) (XS.iushr X0.here hx rfl (hb hby d12_21) rfl (XS.istore X0.here hx rfl (hb hby d12_22) rfl (l' := #[.val (.ref kr), .val (.int (0 : Int32)), .val (.int (2 : Int32)), .val (.long ky), .second, .val (.int (0 : Int32)), .val (.int (1 : Int32)), .val (.int (0 : Int32)), .unset, .unset]) rfl (XS.aloadN X0.here hx rfl (hb hby d12_24) rfl rfl (XS.iload X0.here hx rfl (hb hby d12_25) rfl k)))))))) ?_
    show Go _ _ _ _ _ _ _ (s₁.setTop (mkF m 27 #[.val (.ref kr), .val (.int (0 : Int32)), .val (.int (2 : Int32)), .val (.long ky), .second, .val (.int (0 : Int32)), .val (.int (1 : Int32)), .val (.int (0 : Int32)), .unset, .unset] [(.int (0 : Int32)), (.ref kr)]))
    refine Go.step (own_ld X0 hx hZ e0 A_kr (j := (0 : Int32)) 0 rfl (by decide) (v := (.long (gk 0))) rfl (Or.inr (Or.inl ⟨rfl, rfl⟩)) (f := (mkF m 27 #[.val (.ref kr), .val (.int (0 : Int32)), .val (.int (2 : Int32)), .val (.long ky), .second, .val (.int (0 : Int32)), .val (.int (1 : Int32)), .val (.int (0 : Int32)), .unset, .unset] [(.int (0 : Int32)), (.ref kr)])) rfl rfl (hb hby d12_27)) ?_
    show Go _ _ _ _ _ _ _ (s₁.setTop (mkF m 28 #[.val (.ref kr), .val (.int (0 : Int32)), .val (.int (2 : Int32)), .val (.long ky), .second, .val (.int (0 : Int32)), .val (.int (1 : Int32)), .val (.int (0 : Int32)), .unset, .unset] [(.long (gk 0))]))
    refine Go.step (fun t k => XS.lstore X0.here hx rfl (hb hby d12_28) rfl (l' := #[.val (.ref kr), .val (.int (0 : Int32)), .val (.int (2 : Int32)), .val (.long ky), .second, .val (.int (0 : Int32)), .val (.int (1 : Int32)), .val (.int (0 : Int32)), .val (.long (gk 0)), .second]) rfl (XS.lload X0.here hx rfl (hb hby d12_30) rfl (XS.lloadN X0.here hx rfl (hb hby d12_32) rfl (XS.lcmp X0.here hx rfl (hb hby d12_33) rfl k)))) ?_
    show Go _ _ _ _ _ _ _ (s₁.setTop (mkF m 34 #[.val (.ref kr), .val (.int (0 : Int32)), .val (.int (2 : Int32)), .val (.long ky), .second, .val (.int (0 : Int32)), .val (.int (1 : Int32)), .val (.int (0 : Int32)), .val (.long (gk 0)), .second] [(.int (lcmpW (gk 0) ky))]))
    by_cases hc34_5 : (gk 0) < ky
    · refine Go.step (fun t k => XS.ifNo X0.here hx rfl (hb hby d12_34) rfl ((if0 _ _).trans (tlt (own_lwlt hc34_5)).2.1) k) ?_
      show Go _ _ _ _ _ _ _ (s₁.setTop (mkF m 37 #[.val (.ref kr), .val (.int (0 : Int32)), .val (.int (2 : Int32)), .val (.long ky), .second, .val (.int (0 : Int32)), .val (.int (1 : Int32)), .val (.int (0 : Int32)), .val (.long (gk 0)), .second] []))
      refine Go.step (fun t k => XS.iload X0.here hx rfl (hb hby d12_37) rfl (XS.iconst X0.here hx rfl (hb hby d12_39) (XS.iadd X0.here hx rfl (hb hby d12_40) rfl (XS.istore X0.here hx rfl (hb hby d12_41) rfl (l' := #[.val (.ref kr), .val (.int (0 : Int32)), .val (.int (2 : Int32)), .val (.long ky), .second, .val (.int (1 : Int32)), .val (.int (1 : Int32)), .val (.int (0 : Int32)), .val (.long (gk 0)), .second]) rfl k)))) ?_
      show Go _ _ _ _ _ _ _ (s₁.setTop (mkF m 43 #[.val (.ref kr), .val (.int (0 : Int32)), .val (.int (2 : Int32)), .val (.long ky), .second, .val (.int (1 : Int32)), .val (.int (1 : Int32)), .val (.int (0 : Int32)), .val (.long (gk 0)), .second] []))
      refine Go.step (fun t k => XS.goto X0.here hx rfl (pc0 := 43) (pc' := 65) rfl (hb hby d12_43) (by decide) (by decide) k) ?_
      show Go _ _ _ _ _ _ _ (s₁.setTop (mkF m 65 #[.val (.ref kr), .val (.int (0 : Int32)), .val (.int (2 : Int32)), .val (.long ky), .second, .val (.int (1 : Int32)), .val (.int (1 : Int32)), .val (.int (0 : Int32)), .val (.long (gk 0)), .second] []))
      refine Go.step (fun t k => XS.goto X0.here hx rfl (pc0 := 65) (pc' := 8) rfl (hb hby d12_65) (by decide) (by decide) (XS.iload X0.here hx rfl (hb hby d12_8) rfl (XS.iload X0.here hx rfl (hb hby d12_10) rfl k))) ?_
      show Go _ _ _ _ _ _ _ (s₁.setTop (mkF m 12 #[.val (.ref kr), .val (.int (0 : Int32)), .val (.int (2 : Int32)), .val (.long ky), .second, .val (.int (1 : Int32)), .val (.int (1 : Int32)), .val (.int (0 : Int32)), .val (.long (gk 0)), .second] [(.int (1 : Int32)), (.int (1 : Int32))]))
      refine Go.step (fun t k => XS.icmpNo X0.here hx rfl (hb hby d12_12) rfl (flt (by decide : ¬ (1 : Int32) < (1 : Int32))).2.2.1 k) ?_
      show Go _ _ _ _ _ _ _ (s₁.setTop (mkF m 15 #[.val (.ref kr), .val (.int (0 : Int32)), .val (.int (2 : Int32)), .val (.long ky), .second, .val (.int (1 : Int32)), .val (.int (1 : Int32)), .val (.int (0 : Int32)), .val (.long (gk 0)), .second] []))
      refine Go.step (fun t k => XS.iload X0.here hx rfl (hb hby d12_15) rfl (XS.iload X0.here hx rfl (hb hby d12_17) rfl (XS.iadd X0.here hx rfl (hb hby d12_19) rfl (XS.iconst X0.here hx rfl (hb hby d12_20) (XS.iushr X0.here hx rfl (hb hby d12_21) rfl (XS.istore X0.here hx rfl (hb hby d12_22) rfl (l' := #[.val (.ref kr), .val (.int (0 : Int32)), .val (.int (2 : Int32)), .val (.long ky), .second, .val (.int (1 : Int32)), .val (.int (1 : Int32)), .val (.int (1 : Int32)), .val (.long (gk 0)), .second]) rfl (XS.aloadN X0.here hx rfl (hb hby d12_24) rfl rfl (XS.iload X0.here hx rfl (hb hby d12_25) rfl k)))))))) ?_
      show Go _ _ _ _ _ _ _ (s₁.setTop (mkF m 27 #[.val (.ref kr), .val (.int (0 : Int32)), .val (.int (2 : Int32)), .val (.long ky), .second, .val (.int (1 : Int32)), .val (.int (1 : Int32)), .val (.int (1 : Int32)), .val (.long (gk 0)), .second] [(.int (1 : Int32)), (.ref kr)]))
      refine Go.step (own_ld X0 hx hZ e0 A_kr (j := (1 : Int32)) 1 rfl (by decide) (v := (.long (gk 1))) rfl (Or.inr (Or.inl ⟨rfl, rfl⟩)) (f := (mkF m 27 #[.val (.ref kr), .val (.int (0 : Int32)), .val (.int (2 : Int32)), .val (.long ky), .second, .val (.int (1 : Int32)), .val (.int (1 : Int32)), .val (.int (1 : Int32)), .val (.long (gk 0)), .second] [(.int (1 : Int32)), (.ref kr)])) rfl rfl (hb hby d12_27)) ?_
      show Go _ _ _ _ _ _ _ (s₁.setTop (mkF m 28 #[.val (.ref kr), .val (.int (0 : Int32)), .val (.int (2 : Int32)), .val (.long ky), .second, .val (.int (1 : Int32)), .val (.int (1 : Int32)), .val (.int (1 : Int32)), .val (.long (gk 0)), .second] [(.long (gk 1))]))
      refine Go.step (fun t k => XS.lstore X0.here hx rfl (hb hby d12_28) rfl (l' := #[.val (.ref kr), .val (.int (0 : Int32)), .val (.int (2 : Int32)), .val (.long ky), .second, .val (.int (1 : Int32)), .val (.int (1 : Int32)), .val (.int (1 : Int32)), .val (.long (gk 1)), .second]) rfl (XS.lload X0.here hx rfl (hb hby d12_30) rfl (XS.lloadN X0.here hx rfl (hb hby d12_32) rfl (XS.lcmp X0.here hx rfl (hb hby d12_33) rfl k)))) ?_
      show Go _ _ _ _ _ _ _ (s₁.setTop (mkF m 34 #[.val (.ref kr), .val (.int (0 : Int32)), .val (.int (2 : Int32)), .val (.long ky), .second, .val (.int (1 : Int32)), .val (.int (1 : Int32)), .val (.int (1 : Int32)), .val (.long (gk 1)), .second] [(.int (lcmpW (gk 1) ky))]))
      by_cases hc34_7 : (gk 1) < ky
      · refine Go.step (fun t k => XS.ifNo X0.here hx rfl (hb hby d12_34) rfl ((if0 _ _).trans (tlt (own_lwlt hc34_7)).2.1) k) ?_
        show Go _ _ _ _ _ _ _ (s₁.setTop (mkF m 37 #[.val (.ref kr), .val (.int (0 : Int32)), .val (.int (2 : Int32)), .val (.long ky), .second, .val (.int (1 : Int32)), .val (.int (1 : Int32)), .val (.int (1 : Int32)), .val (.long (gk 1)), .second] []))
        refine Go.step (fun t k => XS.iload X0.here hx rfl (hb hby d12_37) rfl (XS.iconst X0.here hx rfl (hb hby d12_39) (XS.iadd X0.here hx rfl (hb hby d12_40) rfl (XS.istore X0.here hx rfl (hb hby d12_41) rfl (l' := #[.val (.ref kr), .val (.int (0 : Int32)), .val (.int (2 : Int32)), .val (.long ky), .second, .val (.int (2 : Int32)), .val (.int (1 : Int32)), .val (.int (1 : Int32)), .val (.long (gk 1)), .second]) rfl k)))) ?_
        show Go _ _ _ _ _ _ _ (s₁.setTop (mkF m 43 #[.val (.ref kr), .val (.int (0 : Int32)), .val (.int (2 : Int32)), .val (.long ky), .second, .val (.int (2 : Int32)), .val (.int (1 : Int32)), .val (.int (1 : Int32)), .val (.long (gk 1)), .second] []))
        refine Go.step (fun t k => XS.goto X0.here hx rfl (pc0 := 43) (pc' := 65) rfl (hb hby d12_43) (by decide) (by decide) k) ?_
        show Go _ _ _ _ _ _ _ (s₁.setTop (mkF m 65 #[.val (.ref kr), .val (.int (0 : Int32)), .val (.int (2 : Int32)), .val (.long ky), .second, .val (.int (2 : Int32)), .val (.int (1 : Int32)), .val (.int (1 : Int32)), .val (.long (gk 1)), .second] []))
        refine Go.step (fun t k => XS.goto X0.here hx rfl (pc0 := 65) (pc' := 8) rfl (hb hby d12_65) (by decide) (by decide) (XS.iload X0.here hx rfl (hb hby d12_8) rfl (XS.iload X0.here hx rfl (hb hby d12_10) rfl k))) ?_
        show Go _ _ _ _ _ _ _ (s₁.setTop (mkF m 12 #[.val (.ref kr), .val (.int (0 : Int32)), .val (.int (2 : Int32)), .val (.long ky), .second, .val (.int (2 : Int32)), .val (.int (1 : Int32)), .val (.int (1 : Int32)), .val (.long (gk 1)), .second] [(.int (1 : Int32)), (.int (2 : Int32))]))
        refine Go.step (fun t k => XS.icmpYes X0.here hx rfl (pc0 := 12) (pc' := 68) rfl (hb hby d12_12) rfl (tlt (by decide : (1 : Int32) < (2 : Int32))).2.2.1 (by decide) (by decide) k) ?_
        show Go _ _ _ _ _ _ _ (s₁.setTop (mkF m 68 #[.val (.ref kr), .val (.int (0 : Int32)), .val (.int (2 : Int32)), .val (.long ky), .second, .val (.int (2 : Int32)), .val (.int (1 : Int32)), .val (.int (1 : Int32)), .val (.long (gk 1)), .second] []))
        refine Go.step (fun t k => XS.iload X0.here hx rfl (hb hby d12_68) rfl (XS.iconst X0.here hx rfl (hb hby d12_70) (XS.iadd X0.here hx rfl (hb hby d12_71) rfl (XS.ineg X0.here hx rfl (hb hby d12_72) rfl k)))) ?_
        show Go _ _ _ _ _ _ _ (s₁.setTop (mkF m 73 #[.val (.ref kr), .val (.int (0 : Int32)), .val (.int (2 : Int32)), .val (.long ky), .second, .val (.int (2 : Int32)), .val (.int (1 : Int32)), .val (.int (1 : Int32)), .val (.long (gk 1)), .second] [(.int (-(3 : Int32)))]))
        refine Go.retI X0 Bd.notSynchronized hx Bd.returns (hb hby d12_73) (by decide) (by decide) ?_
        rw [e0]
        exact ⟨(-(3 : Int32)), rfl, N0, rfl, (Or.inr ⟨2, by decide, by decide, own_nf hs 2 (by decide) (Or.inr hc34_7) (Or.inl rfl)⟩)⟩
      · refine Go.step (fun t k => XS.ifYes X0.here hx rfl (pc0 := 34) (pc' := 46) rfl (hb hby d12_34) rfl ((if0 _ _).trans (flt (own_nlwlt hc34_7)).2.1) (by decide) (by decide) k) ?_
        show Go _ _ _ _ _ _ _ (s₁.setTop (mkF m 46 #[.val (.ref kr), .val (.int (0 : Int32)), .val (.int (2 : Int32)), .val (.long ky), .second, .val (.int (1 : Int32)), .val (.int (1 : Int32)), .val (.int (1 : Int32)), .val (.long (gk 1)), .second] []))
        refine Go.step (fun t k => XS.lload X0.here hx rfl (hb hby d12_46) rfl (XS.lloadN X0.here hx rfl (hb hby d12_48) rfl (XS.lcmp X0.here hx rfl (hb hby d12_49) rfl k))) ?_
        show Go _ _ _ _ _ _ _ (s₁.setTop (mkF m 50 #[.val (.ref kr), .val (.int (0 : Int32)), .val (.int (2 : Int32)), .val (.long ky), .second, .val (.int (1 : Int32)), .val (.int (1 : Int32)), .val (.int (1 : Int32)), .val (.long (gk 1)), .second] [(.int (lcmpW (gk 1) ky))]))
        by_cases hc50_8 : ky < (gk 1)
        · refine Go.step (fun t k => XS.ifNo X0.here hx rfl (hb hby d12_50) rfl ((if0 _ _).trans (tlt (own_lwgt hc50_8)).2.2.2) k) ?_
          show Go _ _ _ _ _ _ _ (s₁.setTop (mkF m 53 #[.val (.ref kr), .val (.int (0 : Int32)), .val (.int (2 : Int32)), .val (.long ky), .second, .val (.int (1 : Int32)), .val (.int (1 : Int32)), .val (.int (1 : Int32)), .val (.long (gk 1)), .second] []))
          refine Go.step (fun t k => XS.iload X0.here hx rfl (hb hby d12_53) rfl (XS.iconst X0.here hx rfl (hb hby d12_55) (XS.isub X0.here hx rfl (hb hby d12_56) rfl (XS.istore X0.here hx rfl (hb hby d12_57) rfl (l' := #[.val (.ref kr), .val (.int (0 : Int32)), .val (.int (2 : Int32)), .val (.long ky), .second, .val (.int (1 : Int32)), .val (.int (0 : Int32)), .val (.int (1 : Int32)), .val (.long (gk 1)), .second]) rfl k)))) ?_
          show Go _ _ _ _ _ _ _ (s₁.setTop (mkF m 59 #[.val (.ref kr), .val (.int (0 : Int32)), .val (.int (2 : Int32)), .val (.long ky), .second, .val (.int (1 : Int32)), .val (.int (0 : Int32)), .val (.int (1 : Int32)), .val (.long (gk 1)), .second] []))
          refine Go.step (fun t k => XS.goto X0.here hx rfl (pc0 := 59) (pc' := 65) rfl (hb hby d12_59) (by decide) (by decide) k) ?_
          show Go _ _ _ _ _ _ _ (s₁.setTop (mkF m 65 #[.val (.ref kr), .val (.int (0 : Int32)), .val (.int (2 : Int32)), .val (.long ky), .second, .val (.int (1 : Int32)), .val (.int (0 : Int32)), .val (.int (1 : Int32)), .val (.long (gk 1)), .second] []))
          refine Go.step (fun t k => XS.goto X0.here hx rfl (pc0 := 65) (pc' := 8) rfl (hb hby d12_65) (by decide) (by decide) (XS.iload X0.here hx rfl (hb hby d12_8) rfl (XS.iload X0.here hx rfl (hb hby d12_10) rfl k))) ?_
          show Go _ _ _ _ _ _ _ (s₁.setTop (mkF m 12 #[.val (.ref kr), .val (.int (0 : Int32)), .val (.int (2 : Int32)), .val (.long ky), .second, .val (.int (1 : Int32)), .val (.int (0 : Int32)), .val (.int (1 : Int32)), .val (.long (gk 1)), .second] [(.int (0 : Int32)), (.int (1 : Int32))]))
          refine Go.step (fun t k => XS.icmpYes X0.here hx rfl (pc0 := 12) (pc' := 68) rfl (hb hby d12_12) rfl (tlt (by decide : (0 : Int32) < (1 : Int32))).2.2.1 (by decide) (by decide) k) ?_
          show Go _ _ _ _ _ _ _ (s₁.setTop (mkF m 68 #[.val (.ref kr), .val (.int (0 : Int32)), .val (.int (2 : Int32)), .val (.long ky), .second, .val (.int (1 : Int32)), .val (.int (0 : Int32)), .val (.int (1 : Int32)), .val (.long (gk 1)), .second] []))
          refine Go.step (fun t k => XS.iload X0.here hx rfl (hb hby d12_68) rfl (XS.iconst X0.here hx rfl (hb hby d12_70) (XS.iadd X0.here hx rfl (hb hby d12_71) rfl (XS.ineg X0.here hx rfl (hb hby d12_72) rfl k)))) ?_
          show Go _ _ _ _ _ _ _ (s₁.setTop (mkF m 73 #[.val (.ref kr), .val (.int (0 : Int32)), .val (.int (2 : Int32)), .val (.long ky), .second, .val (.int (1 : Int32)), .val (.int (0 : Int32)), .val (.int (1 : Int32)), .val (.long (gk 1)), .second] [(.int (-(2 : Int32)))]))
          refine Go.retI X0 Bd.notSynchronized hx Bd.returns (hb hby d12_73) (by decide) (by decide) ?_
          rw [e0]
          exact ⟨(-(2 : Int32)), rfl, N0, rfl, (Or.inr ⟨1, by decide, by decide, own_nf hs 1 (by decide) (Or.inr hc34_5) (Or.inr hc50_8)⟩)⟩
        · refine Go.step (fun t k => XS.ifYes X0.here hx rfl (pc0 := 50) (pc' := 62) rfl (hb hby d12_50) rfl ((if0 _ _).trans (flt (own_nlwgt hc50_8)).2.2.2) (by decide) (by decide) k) ?_
          show Go _ _ _ _ _ _ _ (s₁.setTop (mkF m 62 #[.val (.ref kr), .val (.int (0 : Int32)), .val (.int (2 : Int32)), .val (.long ky), .second, .val (.int (1 : Int32)), .val (.int (1 : Int32)), .val (.int (1 : Int32)), .val (.long (gk 1)), .second] []))
          refine Go.step (fun t k => XS.iload X0.here hx rfl (hb hby d12_62) rfl k) ?_
          show Go _ _ _ _ _ _ _ (s₁.setTop (mkF m 64 #[.val (.ref kr), .val (.int (0 : Int32)), .val (.int (2 : Int32)), .val (.long ky), .second, .val (.int (1 : Int32)), .val (.int (1 : Int32)), .val (.int (1 : Int32)), .val (.long (gk 1)), .second] [(.int (1 : Int32))]))
          refine Go.retI X0 Bd.notSynchronized hx Bd.returns (hb hby d12_64) (by decide) (by decide) ?_
          rw [e0]
          exact ⟨(1 : Int32), rfl, N0, rfl, (Or.inl ⟨1, by decide, by decide, own_eqk hc34_7 hc50_8⟩)⟩
    · refine Go.step (fun t k => XS.ifYes X0.here hx rfl (pc0 := 34) (pc' := 46) rfl (hb hby d12_34) rfl ((if0 _ _).trans (flt (own_nlwlt hc34_5)).2.1) (by decide) (by decide) k) ?_
      show Go _ _ _ _ _ _ _ (s₁.setTop (mkF m 46 #[.val (.ref kr), .val (.int (0 : Int32)), .val (.int (2 : Int32)), .val (.long ky), .second, .val (.int (0 : Int32)), .val (.int (1 : Int32)), .val (.int (0 : Int32)), .val (.long (gk 0)), .second] []))
      refine Go.step (fun t k => XS.lload X0.here hx rfl (hb hby d12_46) rfl (XS.lloadN X0.here hx rfl (hb hby d12_48) rfl (XS.lcmp X0.here hx rfl (hb hby d12_49) rfl k))) ?_
      show Go _ _ _ _ _ _ _ (s₁.setTop (mkF m 50 #[.val (.ref kr), .val (.int (0 : Int32)), .val (.int (2 : Int32)), .val (.long ky), .second, .val (.int (0 : Int32)), .val (.int (1 : Int32)), .val (.int (0 : Int32)), .val (.long (gk 0)), .second] [(.int (lcmpW (gk 0) ky))]))
      by_cases hc50_9 : ky < (gk 0)
      · refine Go.step (fun t k => XS.ifNo X0.here hx rfl (hb hby d12_50) rfl ((if0 _ _).trans (tlt (own_lwgt hc50_9)).2.2.2) k) ?_
        show Go _ _ _ _ _ _ _ (s₁.setTop (mkF m 53 #[.val (.ref kr), .val (.int (0 : Int32)), .val (.int (2 : Int32)), .val (.long ky), .second, .val (.int (0 : Int32)), .val (.int (1 : Int32)), .val (.int (0 : Int32)), .val (.long (gk 0)), .second] []))
        refine Go.step (fun t k => XS.iload X0.here hx rfl (hb hby d12_53) rfl (XS.iconst X0.here hx rfl (hb hby d12_55) (XS.isub X0.here hx rfl (hb hby d12_56) rfl (XS.istore X0.here hx rfl (hb hby d12_57) rfl (l' := #[.val (.ref kr), .val (.int (0 : Int32)), .val (.int (2 : Int32)), .val (.long ky), .second, .val (.int (0 : Int32)), .val (.int (-1 : Int32)), .val (.int (0 : Int32)), .val (.long (gk 0)), .second]) rfl k)))) ?_
        show Go _ _ _ _ _ _ _ (s₁.setTop (mkF m 59 #[.val (.ref kr), .val (.int (0 : Int32)), .val (.int (2 : Int32)), .val (.long ky), .second, .val (.int (0 : Int32)), .val (.int (-1 : Int32)), .val (.int (0 : Int32)), .val (.long (gk 0)), .second] []))
        refine Go.step (fun t k => XS.goto X0.here hx rfl (pc0 := 59) (pc' := 65) rfl (hb hby d12_59) (by decide) (by decide) k) ?_
        show Go _ _ _ _ _ _ _ (s₁.setTop (mkF m 65 #[.val (.ref kr), .val (.int (0 : Int32)), .val (.int (2 : Int32)), .val (.long ky), .second, .val (.int (0 : Int32)), .val (.int (-1 : Int32)), .val (.int (0 : Int32)), .val (.long (gk 0)), .second] []))
        refine Go.step (fun t k => XS.goto X0.here hx rfl (pc0 := 65) (pc' := 8) rfl (hb hby d12_65) (by decide) (by decide) (XS.iload X0.here hx rfl (hb hby d12_8) rfl (XS.iload X0.here hx rfl (hb hby d12_10) rfl k))) ?_
        show Go _ _ _ _ _ _ _ (s₁.setTop (mkF m 12 #[.val (.ref kr), .val (.int (0 : Int32)), .val (.int (2 : Int32)), .val (.long ky), .second, .val (.int (0 : Int32)), .val (.int (-1 : Int32)), .val (.int (0 : Int32)), .val (.long (gk 0)), .second] [(.int (-1 : Int32)), (.int (0 : Int32))]))
        refine Go.step (fun t k => XS.icmpYes X0.here hx rfl (pc0 := 12) (pc' := 68) rfl (hb hby d12_12) rfl (tlt (by decide : (-1 : Int32) < (0 : Int32))).2.2.1 (by decide) (by decide) k) ?_
        show Go _ _ _ _ _ _ _ (s₁.setTop (mkF m 68 #[.val (.ref kr), .val (.int (0 : Int32)), .val (.int (2 : Int32)), .val (.long ky), .second, .val (.int (0 : Int32)), .val (.int (-1 : Int32)), .val (.int (0 : Int32)), .val (.long (gk 0)), .second] []))
        refine Go.step (fun t k => XS.iload X0.here hx rfl (hb hby d12_68) rfl (XS.iconst X0.here hx rfl (hb hby d12_70) (XS.iadd X0.here hx rfl (hb hby d12_71) rfl (XS.ineg X0.here hx rfl (hb hby d12_72) rfl k)))) ?_
        show Go _ _ _ _ _ _ _ (s₁.setTop (mkF m 73 #[.val (.ref kr), .val (.int (0 : Int32)), .val (.int (2 : Int32)), .val (.long ky), .second, .val (.int (0 : Int32)), .val (.int (-1 : Int32)), .val (.int (0 : Int32)), .val (.long (gk 0)), .second] [(.int (-(1 : Int32)))]))
        refine Go.retI X0 Bd.notSynchronized hx Bd.returns (hb hby d12_73) (by decide) (by decide) ?_
        rw [e0]
        exact ⟨(-(1 : Int32)), rfl, N0, rfl, (Or.inr ⟨0, by decide, by decide, own_nf hs 0 (by decide) (Or.inl rfl) (Or.inr hc50_9)⟩)⟩
      · refine Go.step (fun t k => XS.ifYes X0.here hx rfl (pc0 := 50) (pc' := 62) rfl (hb hby d12_50) rfl ((if0 _ _).trans (flt (own_nlwgt hc50_9)).2.2.2) (by decide) (by decide) k) ?_
        show Go _ _ _ _ _ _ _ (s₁.setTop (mkF m 62 #[.val (.ref kr), .val (.int (0 : Int32)), .val (.int (2 : Int32)), .val (.long ky), .second, .val (.int (0 : Int32)), .val (.int (1 : Int32)), .val (.int (0 : Int32)), .val (.long (gk 0)), .second] []))
        refine Go.step (fun t k => XS.iload X0.here hx rfl (hb hby d12_62) rfl k) ?_
        show Go _ _ _ _ _ _ _ (s₁.setTop (mkF m 64 #[.val (.ref kr), .val (.int (0 : Int32)), .val (.int (2 : Int32)), .val (.long ky), .second, .val (.int (0 : Int32)), .val (.int (1 : Int32)), .val (.int (0 : Int32)), .val (.long (gk 0)), .second] [(.int (0 : Int32))]))
        refine Go.retI X0 Bd.notSynchronized hx Bd.returns (hb hby d12_64) (by decide) (by decide) ?_
        rw [e0]
        exact ⟨(0 : Int32), rfl, N0, rfl, (Or.inl ⟨0, by decide, by decide, own_eqk hc34_5 hc50_9⟩)⟩
  · show Go _ _ _ _ _ _ _ (s₁.setTop (mkF m 0 #[.val (.ref kr), .val (.int (0 : Int32)), .val (.int (3 : Int32)), .val (.long ky), .second, .unset, .unset, .unset, .unset, .unset] []))
    refine Go.step (fun t k => XS.iloadN X0.here hx rfl (hb hby d12_0) rfl (XS.istore X0.here hx rfl (hb hby d12_1) rfl (l' := #[.val (.ref kr), .val (.int (0 : Int32)), .val (.int (3 : Int32)), .val (.long ky), .second, .val (.int (0 : Int32)), .unset, .unset, .unset, .unset]) rfl (XS.iloadN X0.here hx rfl (hb hby d12_3) rfl (XS.iconst X0.here hx rfl (hb hby d12_4) (XS.isub X0.here hx rfl (hb hby d12_5) rfl (XS.istore X0.here hx rfl (hb hby d12_6) rfl (l' := #[.val (.ref kr), .val (.int (0 : Int32)), .val (.int (3 : Int32)), .val (.long ky), .second, .val (.int (0 : Int32)), .val (.int (2 : Int32)), .unset, .unset, .unset]) rfl (XS.iload X0.here hx rfl (hb hby d12_8) rfl (XS.iload X0.here hx rfl (hb hby d12_10) rfl k)))))))) ?_
    show Go _ _ _ _ _ _ _ (s₁.setTop (mkF m 12 #[.val (.ref kr), .val (.int (0 : Int32)), .val (.int (3 : Int32)), .val (.long ky), .second, .val (.int (0 : Int32)), .val (.int (2 : Int32)), .unset, .unset, .unset] [(.int (2 : Int32)), (.int (0 : Int32))]))
    refine Go.step (fun t k => XS.icmpNo X0.here hx rfl (hb hby d12_12) rfl (flt (by decide : ¬ (2 : Int32) < (0 : Int32))).2.2.1 k) ?_
    show Go _ _ _ _ _ _ _ (s₁.setTop (mkF m 15 #[.val (.ref kr), .val (.int (0 : Int32)), .val (.int (3 : Int32)), .val (.long ky), .second, .val (.int (0 : Int32)), .val (.int (2 : Int32)), .unset, .unset, .unset] []))
    refine Go.step (fun t k => XS.iload X0.here hx rfl (hb hby d12_15) rfl (XS.iload X0.here hx rfl (hb hby d12_17) rfl (XS.iadd X0.here hx rfl (hb hby d12_19) rfl (XS.iconst X0.here hx rfl (hb hby d12_20) (XS.iushr X0.here hx rfl (hb hby d12_21) rfl (XS.istore X0.here hx rfl (hb hby d12_22) rfl (l' := #[.val (.ref kr), .val (.int (0 : Int32)), .val (.int (3 : Int32)), .val (.long ky), .second, .val (.int (0 : Int32)), .val (.int (2 : Int32)), .val (.int (1 : Int32)), .unset, .unset]) rfl (XS.aloadN X0.here hx rfl (hb hby d12_24) rfl rfl (XS.iload X0.here hx rfl (hb hby d12_25) rfl k)))))))) ?_
    show Go _ _ _ _ _ _ _ (s₁.setTop (mkF m 27 #[.val (.ref kr), .val (.int (0 : Int32)), .val (.int (3 : Int32)), .val (.long ky), .second, .val (.int (0 : Int32)), .val (.int (2 : Int32)), .val (.int (1 : Int32)), .unset, .unset] [(.int (1 : Int32)), (.ref kr)]))
    refine Go.step (own_ld X0 hx hZ e0 A_kr (j := (1 : Int32)) 1 rfl (by decide) (v := (.long (gk 1))) rfl (Or.inr (Or.inl ⟨rfl, rfl⟩)) (f := (mkF m 27 #[.val (.ref kr), .val (.int (0 : Int32)), .val (.int (3 : Int32)), .val (.long ky), .second, .val (.int (0 : Int32)), .val (.int (2 : Int32)), .val (.int (1 : Int32)), .unset, .unset] [(.int (1 : Int32)), (.ref kr)])) rfl rfl (hb hby d12_27)) ?_
    show Go _ _ _ _ _ _ _ (s₁.setTop (mkF m 28 #[.val (.ref kr), .val (.int (0 : Int32)), .val (.int (3 : Int32)), .val (.long ky), .second, .val (.int (0 : Int32)), .val (.int (2 : Int32)), .val (.int (1 : Int32)), .unset, .unset] [(.long (gk 1))]))
    refine Go.step (fun t k => XS.lstore X0.here hx rfl (hb hby d12_28) rfl (l' := #[.val (.ref kr), .val (.int (0 : Int32)), .val (.int (3 : Int32)), .val (.long ky), .second, .val (.int (0 : Int32)), .val (.int (2 : Int32)), .val (.int (1 : Int32)), .val (.long (gk 1)), .second]) rfl (XS.lload X0.here hx rfl (hb hby d12_30) rfl (XS.lloadN X0.here hx rfl (hb hby d12_32) rfl (XS.lcmp X0.here hx rfl (hb hby d12_33) rfl k)))) ?_
    show Go _ _ _ _ _ _ _ (s₁.setTop (mkF m 34 #[.val (.ref kr), .val (.int (0 : Int32)), .val (.int (3 : Int32)), .val (.long ky), .second, .val (.int (0 : Int32)), .val (.int (2 : Int32)), .val (.int (1 : Int32)), .val (.long (gk 1)), .second] [(.int (lcmpW (gk 1) ky))]))
    by_cases hc34_11 : (gk 1) < ky
    · refine Go.step (fun t k => XS.ifNo X0.here hx rfl (hb hby d12_34) rfl ((if0 _ _).trans (tlt (own_lwlt hc34_11)).2.1) k) ?_
      show Go _ _ _ _ _ _ _ (s₁.setTop (mkF m 37 #[.val (.ref kr), .val (.int (0 : Int32)), .val (.int (3 : Int32)), .val (.long ky), .second, .val (.int (0 : Int32)), .val (.int (2 : Int32)), .val (.int (1 : Int32)), .val (.long (gk 1)), .second] []))
      refine Go.step (fun t k => XS.iload X0.here hx rfl (hb hby d12_37) rfl (XS.iconst X0.here hx rfl (hb hby d12_39) (XS.iadd X0.here hx rfl (hb hby d12_40) rfl (XS.istore X0.here hx rfl (hb hby d12_41) rfl (l' := #[.val (.ref kr), .val (.int (0 : Int32)), .val (.int (3 : Int32)), .val (.long ky), .second, .val (.int (2 : Int32)), .val (.int (2 : Int32)), .val (.int (1 : Int32)), .val (.long (gk 1)), .second]) rfl k)))) ?_
      show Go _ _ _ _ _ _ _ (s₁.setTop (mkF m 43 #[.val (.ref kr), .val (.int (0 : Int32)), .val (.int (3 : Int32)), .val (.long ky), .second, .val (.int (2 : Int32)), .val (.int (2 : Int32)), .val (.int (1 : Int32)), .val (.long (gk 1)), .second] []))
      refine Go.step (fun t k => XS.goto X0.here hx rfl (pc0 := 43) (pc' := 65) rfl (hb hby d12_43) (by decide) (by decide) k) ?_
      show Go _ _ _ _ _ _ _ (s₁.setTop (mkF m 65 #[.val (.ref kr), .val (.int (0 : Int32)), .val (.int (3 : Int32)), .val (.long ky), .second, .val (.int (2 : Int32)), .val (.int (2 : Int32)), .val (.int (1 : Int32)), .val (.long (gk 1)), .second] []))
      refine Go.step (fun t k => XS.goto X0.here hx rfl (pc0 := 65) (pc' := 8) rfl (hb hby d12_65) (by decide) (by decide) (XS.iload X0.here hx rfl (hb hby d12_8) rfl (XS.iload X0.here hx rfl (hb hby d12_10) rfl k))) ?_
      show Go _ _ _ _ _ _ _ (s₁.setTop (mkF m 12 #[.val (.ref kr), .val (.int (0 : Int32)), .val (.int (3 : Int32)), .val (.long ky), .second, .val (.int (2 : Int32)), .val (.int (2 : Int32)), .val (.int (1 : Int32)), .val (.long (gk 1)), .second] [(.int (2 : Int32)), (.int (2 : Int32))]))
      refine Go.step (fun t k => XS.icmpNo X0.here hx rfl (hb hby d12_12) rfl (flt (by decide : ¬ (2 : Int32) < (2 : Int32))).2.2.1 k) ?_
      show Go _ _ _ _ _ _ _ (s₁.setTop (mkF m 15 #[.val (.ref kr), .val (.int (0 : Int32)), .val (.int (3 : Int32)), .val (.long ky), .second, .val (.int (2 : Int32)), .val (.int (2 : Int32)), .val (.int (1 : Int32)), .val (.long (gk 1)), .second] []))
      refine Go.step (fun t k => XS.iload X0.here hx rfl (hb hby d12_15) rfl (XS.iload X0.here hx rfl (hb hby d12_17) rfl (XS.iadd X0.here hx rfl (hb hby d12_19) rfl (XS.iconst X0.here hx rfl (hb hby d12_20) (XS.iushr X0.here hx rfl (hb hby d12_21) rfl (XS.istore X0.here hx rfl (hb hby d12_22) rfl (l' := #[.val (.ref kr), .val (.int (0 : Int32)), .val (.int (3 : Int32)), .val (.long ky), .second, .val (.int (2 : Int32)), .val (.int (2 : Int32)), .val (.int (2 : Int32)), .val (.long (gk 1)), .second]) rfl (XS.aloadN X0.here hx rfl (hb hby d12_24) rfl rfl (XS.iload X0.here hx rfl (hb hby d12_25) rfl k)))))))) ?_
      show Go _ _ _ _ _ _ _ (s₁.setTop (mkF m 27 #[.val (.ref kr), .val (.int (0 : Int32)), .val (.int (3 : Int32)), .val (.long ky), .second, .val (.int (2 : Int32)), .val (.int (2 : Int32)), .val (.int (2 : Int32)), .val (.long (gk 1)), .second] [(.int (2 : Int32)), (.ref kr)]))
      refine Go.step (own_ld X0 hx hZ e0 A_kr (j := (2 : Int32)) 2 rfl (by decide) (v := (.long (gk 2))) rfl (Or.inr (Or.inl ⟨rfl, rfl⟩)) (f := (mkF m 27 #[.val (.ref kr), .val (.int (0 : Int32)), .val (.int (3 : Int32)), .val (.long ky), .second, .val (.int (2 : Int32)), .val (.int (2 : Int32)), .val (.int (2 : Int32)), .val (.long (gk 1)), .second] [(.int (2 : Int32)), (.ref kr)])) rfl rfl (hb hby d12_27)) ?_
      show Go _ _ _ _ _ _ _ (s₁.setTop (mkF m 28 #[.val (.ref kr), .val (.int (0 : Int32)), .val (.int (3 : Int32)), .val (.long ky), .second, .val (.int (2 : Int32)), .val (.int (2 : Int32)), .val (.int (2 : Int32)), .val (.long (gk 1)), .second] [(.long (gk 2))]))
      refine Go.step (fun t k => XS.lstore X0.here hx rfl (hb hby d12_28) rfl (l' := #[.val (.ref kr), .val (.int (0 : Int32)), .val (.int (3 : Int32)), .val (.long ky), .second, .val (.int (2 : Int32)), .val (.int (2 : Int32)), .val (.int (2 : Int32)), .val (.long (gk 2)), .second]) rfl (XS.lload X0.here hx rfl (hb hby d12_30) rfl (XS.lloadN X0.here hx rfl (hb hby d12_32) rfl (XS.lcmp X0.here hx rfl (hb hby d12_33) rfl k)))) ?_
      show Go _ _ _ _ _ _ _ (s₁.setTop (mkF m 34 #[.val (.ref kr), .val (.int (0 : Int32)), .val (.int (3 : Int32)), .val (.long ky), .second, .val (.int (2 : Int32)), .val (.int (2 : Int32)), .val (.int (2 : Int32)), .val (.long (gk 2)), .second] [(.int (lcmpW (gk 2) ky))]))
      by_cases hc34_13 : (gk 2) < ky
      · refine Go.step (fun t k => XS.ifNo X0.here hx rfl (hb hby d12_34) rfl ((if0 _ _).trans (tlt (own_lwlt hc34_13)).2.1) k) ?_
        show Go _ _ _ _ _ _ _ (s₁.setTop (mkF m 37 #[.val (.ref kr), .val (.int (0 : Int32)), .val (.int (3 : Int32)), .val (.long ky), .second, .val (.int (2 : Int32)), .val (.int (2 : Int32)), .val (.int (2 : Int32)), .val (.long (gk 2)), .second] []))
        refine Go.step (fun t k => XS.iload X0.here hx rfl (hb hby d12_37) rfl (XS.iconst X0.here hx rfl (hb hby d12_39) (XS.iadd X0.here hx rfl (hb hby d12_40) rfl (XS.istore X0.here hx rfl (hb hby d12_41) rfl (l' := #[.val (.ref kr), .val (.int (0 : Int32)), .val (.int (3 : Int32)), .val (.long ky), .second, .val (.int (3 : Int32)), .val (.int (2 : Int32)), .val (.int (2 : Int32)), .val (.long (gk 2)), .second]) rfl k)))) ?_
        show Go _ _ _ _ _ _ _ (s₁.setTop (mkF m 43 #[.val (.ref kr), .val (.int (0 : Int32)), .val (.int (3 : Int32)), .val (.long ky), .second, .val (.int (3 : Int32)), .val (.int (2 : Int32)), .val (.int (2 : Int32)), .val (.long (gk 2)), .second] []))
        refine Go.step (fun t k => XS.goto X0.here hx rfl (pc0 := 43) (pc' := 65) rfl (hb hby d12_43) (by decide) (by decide) k) ?_
        show Go _ _ _ _ _ _ _ (s₁.setTop (mkF m 65 #[.val (.ref kr), .val (.int (0 : Int32)), .val (.int (3 : Int32)), .val (.long ky), .second, .val (.int (3 : Int32)), .val (.int (2 : Int32)), .val (.int (2 : Int32)), .val (.long (gk 2)), .second] []))
        refine Go.step (fun t k => XS.goto X0.here hx rfl (pc0 := 65) (pc' := 8) rfl (hb hby d12_65) (by decide) (by decide) (XS.iload X0.here hx rfl (hb hby d12_8) rfl (XS.iload X0.here hx rfl (hb hby d12_10) rfl k))) ?_
        show Go _ _ _ _ _ _ _ (s₁.setTop (mkF m 12 #[.val (.ref kr), .val (.int (0 : Int32)), .val (.int (3 : Int32)), .val (.long ky), .second, .val (.int (3 : Int32)), .val (.int (2 : Int32)), .val (.int (2 : Int32)), .val (.long (gk 2)), .second] [(.int (2 : Int32)), (.int (3 : Int32))]))
        refine Go.step (fun t k => XS.icmpYes X0.here hx rfl (pc0 := 12) (pc' := 68) rfl (hb hby d12_12) rfl (tlt (by decide : (2 : Int32) < (3 : Int32))).2.2.1 (by decide) (by decide) k) ?_
        show Go _ _ _ _ _ _ _ (s₁.setTop (mkF m 68 #[.val (.ref kr), .val (.int (0 : Int32)), .val (.int (3 : Int32)), .val (.long ky), .second, .val (.int (3 : Int32)), .val (.int (2 : Int32)), .val (.int (2 : Int32)), .val (.long (gk 2)), .second] []))
        refine Go.step (fun t k => XS.iload X0.here hx rfl (hb hby d12_68) rfl (XS.iconst X0.here hx rfl (hb hby d12_70) (XS.iadd X0.here hx rfl (hb hby d12_71) rfl (XS.ineg X0.here hx rfl (hb hby d12_72) rfl k)))) ?_
        show Go _ _ _ _ _ _ _ (s₁.setTop (mkF m 73 #[.val (.ref kr), .val (.int (0 : Int32)), .val (.int (3 : Int32)), .val (.long ky), .second, .val (.int (3 : Int32)), .val (.int (2 : Int32)), .val (.int (2 : Int32)), .val (.long (gk 2)), .second] [(.int (-(4 : Int32)))]))
        refine Go.retI X0 Bd.notSynchronized hx Bd.returns (hb hby d12_73) (by decide) (by decide) ?_
        rw [e0]
        exact ⟨(-(4 : Int32)), rfl, N0, rfl, (Or.inr ⟨3, by decide, by decide, own_nf hs 3 (by decide) (Or.inr hc34_13) (Or.inl rfl)⟩)⟩
      · refine Go.step (fun t k => XS.ifYes X0.here hx rfl (pc0 := 34) (pc' := 46) rfl (hb hby d12_34) rfl ((if0 _ _).trans (flt (own_nlwlt hc34_13)).2.1) (by decide) (by decide) k) ?_
        show Go _ _ _ _ _ _ _ (s₁.setTop (mkF m 46 #[.val (.ref kr), .val (.int (0 : Int32)), .val (.int (3 : Int32)), .val (.long ky), .second, .val (.int (2 : Int32)), .val (.int (2 : Int32)), .val (.int (2 : Int32)), .val (.long (gk 2)), .second] []))
        refine Go.step (fun t k => XS.lload X0.here hx rfl (hb hby d12_46) rfl (XS.lloadN X0.here hx rfl (hb hby d12_48) rfl (XS.lcmp X0.here hx rfl (hb hby d12_49) rfl k))) ?_
        show Go _ _ _ _ _ _ _ (s₁.setTop (mkF m 50 #[.val (.ref kr), .val (.int (0 : Int32)), .val (.int (3 : Int32)), .val (.long ky), .second, .val (.int (2 : Int32)), .val (.int (2 : Int32)), .val (.int (2 : Int32)), .val (.long (gk 2)), .second] [(.int (lcmpW (gk 2) ky))]))
        by_cases hc50_14 : ky < (gk 2)
        · refine Go.step (fun t k => XS.ifNo X0.here hx rfl (hb hby d12_50) rfl ((if0 _ _).trans (tlt (own_lwgt hc50_14)).2.2.2) k) ?_
          show Go _ _ _ _ _ _ _ (s₁.setTop (mkF m 53 #[.val (.ref kr), .val (.int (0 : Int32)), .val (.int (3 : Int32)), .val (.long ky), .second, .val (.int (2 : Int32)), .val (.int (2 : Int32)), .val (.int (2 : Int32)), .val (.long (gk 2)), .second] []))
          refine Go.step (fun t k => XS.iload X0.here hx rfl (hb hby d12_53) rfl (XS.iconst X0.here hx rfl (hb hby d12_55) (XS.isub X0.here hx rfl (hb hby d12_56) rfl (XS.istore X0.here hx rfl (hb hby d12_57) rfl (l' := #[.val (.ref kr), .val (.int (0 : Int32)), .val (.int (3 : Int32)), .val (.long ky), .second, .val (.int (2 : Int32)), .val (.int (1 : Int32)), .val (.int (2 : Int32)), .val (.long (gk 2)), .second]) rfl k)))) ?_
          show Go _ _ _ _ _ _ _ (s₁.setTop (mkF m 59 #[.val (.ref kr), .val (.int (0 : Int32)), .val (.int (3 : Int32)), .val (.long ky), .second, .val (.int (2 : Int32)), .val (.int (1 : Int32)), .val (.int (2 : Int32)), .val (.long (gk 2)), .second] []))
          refine Go.step (fun t k => XS.goto X0.here hx rfl (pc0 := 59) (pc' := 65) rfl (hb hby d12_59) (by decide) (by decide) k) ?_
          show Go _ _ _ _ _ _ _ (s₁.setTop (mkF m 65 #[.val (.ref kr), .val (.int (0 : Int32)), .val (.int (3 : Int32)), .val (.long ky), .second, .val (.int (2 : Int32)), .val (.int (1 : Int32)), .val (.int (2 : Int32)), .val (.long (gk 2)), .second] []))
          refine Go.step (fun t k => XS.goto X0.here hx rfl (pc0 := 65) (pc' := 8) rfl (hb hby d12_65) (by decide) (by decide) (XS.iload X0.here hx rfl (hb hby d12_8) rfl (XS.iload X0.here hx rfl (hb hby d12_10) rfl k))) ?_
          show Go _ _ _ _ _ _ _ (s₁.setTop (mkF m 12 #[.val (.ref kr), .val (.int (0 : Int32)), .val (.int (3 : Int32)), .val (.long ky), .second, .val (.int (2 : Int32)), .val (.int (1 : Int32)), .val (.int (2 : Int32)), .val (.long (gk 2)), .second] [(.int (1 : Int32)), (.int (2 : Int32))]))
          refine Go.step (fun t k => XS.icmpYes X0.here hx rfl (pc0 := 12) (pc' := 68) rfl (hb hby d12_12) rfl (tlt (by decide : (1 : Int32) < (2 : Int32))).2.2.1 (by decide) (by decide) k) ?_
          show Go _ _ _ _ _ _ _ (s₁.setTop (mkF m 68 #[.val (.ref kr), .val (.int (0 : Int32)), .val (.int (3 : Int32)), .val (.long ky), .second, .val (.int (2 : Int32)), .val (.int (1 : Int32)), .val (.int (2 : Int32)), .val (.long (gk 2)), .second] []))
          refine Go.step (fun t k => XS.iload X0.here hx rfl (hb hby d12_68) rfl (XS.iconst X0.here hx rfl (hb hby d12_70) (XS.iadd X0.here hx rfl (hb hby d12_71) rfl (XS.ineg X0.here hx rfl (hb hby d12_72) rfl k)))) ?_
          show Go _ _ _ _ _ _ _ (s₁.setTop (mkF m 73 #[.val (.ref kr), .val (.int (0 : Int32)), .val (.int (3 : Int32)), .val (.long ky), .second, .val (.int (2 : Int32)), .val (.int (1 : Int32)), .val (.int (2 : Int32)), .val (.long (gk 2)), .second] [(.int (-(3 : Int32)))]))
          refine Go.retI X0 Bd.notSynchronized hx Bd.returns (hb hby d12_73) (by decide) (by decide) ?_
          rw [e0]
          exact ⟨(-(3 : Int32)), rfl, N0, rfl, (Or.inr ⟨2, by decide, by decide, own_nf hs 2 (by decide) (Or.inr hc34_11) (Or.inr hc50_14)⟩)⟩
        · refine Go.step (fun t k => XS.ifYes X0.here hx rfl (pc0 := 50) (pc' := 62) rfl (hb hby d12_50) rfl ((if0 _ _).trans (flt (own_nlwgt hc50_14)).2.2.2) (by decide) (by decide) k) ?_
          show Go _ _ _ _ _ _ _ (s₁.setTop (mkF m 62 #[.val (.ref kr), .val (.int (0 : Int32)), .val (.int (3 : Int32)), .val (.long ky), .second, .val (.int (2 : Int32)), .val (.int (2 : Int32)), .val (.int (2 : Int32)), .val (.long (gk 2)), .second] []))
          refine Go.step (fun t k => XS.iload X0.here hx rfl (hb hby d12_62) rfl k) ?_
          show Go _ _ _ _ _ _ _ (s₁.setTop (mkF m 64 #[.val (.ref kr), .val (.int (0 : Int32)), .val (.int (3 : Int32)), .val (.long ky), .second, .val (.int (2 : Int32)), .val (.int (2 : Int32)), .val (.int (2 : Int32)), .val (.long (gk 2)), .second] [(.int (2 : Int32))]))
          refine Go.retI X0 Bd.notSynchronized hx Bd.returns (hb hby d12_64) (by decide) (by decide) ?_
          rw [e0]
          exact ⟨(2 : Int32), rfl, N0, rfl, (Or.inl ⟨2, by decide, by decide, own_eqk hc34_13 hc50_14⟩)⟩
    · refine Go.step (fun t k => XS.ifYes X0.here hx rfl (pc0 := 34) (pc' := 46) rfl (hb hby d12_34) rfl ((if0 _ _).trans (flt (own_nlwlt hc34_11)).2.1) (by decide) (by decide) k) ?_
      show Go _ _ _ _ _ _ _ (s₁.setTop (mkF m 46 #[.val (.ref kr), .val (.int (0 : Int32)), .val (.int (3 : Int32)), .val (.long ky), .second, .val (.int (0 : Int32)), .val (.int (2 : Int32)), .val (.int (1 : Int32)), .val (.long (gk 1)), .second] []))
      refine Go.step (fun t k => XS.lload X0.here hx rfl (hb hby d12_46) rfl (XS.lloadN X0.here hx rfl (hb hby d12_48) rfl (XS.lcmp X0.here hx rfl (hb hby d12_49) rfl k))) ?_
      show Go _ _ _ _ _ _ _ (s₁.setTop (mkF m 50 #[.val (.ref kr), .val (.int (0 : Int32)), .val (.int (3 : Int32)), .val (.long ky), .second, .val (.int (0 : Int32)), .val (.int (2 : Int32)), .val (.int (1 : Int32)), .val (.long (gk 1)), .second] [(.int (lcmpW (gk 1) ky))]))
      by_cases hc50_15 : ky < (gk 1)
      · refine Go.step (fun t k => XS.ifNo X0.here hx rfl (hb hby d12_50) rfl ((if0 _ _).trans (tlt (own_lwgt hc50_15)).2.2.2) k) ?_
        show Go _ _ _ _ _ _ _ (s₁.setTop (mkF m 53 #[.val (.ref kr), .val (.int (0 : Int32)), .val (.int (3 : Int32)), .val (.long ky), .second, .val (.int (0 : Int32)), .val (.int (2 : Int32)), .val (.int (1 : Int32)), .val (.long (gk 1)), .second] []))
        refine Go.step (fun t k => XS.iload X0.here hx rfl (hb hby d12_53) rfl (XS.iconst X0.here hx rfl (hb hby d12_55) (XS.isub X0.here hx rfl (hb hby d12_56) rfl (XS.istore X0.here hx rfl (hb hby d12_57) rfl (l' := #[.val (.ref kr), .val (.int (0 : Int32)), .val (.int (3 : Int32)), .val (.long ky), .second, .val (.int (0 : Int32)), .val (.int (0 : Int32)), .val (.int (1 : Int32)), .val (.long (gk 1)), .second]) rfl k)))) ?_
        show Go _ _ _ _ _ _ _ (s₁.setTop (mkF m 59 #[.val (.ref kr), .val (.int (0 : Int32)), .val (.int (3 : Int32)), .val (.long ky), .second, .val (.int (0 : Int32)), .val (.int (0 : Int32)), .val (.int (1 : Int32)), .val (.long (gk 1)), .second] []))
        refine Go.step (fun t k => XS.goto X0.here hx rfl (pc0 := 59) (pc' := 65) rfl (hb hby d12_59) (by decide) (by decide) k) ?_
        show Go _ _ _ _ _ _ _ (s₁.setTop (mkF m 65 #[.val (.ref kr), .val (.int (0 : Int32)), .val (.int (3 : Int32)), .val (.long ky), .second, .val (.int (0 : Int32)), .val (.int (0 : Int32)), .val (.int (1 : Int32)), .val (.long (gk 1)), .second] []))
        refine Go.step (fun t k => XS.goto X0.here hx rfl (pc0 := 65) (pc' := 8) rfl (hb hby d12_65) (by decide) (by decide) (XS.iload X0.here hx rfl (hb hby d12_8) rfl (XS.iload X0.here hx rfl (hb hby d12_10) rfl k))) ?_
        show Go _ _ _ _ _ _ _ (s₁.setTop (mkF m 12 #[.val (.ref kr), .val (.int (0 : Int32)), .val (.int (3 : Int32)), .val (.long ky), .second, .val (.int (0 : Int32)), .val (.int (0 : Int32)), .val (.int (1 : Int32)), .val (.long (gk 1)), .second] [(.int (0 : Int32)), (.int (0 : Int32))]))
        refine Go.step (fun t k => XS.icmpNo X0.here hx rfl (hb hby d12_12) rfl (flt (by decide : ¬ (0 : Int32) < (0 : Int32))).2.2.1 k) ?_
        show Go _ _ _ _ _ _ _ (s₁.setTop (mkF m 15 #[.val (.ref kr), .val (.int (0 : Int32)), .val (.int (3 : Int32)), .val (.long ky), .second, .val (.int (0 : Int32)), .val (.int (0 : Int32)), .val (.int (1 : Int32)), .val (.long (gk 1)), .second] []))
        refine Go.step (fun t k => XS.iload X0.here hx rfl (hb hby d12_15) rfl (XS.iload X0.here hx rfl (hb hby d12_17) rfl (XS.iadd X0.here hx rfl (hb hby d12_19) rfl (XS.iconst X0.here hx rfl (hb hby d12_20) (XS.iushr X0.here hx rfl (hb hby d12_21) rfl (XS.istore X0.here hx rfl (hb hby d12_22) rfl (l' := #[.val (.ref kr), .val (.int (0 : Int32)), .val (.int (3 : Int32)), .val (.long ky), .second, .val (.int (0 : Int32)), .val (.int (0 : Int32)), .val (.int (0 : Int32)), .val (.long (gk 1)), .second]) rfl (XS.aloadN X0.here hx rfl (hb hby d12_24) rfl rfl (XS.iload X0.here hx rfl (hb hby d12_25) rfl k)))))))) ?_
        show Go _ _ _ _ _ _ _ (s₁.setTop (mkF m 27 #[.val (.ref kr), .val (.int (0 : Int32)), .val (.int (3 : Int32)), .val (.long ky), .second, .val (.int (0 : Int32)), .val (.int (0 : Int32)), .val (.int (0 : Int32)), .val (.long (gk 1)), .second] [(.int (0 : Int32)), (.ref kr)]))
        refine Go.step (own_ld X0 hx hZ e0 A_kr (j := (0 : Int32)) 0 rfl (by decide) (v := (.long (gk 0))) rfl (Or.inr (Or.inl ⟨rfl, rfl⟩)) (f := (mkF m 27 #[.val (.ref kr), .val (.int (0 : Int32)), .val (.int (3 : Int32)), .val (.long ky), .second, .val (.int (0 : Int32)), .val (.int (0 : Int32)), .val (.int (0 : Int32)), .val (.long (gk 1)), .second] [(.int (0 : Int32)), (.ref kr)])) rfl rfl (hb hby d12_27)) ?_
        show Go _ _ _ _ _ _ _ (s₁.setTop (mkF m 28 #[.val (.ref kr), .val (.int (0 : Int32)), .val (.int (3 : Int32)), .val (.long ky), .second, .val (.int (0 : Int32)), .val (.int (0 : Int32)), .val (.int (0 : Int32)), .val (.long (gk 1)), .second] [(.long (gk 0))]))
        refine Go.step (fun t k => XS.lstore X0.here hx rfl (hb hby d12_28) rfl (l' := #[.val (.ref kr), .val (.int (0 : Int32)), .val (.int (3 : Int32)), .val (.long ky), .second, .val (.int (0 : Int32)), .val (.int (0 : Int32)), .val (.int (0 : Int32)), .val (.long (gk 0)), .second]) rfl (XS.lload X0.here hx rfl (hb hby d12_30) rfl (XS.lloadN X0.here hx rfl (hb hby d12_32) rfl (XS.lcmp X0.here hx rfl (hb hby d12_33) rfl k)))) ?_
        show Go _ _ _ _ _ _ _ (s₁.setTop (mkF m 34 #[.val (.ref kr), .val (.int (0 : Int32)), .val (.int (3 : Int32)), .val (.long ky), .second, .val (.int (0 : Int32)), .val (.int (0 : Int32)), .val (.int (0 : Int32)), .val (.long (gk 0)), .second] [(.int (lcmpW (gk 0) ky))]))
        by_cases hc34_17 : (gk 0) < ky
        · refine Go.step (fun t k => XS.ifNo X0.here hx rfl (hb hby d12_34) rfl ((if0 _ _).trans (tlt (own_lwlt hc34_17)).2.1) k) ?_
          show Go _ _ _ _ _ _ _ (s₁.setTop (mkF m 37 #[.val (.ref kr), .val (.int (0 : Int32)), .val (.int (3 : Int32)), .val (.long ky), .second, .val (.int (0 : Int32)), .val (.int (0 : Int32)), .val (.int (0 : Int32)), .val (.long (gk 0)), .second] []))
          refine Go.step (fun t k => XS.iload X0.here hx rfl (hb hby d12_37) rfl (XS.iconst X0.here hx rfl (hb hby d12_39) (XS.iadd X0.here hx rfl (hb hby d12_40) rfl (XS.istore X0.here hx rfl (hb hby d12_41) rfl (l' := #[.val (.ref kr), .val (.int (0 : Int32)), .val (.int (3 : Int32)), .val (.long ky), .second, .val (.int (1 : Int32)), .val (.int (0 : Int32)), .val (.int (0 : Int32)), .val (.long (gk 0)), .second]) rfl k)))) ?_
          show Go _ _ _ _ _ _ _ (s₁.setTop (mkF m 43 #[.val (.ref kr), .val (.int (0 : Int32)), .val (.int (3 : Int32)), .val (.long ky), .second, .val (.int (1 : Int32)), .val (.int (0 : Int32)), .val (.int (0 : Int32)), .val (.long (gk 0)), .second] []))
          refine Go.step (fun t k => XS.goto X0.here hx rfl (pc0 := 43) (pc' := 65) rfl (hb hby d12_43) (by decide) (by decide) k) ?_
          show Go _ _ _ _ _ _ _ (s₁.setTop (mkF m 65 #[.val (.ref kr), .val (.int (0 : Int32)), .val (.int (3 : Int32)), .val (.long ky), .second, .val (.int (1 : Int32)), .val (.int (0 : Int32)), .val (.int (0 : Int32)), .val (.long (gk 0)), .second] []))
          refine Go.step (fun t k => XS.goto X0.here hx rfl (pc0 := 65) (pc' := 8) rfl (hb hby d12_65) (by decide) (by decide) (XS.iload X0.here hx rfl (hb hby d12_8) rfl (XS.iload X0.here hx rfl (hb hby d12_10) rfl k))) ?_
          show Go _ _ _ _ _ _ _ (s₁.setTop (mkF m 12 #[.val (.ref kr), .val (.int (0 : Int32)), .val (.int (3 : Int32)), .val (.long ky), .second, .val (.int (1 : Int32)), .val (.int (0 : Int32)), .val (.int (0 : Int32)), .val (.long (gk 0)), .second] [(.int (0 : Int32)), (.int (1 : Int32))]))
          refine Go.step (fun t k => XS.icmpYes X0.here hx rfl (pc0 := 12) (pc' := 68) rfl (hb hby d12_12) rfl (tlt (by decide : (0 : Int32) < (1 : Int32))).2.2.1 (by decide) (by decide) k) ?_
          show Go _ _ _ _ _ _ _ (s₁.setTop (mkF m 68 #[.val (.ref kr), .val (.int (0 : Int32)), .val (.int (3 : Int32)), .val (.long ky), .second, .val (.int (1 : Int32)), .val (.int (0 : Int32)), .val (.int (0 : Int32)), .val (.long (gk 0)), .second] []))
          refine Go.step (fun t k => XS.iload X0.here hx rfl (hb hby d12_68) rfl (XS.iconst X0.here hx rfl (hb hby d12_70) (XS.iadd X0.here hx rfl (hb hby d12_71) rfl (XS.ineg X0.here hx rfl (hb hby d12_72) rfl k)))) ?_
          show Go _ _ _ _ _ _ _ (s₁.setTop (mkF m 73 #[.val (.ref kr), .val (.int (0 : Int32)), .val (.int (3 : Int32)), .val (.long ky), .second, .val (.int (1 : Int32)), .val (.int (0 : Int32)), .val (.int (0 : Int32)), .val (.long (gk 0)), .second] [(.int (-(2 : Int32)))]))
          refine Go.retI X0 Bd.notSynchronized hx Bd.returns (hb hby d12_73) (by decide) (by decide) ?_
          rw [e0]
          exact ⟨(-(2 : Int32)), rfl, N0, rfl, (Or.inr ⟨1, by decide, by decide, own_nf hs 1 (by decide) (Or.inr hc34_17) (Or.inr hc50_15)⟩)⟩
        · refine Go.step (fun t k => XS.ifYes X0.here hx rfl (pc0 := 34) (pc' := 46) rfl (hb hby d12_34) rfl ((if0 _ _).trans (flt (own_nlwlt hc34_17)).2.1) (by decide) (by decide) k) ?_
          show Go _ _ _ _ _ _ _ (s₁.setTop (mkF m 46 #[.val (.ref kr), .val (.int (0 : Int32)), .val (.int (3 : Int32)), .val (.long ky), .second, .val (.int (0 : Int32)), .val (.int (0 : Int32)), .val (.int (0 : Int32)), .val (.long (gk 0)), .second] []))
          refine Go.step (fun t k => XS.lload X0.here hx rfl (hb hby d12_46) rfl (XS.lloadN X0.here hx rfl (hb hby d12_48) rfl (XS.lcmp X0.here hx rfl (hb hby d12_49) rfl k))) ?_
          show Go _ _ _ _ _ _ _ (s₁.setTop (mkF m 50 #[.val (.ref kr), .val (.int (0 : Int32)), .val (.int (3 : Int32)), .val (.long ky), .second, .val (.int (0 : Int32)), .val (.int (0 : Int32)), .val (.int (0 : Int32)), .val (.long (gk 0)), .second] [(.int (lcmpW (gk 0) ky))]))
          by_cases hc50_18 : ky < (gk 0)
          · refine Go.step (fun t k => XS.ifNo X0.here hx rfl (hb hby d12_50) rfl ((if0 _ _).trans (tlt (own_lwgt hc50_18)).2.2.2) k) ?_
            show Go _ _ _ _ _ _ _ (s₁.setTop (mkF m 53 #[.val (.ref kr), .val (.int (0 : Int32)), .val (.int (3 : Int32)), .val (.long ky), .second, .val (.int (0 : Int32)), .val (.int (0 : Int32)), .val (.int (0 : Int32)), .val (.long (gk 0)), .second] []))
            refine Go.step (fun t k => XS.iload X0.here hx rfl (hb hby d12_53) rfl (XS.iconst X0.here hx rfl (hb hby d12_55) (XS.isub X0.here hx rfl (hb hby d12_56) rfl (XS.istore X0.here hx rfl (hb hby d12_57) rfl (l' := #[.val (.ref kr), .val (.int (0 : Int32)), .val (.int (3 : Int32)), .val (.long ky), .second, .val (.int (0 : Int32)), .val (.int (-1 : Int32)), .val (.int (0 : Int32)), .val (.long (gk 0)), .second]) rfl k)))) ?_
            show Go _ _ _ _ _ _ _ (s₁.setTop (mkF m 59 #[.val (.ref kr), .val (.int (0 : Int32)), .val (.int (3 : Int32)), .val (.long ky), .second, .val (.int (0 : Int32)), .val (.int (-1 : Int32)), .val (.int (0 : Int32)), .val (.long (gk 0)), .second] []))
            refine Go.step (fun t k => XS.goto X0.here hx rfl (pc0 := 59) (pc' := 65) rfl (hb hby d12_59) (by decide) (by decide) k) ?_
            show Go _ _ _ _ _ _ _ (s₁.setTop (mkF m 65 #[.val (.ref kr), .val (.int (0 : Int32)), .val (.int (3 : Int32)), .val (.long ky), .second, .val (.int (0 : Int32)), .val (.int (-1 : Int32)), .val (.int (0 : Int32)), .val (.long (gk 0)), .second] []))
            refine Go.step (fun t k => XS.goto X0.here hx rfl (pc0 := 65) (pc' := 8) rfl (hb hby d12_65) (by decide) (by decide) (XS.iload X0.here hx rfl (hb hby d12_8) rfl (XS.iload X0.here hx rfl (hb hby d12_10) rfl k))) ?_
            show Go _ _ _ _ _ _ _ (s₁.setTop (mkF m 12 #[.val (.ref kr), .val (.int (0 : Int32)), .val (.int (3 : Int32)), .val (.long ky), .second, .val (.int (0 : Int32)), .val (.int (-1 : Int32)), .val (.int (0 : Int32)), .val (.long (gk 0)), .second] [(.int (-1 : Int32)), (.int (0 : Int32))]))
            refine Go.step (fun t k => XS.icmpYes X0.here hx rfl (pc0 := 12) (pc' := 68) rfl (hb hby d12_12) rfl (tlt (by decide : (-1 : Int32) < (0 : Int32))).2.2.1 (by decide) (by decide) k) ?_
            show Go _ _ _ _ _ _ _ (s₁.setTop (mkF m 68 #[.val (.ref kr), .val (.int (0 : Int32)), .val (.int (3 : Int32)), .val (.long ky), .second, .val (.int (0 : Int32)), .val (.int (-1 : Int32)), .val (.int (0 : Int32)), .val (.long (gk 0)), .second] []))
            refine Go.step (fun t k => XS.iload X0.here hx rfl (hb hby d12_68) rfl (XS.iconst X0.here hx rfl (hb hby d12_70) (XS.iadd X0.here hx rfl (hb hby d12_71) rfl (XS.ineg X0.here hx rfl (hb hby d12_72) rfl k)))) ?_
            show Go _ _ _ _ _ _ _ (s₁.setTop (mkF m 73 #[.val (.ref kr), .val (.int (0 : Int32)), .val (.int (3 : Int32)), .val (.long ky), .second, .val (.int (0 : Int32)), .val (.int (-1 : Int32)), .val (.int (0 : Int32)), .val (.long (gk 0)), .second] [(.int (-(1 : Int32)))]))
            refine Go.retI X0 Bd.notSynchronized hx Bd.returns (hb hby d12_73) (by decide) (by decide) ?_
            rw [e0]
            exact ⟨(-(1 : Int32)), rfl, N0, rfl, (Or.inr ⟨0, by decide, by decide, own_nf hs 0 (by decide) (Or.inl rfl) (Or.inr hc50_18)⟩)⟩
          · refine Go.step (fun t k => XS.ifYes X0.here hx rfl (pc0 := 50) (pc' := 62) rfl (hb hby d12_50) rfl ((if0 _ _).trans (flt (own_nlwgt hc50_18)).2.2.2) (by decide) (by decide) k) ?_
            show Go _ _ _ _ _ _ _ (s₁.setTop (mkF m 62 #[.val (.ref kr), .val (.int (0 : Int32)), .val (.int (3 : Int32)), .val (.long ky), .second, .val (.int (0 : Int32)), .val (.int (0 : Int32)), .val (.int (0 : Int32)), .val (.long (gk 0)), .second] []))
            refine Go.step (fun t k => XS.iload X0.here hx rfl (hb hby d12_62) rfl k) ?_
            show Go _ _ _ _ _ _ _ (s₁.setTop (mkF m 64 #[.val (.ref kr), .val (.int (0 : Int32)), .val (.int (3 : Int32)), .val (.long ky), .second, .val (.int (0 : Int32)), .val (.int (0 : Int32)), .val (.int (0 : Int32)), .val (.long (gk 0)), .second] [(.int (0 : Int32))]))
            refine Go.retI X0 Bd.notSynchronized hx Bd.returns (hb hby d12_64) (by decide) (by decide) ?_
            rw [e0]
            exact ⟨(0 : Int32), rfl, N0, rfl, (Or.inl ⟨0, by decide, by decide, own_eqk hc34_17 hc50_18⟩)⟩
      · refine Go.step (fun t k => XS.ifYes X0.here hx rfl (pc0 := 50) (pc' := 62) rfl (hb hby d12_50) rfl ((if0 _ _).trans (flt (own_nlwgt hc50_15)).2.2.2) (by decide) (by decide) k) ?_
        show Go _ _ _ _ _ _ _ (s₁.setTop (mkF m 62 #[.val (.ref kr), .val (.int (0 : Int32)), .val (.int (3 : Int32)), .val (.long ky), .second, .val (.int (0 : Int32)), .val (.int (2 : Int32)), .val (.int (1 : Int32)), .val (.long (gk 1)), .second] []))
        refine Go.step (fun t k => XS.iload X0.here hx rfl (hb hby d12_62) rfl k) ?_
        show Go _ _ _ _ _ _ _ (s₁.setTop (mkF m 64 #[.val (.ref kr), .val (.int (0 : Int32)), .val (.int (3 : Int32)), .val (.long ky), .second, .val (.int (0 : Int32)), .val (.int (2 : Int32)), .val (.int (1 : Int32)), .val (.long (gk 1)), .second] [(.int (1 : Int32))]))
        refine Go.retI X0 Bd.notSynchronized hx Bd.returns (hb hby d12_64) (by decide) (by decide) ?_
        rw [e0]
        exact ⟨(1 : Int32), rfl, N0, rfl, (Or.inl ⟨1, by decide, by decide, own_eqk hc34_11 hc50_15⟩)⟩
theorem d10_0 : decode jdk_65_method_55_code 0 = .ok (.aload_n 0, 1) := by decide +kernel
theorem d10_1 : decode jdk_65_method_55_code 1 = .ok (.arraylength, 1) := by decide +kernel
theorem d10_2 : decode jdk_65_method_55_code 2 = .ok (.iload_n 1, 1) := by decide +kernel
theorem d10_3 : decode jdk_65_method_55_code 3 = .ok (.iload_n 2, 1) := by decide +kernel
theorem d10_4 : decode jdk_65_method_55_code 4 = .ok (.invokestatic 13, 3) := by decide +kernel
theorem d10_7 : decode jdk_65_method_55_code 7 = .ok (.aload_n 0, 1) := by decide +kernel
theorem d10_8 : decode jdk_65_method_55_code 8 = .ok (.iload_n 1, 1) := by decide +kernel
theorem d10_9 : decode jdk_65_method_55_code 9 = .ok (.iload_n 2, 1) := by decide +kernel
theorem d10_10 : decode jdk_65_method_55_code 10 = .ok (.lload_n 3, 1) := by decide +kernel
theorem d10_11 : decode jdk_65_method_55_code 11 = .ok (.invokestatic 205, 3) := by decide +kernel
theorem d10_14 : decode jdk_65_method_55_code 14 = .ok (.ireturn, 1) := by decide +kernel
theorem pn_10 : plainName "java/util/Arrays" = true := by first | (simp [plainName, overriddenIn]; done) | decide +kernel
theorem pd_10_0 : parseMethodDescriptor "(III)V" = some ⟨[.int, .int, .int], none⟩ := by decide +kernel
theorem pd_10_1 : parseMethodDescriptor "([JIIJ)I" = some ⟨[(.array .long), .int, .int, .long], some .int⟩ := by decide +kernel
theorem ef_10 (m : MethodId) (x0 : Addr) (x1 : Int32) (x2 : Int64) : entryFrame m #[(.ref x0), (.int (0 : Int32)), (.int x1), (.long x2)] 5 = mkF m 0 #[.val (.ref x0), .val (.int (0 : Int32)), .val (.int x1), .val (.long x2), .second] [] := by first | (simp [entryFrame, mkF, argsToLocals, Value.category]; done) | rfl
def Q10 (Z : State) (kr : Addr) (sz : Int32) (ky : Int64) (gk : Nat → Int64) (n : Nat) (h0 : Heap) (n0 : Nat) (v : Option Value) (h : Heap) (L : List Loc) : Prop := ∃ r : Int32, v = some (.int r) ∧ Fr n0 L ∧ h = h0 ∧ (own_found n gk ky r)
set_option maxRecDepth 65536 in
set_option maxHeartbeats 40000000 in
theorem rm10 (l : Launch) (Z : State) (a0 : Array Value) (hw : ∀ d ∈ tables_1, d.before a0 Z = true) (ws : List Jvm.Cond) (kr : Addr) (sz : Int32) (ky : Int64) (gk : Nat → Int64) (n : Nat) (h0 : Heap) (n0 : Nat) (Z0 : n0 ≤ h0.size) (A_kr : AryJ Z h0 kr 65 gk) (hz : (sz.toInt = (n : Int))) (hn1 : (1 ≤ n)) (hn : (n ≤ 3)) (hs : (own_srt n gk)) :
    MetFree l (⟨"java/util/Arrays", "binarySearch", "([JIIJ)I"⟩ : MethodName) (head1 (Jvm.Cond.code (⟨"java/util/Arrays", "binarySearch", "([JIIJ)I"⟩ : MethodName) jdk_65_method_55_code 5 (some .int) :: ws) ({ frames := 1, cells := 0, slots := 0, locals := 21 } : Room)) (fun a U => a = #[(.ref kr), (.int (0 : Int32)), (.int sz), (.long ky)] ∧ Z.Warmed39 U.vm ∧ U.heap = h0) (fun _ _ _ _ _ => True) (fun _ U o U' => ∃ v L, o = .returned v ∧ Q10 Z kr sz ky gk n h0 n0 v U'.heap L ∧ FrameEnd U o U' L ({ frames := 1, cells := 0, slots := 0, locals := 21 } : Room).cells ({ frames := 1, cells := 0, slots := 0, locals := 21 } : Room).slots) := by
  refine MetFree.of_bodySF (plainFor_of_name pn_10) hisR ?_
  intro p e s m args below meth c s₁ Bd hml0 hP hK
  obtain ⟨rfl, hZ, hh⟩ := hP
  have hx := Bd.exec
  have hby := Bd.bytes
  have hml : c.maxLocals = 5 := hml0
  have hown : s.vm.findClass "java/util/Arrays" = some m.cls := findClass_of_methodNamed Bd.named
  have hnm := (name_of_methodNamed Bd.named Bd.method).1
  have X0 : Stand p l e ({ frames := 1, cells := 0, slots := 0, locals := 21 } : Room) s m #[(.ref kr), (.int (0 : Int32)), (.int sz), (.long ky)] below meth c s₁ [] 0 0 := Stand.of_body Bd
  have e0 : s₁.heap = h0 := by rw [← hh, Bd.state]; rfl
  have N0 := Fr.nil n0
  show Go p e below s (Q10 Z kr sz ky gk n h0 n0) ({ frames := 1, cells := 0, slots := 0, locals := 21 } : Room).cells ({ frames := 1, cells := 0, slots := 0, locals := 21 } : Room).slots (s₁.setTop (entryFrame m #[(.ref kr), (.int (0 : Int32)), (.int sz), (.long ky)] 5))
  rw [ef_10]
  show Go _ _ _ _ _ _ _ (s₁.setTop (mkF m 0 #[.val (.ref kr), .val (.int (0 : Int32)), .val (.int sz), .val (.long ky), .second] []))
  refine Go.step (fun t k => XS.aloadN X0.here hx rfl (hb hby d10_0) rfl rfl k) ?_
  show Go _ _ _ _ _ _ _ (s₁.setTop (mkF m 1 #[.val (.ref kr), .val (.int (0 : Int32)), .val (.int sz), .val (.long ky), .second] [(.ref kr)]))
  refine Go.step (own_len X0 hx hZ e0 A_kr (z := (65 : Int32)) rfl (f := (mkF m 1 #[.val (.ref kr), .val (.int (0 : Int32)), .val (.int sz), .val (.long ky), .second] [(.ref kr)])) rfl rfl (hb hby d10_1)) ?_
  show Go _ _ _ _ _ _ _ (s₁.setTop (mkF m 2 #[.val (.ref kr), .val (.int (0 : Int32)), .val (.int sz), .val (.long ky), .second] [(.int (65 : Int32))]))
  refine Go.step (fun t k => XS.iloadN X0.here hx rfl (hb hby d10_2) rfl (XS.iloadN X0.here hx rfl (hb hby d10_3) rfl k)) ?_
  show Go _ _ _ _ _ _ _ (s₁.setTop (mkF m 4 #[.val (.ref kr), .val (.int (0 : Int32)), .val (.int sz), .val (.long ky), .second] [(.int sz), (.int (0 : Int32)), (.int (65 : Int32))]))
  obtain ⟨_, _, ⟨T2, L2, k2, n2⟩, -, X2, ⟨Lc2, hQ2, l2, y2, z2⟩, st2⟩ := Jvm.LawKit.callS X0 hx (y := (⟨"java/util/Arrays", "rangeCheck", "(III)V"⟩ : MethodName)) hown (mvT hZ (hw _ (List.mem_of_getElem? (i := 75) rfl))) (mvT hZ (hw _ (List.mem_of_getElem? (i := 76) rfl))) (mvT hZ (hw _ (List.mem_of_getElem? (i := 73) rfl))) (mvT hZ (hw _ (List.mem_of_getElem? (i := 77) rfl))) (by decide) (backOf (W := 0) (rm11 l Z a0 hw [] sz h0 n0 Z0 (own_z1 hz) (own_z2 hz hn)) hZ (hw _ (List.mem_of_getElem? (i := 77) rfl)) (hw _ (List.mem_of_getElem? (i := 73) rfl)) (by decide) (by decide)) (g := (mkF m 4 #[.val (.ref kr), .val (.int (0 : Int32)), .val (.int sz), .val (.long ky), .second] [(.int sz), (.int (0 : Int32)), (.int (65 : Int32))])) rfl (by rw [hml]; rfl) (argsL := [(.int (65 : Int32)), (.int (0 : Int32)), (.int sz)]) (rest := []) (lenOf pd_10_0 rfl) rfl (by show 2 * 0 + _ ≤ _; exact Nat.le_of_eq rfl) (hb hby d10_4) (fun _ _ => ⟨rfl, e0, (by decide : 0 + 0 ≤ _), (by decide : 0 + 0 ≤ _)⟩)
  dsimp only [Pt.U, Pt.locs, Pt.cells, Pt.slots] at X2 l2 y2 z2 st2 hQ2
  subst l2 y2 z2
  obtain ⟨rfl, N2q, K2q⟩ := hQ2
  have N2 := Fr.app N0 N2q
  refine Go.step st2 ?_
  show Go _ _ _ _ _ _ _ (T2.setTop (mkF m 7 #[.val (.ref kr), .val (.int (0 : Int32)), .val (.int sz), .val (.long ky), .second] []))
  refine Go.step (fun t k => XS.aloadN X2.here hx rfl (hb hby d10_7) rfl rfl (XS.iloadN X2.here hx rfl (hb hby d10_8) rfl (XS.iloadN X2.here hx rfl (hb hby d10_9) rfl (XS.lloadN X2.here hx rfl (hb hby d10_10) rfl k)))) ?_
  show Go _ _ _ _ _ _ _ (T2.setTop (mkF m 11 #[.val (.ref kr), .val (.int (0 : Int32)), .val (.int sz), .val (.long ky), .second] [(.long ky), (.int sz), (.int (0 : Int32)), (.ref kr)]))
  obtain ⟨_, _, ⟨T3, L3, k3, n3⟩, -, X3, ⟨Lc3, hQ3, l3, y3, z3⟩, st3⟩ := Jvm.LawKit.callS X2 hx (y := (⟨"java/util/Arrays", "binarySearch0", "([JIIJ)I"⟩ : MethodName)) hown (mvT hZ (hw _ (List.mem_of_getElem? (i := 78) rfl))) (mvT hZ (hw _ (List.mem_of_getElem? (i := 79) rfl))) (mvT hZ (hw _ (List.mem_of_getElem? (i := 73) rfl))) (mvT hZ (hw _ (List.mem_of_getElem? (i := 80) rfl))) (by decide) (backOf (W := 0) (rm12 l Z a0 hw [] kr sz ky gk n h0 n0 Z0 A_kr (by assumption) (by assumption) (by assumption) (by assumption)) hZ (hw _ (List.mem_of_getElem? (i := 80) rfl)) (hw _ (List.mem_of_getElem? (i := 73) rfl)) (by decide) (by decide)) (g := (mkF m 11 #[.val (.ref kr), .val (.int (0 : Int32)), .val (.int sz), .val (.long ky), .second] [(.long ky), (.int sz), (.int (0 : Int32)), (.ref kr)])) rfl (by rw [hml]; rfl) (argsL := [(.ref kr), (.int (0 : Int32)), (.int sz), (.long ky)]) (rest := []) (lenOf pd_10_1 rfl) rfl (by show 2 * 0 + _ ≤ _; exact Nat.le_of_eq rfl) (hb hby d10_11) (fun _ _ => ⟨rfl, K2q, (by decide : 0 + 0 ≤ _), (by decide : 0 + 0 ≤ _)⟩)
  dsimp only [Pt.U, Pt.locs, Pt.cells, Pt.slots] at X3 l3 y3 z3 st3 hQ3
  subst l3 y3 z3
  obtain ⟨r_3, rfl, N3q, K3q, o3_hf⟩ := hQ3
  have N3 := Fr.app N2 N3q
  refine Go.step st3 ?_
  show Go _ _ _ _ _ _ _ (T3.setTop (mkF m 14 #[.val (.ref kr), .val (.int (0 : Int32)), .val (.int sz), .val (.long ky), .second] [(.int r_3)]))
  refine Go.retI X3 Bd.notSynchronized hx Bd.returns (hb hby d10_14) (by decide) (by decide) ?_
  rw [K3q]
  exact ⟨r_3, rfl, N3, rfl, o3_hf⟩
theorem d7_0 : decode prog_23_method_6_code 0 = .ok (.aload_n 0, 1) := by decide +kernel
theorem d7_1 : decode prog_23_method_6_code 1 = .ok (.getfield 9, 3) := by decide +kernel
theorem d7_4 : decode prog_23_method_6_code 4 = .ok (.iload_n 1, 1) := by decide +kernel
theorem d7_5 : decode prog_23_method_6_code 5 = .ok (.aload_n 0, 1) := by decide +kernel
theorem d7_6 : decode prog_23_method_6_code 6 = .ok (.getfield 9, 3) := by decide +kernel
theorem d7_9 : decode prog_23_method_6_code 9 = .ok (.iload_n 1, 1) := by decide +kernel
theorem d7_10 : decode prog_23_method_6_code 10 = .ok (.iconst 1, 1) := by decide +kernel
theorem d7_11 : decode prog_23_method_6_code 11 = .ok (.iadd, 1) := by decide +kernel
theorem d7_12 : decode prog_23_method_6_code 12 = .ok (.aload_n 0, 1) := by decide +kernel
theorem d7_13 : decode prog_23_method_6_code 13 = .ok (.getfield 32, 3) := by decide +kernel
theorem d7_16 : decode prog_23_method_6_code 16 = .ok (.iload_n 1, 1) := by decide +kernel
theorem d7_17 : decode prog_23_method_6_code 17 = .ok (.isub, 1) := by decide +kernel
theorem d7_18 : decode prog_23_method_6_code 18 = .ok (.invokestatic 36, 3) := by decide +kernel
theorem d7_21 : decode prog_23_method_6_code 21 = .ok (.aload_n 0, 1) := by decide +kernel
theorem d7_22 : decode prog_23_method_6_code 22 = .ok (.getfield 15, 3) := by decide +kernel
theorem d7_25 : decode prog_23_method_6_code 25 = .ok (.iload_n 1, 1) := by decide +kernel
theorem d7_26 : decode prog_23_method_6_code 26 = .ok (.aload_n 0, 1) := by decide +kernel
theorem d7_27 : decode prog_23_method_6_code 27 = .ok (.getfield 15, 3) := by decide +kernel
theorem d7_30 : decode prog_23_method_6_code 30 = .ok (.iload_n 1, 1) := by decide +kernel
theorem d7_31 : decode prog_23_method_6_code 31 = .ok (.iconst 1, 1) := by decide +kernel
theorem d7_32 : decode prog_23_method_6_code 32 = .ok (.iadd, 1) := by decide +kernel
theorem d7_33 : decode prog_23_method_6_code 33 = .ok (.aload_n 0, 1) := by decide +kernel
theorem d7_34 : decode prog_23_method_6_code 34 = .ok (.getfield 32, 3) := by decide +kernel
theorem d7_37 : decode prog_23_method_6_code 37 = .ok (.iload_n 1, 1) := by decide +kernel
theorem d7_38 : decode prog_23_method_6_code 38 = .ok (.isub, 1) := by decide +kernel
theorem d7_39 : decode prog_23_method_6_code 39 = .ok (.invokestatic 36, 3) := by decide +kernel
theorem d7_42 : decode prog_23_method_6_code 42 = .ok (.aload_n 0, 1) := by decide +kernel
theorem d7_43 : decode prog_23_method_6_code 43 = .ok (.getfield 9, 3) := by decide +kernel
theorem d7_46 : decode prog_23_method_6_code 46 = .ok (.iload_n 1, 1) := by decide +kernel
theorem d7_47 : decode prog_23_method_6_code 47 = .ok (.lload_n 2, 1) := by decide +kernel
theorem d7_48 : decode prog_23_method_6_code 48 = .ok (.lastore, 1) := by decide +kernel
theorem d7_49 : decode prog_23_method_6_code 49 = .ok (.aload_n 0, 1) := by decide +kernel
theorem d7_50 : decode prog_23_method_6_code 50 = .ok (.getfield 15, 3) := by decide +kernel
theorem d7_53 : decode prog_23_method_6_code 53 = .ok (.iload_n 1, 1) := by decide +kernel
theorem d7_54 : decode prog_23_method_6_code 54 = .ok (.aload 4, 2) := by decide +kernel
theorem d7_56 : decode prog_23_method_6_code 56 = .ok (.aastore, 1) := by decide +kernel
theorem d7_57 : decode prog_23_method_6_code 57 = .ok (.aload_n 0, 1) := by decide +kernel
theorem d7_58 : decode prog_23_method_6_code 58 = .ok (.dup, 1) := by decide +kernel
theorem d7_59 : decode prog_23_method_6_code 59 = .ok (.getfield 32, 3) := by decide +kernel
theorem d7_62 : decode prog_23_method_6_code 62 = .ok (.iconst 1, 1) := by decide +kernel
theorem d7_63 : decode prog_23_method_6_code 63 = .ok (.iadd, 1) := by decide +kernel
theorem d7_64 : decode prog_23_method_6_code 64 = .ok (.putfield 32, 3) := by decide +kernel
theorem d7_67 : decode prog_23_method_6_code 67 = .ok (.return_, 1) := by decide +kernel
theorem pn_7 : plainName "com/example/matchstone/matchstone/LevelIndex$Node" = true := by first | (simp [plainName, overriddenIn]; done) | decide +kernel
theorem ef_7 (m : MethodId) (x0 : Addr) (x1 : Int32) (x2 : Int64) (x3 : Addr) : entryFrame m #[(.ref x0), (.int x1), (.long x2), (.ref x3)] 5 = mkF m 0 #[.val (.ref x0), .val (.int x1), .val (.long x2), .second, .val (.ref x3)] [] := by first | (simp [entryFrame, mkF, argsToLocals, Value.category]; done) | rfl
def Q7 (Z : State) (nd : Addr) (pi : Int32) (ky : Int64) (lv : Addr) (kr : Addr) (lr : Addr) (gk : Nat → Int64) (gl : Nat → Value) (sz : Int32) (n : Nat) (pn : Nat) (h0 : Heap) (n0 : Nat) (v : Option Value) (h : Heap) (L : List Loc) : Prop := v = none ∧ Fr n0 L ∧ Keep h0 h [nd, kr, lr] ∧ Fld Z h nd "com/example/matchstone/matchstone/LevelIndex$Node" "keys" "[J" (.ref kr) ∧ Fld Z h nd "com/example/matchstone/matchstone/LevelIndex$Node" "levels" "[Lcom/example/matchstone/matchstone/PriceLevel;" (.ref lr) ∧ Fld Z h nd "com/example/matchstone/matchstone/LevelIndex$Node" "children" "[Lcom/example/matchstone/matchstone/LevelIndex$Node;" .null ∧ Fld Z h nd "com/example/matchstone/matchstone/LevelIndex$Node" "size" "I" (.int (sz + (1 : Int32))) ∧ Fld Z h nd "com/example/matchstone/matchstone/LevelIndex$Node" "next" "Lcom/example/matchstone/matchstone/LevelIndex$Node;" .null ∧ Fld Z h nd "com/example/matchstone/matchstone/LevelIndex$Node" "previous" "Lcom/example/matchstone/matchstone/LevelIndex$Node;" .null ∧ Exa Z h nd "com/example/matchstone/matchstone/LevelIndex$Node" ∧ AryJ Z h kr 65 (up (own_sh gk pn (pn + 1) (n - pn)) pn ky) ∧ RAr Z h lr "com/example/matchstone/matchstone/PriceLevel" 65 (up (own_sh gl pn (pn + 1) (n - pn)) pn (.ref lv))
set_option maxRecDepth 65536 in
set_option maxHeartbeats 40000000 in
theorem rm7 (l : Launch) (Z : State) (a0 : Array Value) (hw : ∀ d ∈ tables_1, d.before a0 Z = true) (ws : List Jvm.Cond) (nd : Addr) (pi : Int32) (ky : Int64) (lv : Addr) (kr : Addr) (lr : Addr) (gk : Nat → Int64) (gl : Nat → Value) (sz : Int32) (n : Nat) (pn : Nat) (h0 : Heap) (n0 : Nat) (Z0 : n0 ≤ h0.size) (F_keys_nd : Fld Z h0 nd "com/example/matchstone/matchstone/LevelIndex$Node" "keys" "[J" (.ref kr)) (F_levels_nd : Fld Z h0 nd "com/example/matchstone/matchstone/LevelIndex$Node" "levels" "[Lcom/example/matchstone/matchstone/PriceLevel;" (.ref lr)) (F_children_nd : Fld Z h0 nd "com/example/matchstone/matchstone/LevelIndex$Node" "children" "[Lcom/example/matchstone/matchstone/LevelIndex$Node;" .null) (F_size_nd : Fld Z h0 nd "com/example/matchstone/matchstone/LevelIndex$Node" "size" "I" (.int sz)) (F_next_nd : Fld Z h0 nd "com/example/matchstone/matchstone/LevelIndex$Node" "next" "Lcom/example/matchstone/matchstone/LevelIndex$Node;" .null) (F_previous_nd : Fld Z h0 nd "com/example/matchstone/matchstone/LevelIndex$Node" "previous" "Lcom/example/matchstone/matchstone/LevelIndex$Node;" .null) (E_nd : Exa Z h0 nd "com/example/matchstone/matchstone/LevelIndex$Node") (A_kr : AryJ Z h0 kr 65 gk) (R_lr : RAr Z h0 lr "com/example/matchstone/matchstone/PriceLevel" 65 gl) (g_nd : n0 ≤ nd) (g_kr : n0 ≤ kr) (g_lr : n0 ≤ lr) (ne_kr_lr : kr ≠ lr) (E_lv : Exa Z h0 lv "com/example/matchstone/matchstone/PriceLevel") (hz : (sz.toInt = (n : Int))) (hn : (n ≤ 3)) (hp : (pi.toInt = (pn : Int))) (hpn : (pn ≤ n)) :
    MetFree l (⟨"com/example/matchstone/matchstone/LevelIndex$Node", "insertEntry", "(IJLcom/example/matchstone/matchstone/PriceLevel;)V"⟩ : MethodName) (head1 (Jvm.Cond.code (⟨"com/example/matchstone/matchstone/LevelIndex$Node", "insertEntry", "(IJLcom/example/matchstone/matchstone/PriceLevel;)V"⟩ : MethodName) prog_23_method_6_code 5 none :: ws) ({ frames := 1, cells := 0, slots := 0, locals := 40 } : Room)) (fun a U => a = #[(.ref nd), (.int pi), (.long ky), (.ref lv)] ∧ Z.Warmed39 U.vm ∧ U.heap = h0) (fun _ _ _ _ _ => True) (fun _ U o U' => ∃ v L, o = .returned v ∧ Q7 Z nd pi ky lv kr lr gk gl sz n pn h0 n0 v U'.heap L ∧ FrameEnd U o U' L ({ frames := 1, cells := 0, slots := 0, locals := 40 } : Room).cells ({ frames := 1, cells := 0, slots := 0, locals := 40 } : Room).slots) := by
  refine MetFree.of_bodySF (plainFor_of_name pn_7) hisR ?_
  intro p e s m args below meth c s₁ Bd hml0 hP hK
  obtain ⟨rfl, hZ, hh⟩ := hP
  have hx := Bd.exec
  have hby := Bd.bytes
  have hml : c.maxLocals = 5 := hml0
  have hown : s.vm.findClass "com/example/matchstone/matchstone/LevelIndex$Node" = some m.cls := findClass_of_methodNamed Bd.named
  have hnm := (name_of_methodNamed Bd.named Bd.method).1
  have X0 : Stand p l e ({ frames := 1, cells := 0, slots := 0, locals := 40 } : Room) s m #[(.ref nd), (.int pi), (.long ky), (.ref lv)] below meth c s₁ [] 0 0 := Stand.of_body Bd
  have e0 : s₁.heap = h0 := by rw [← hh, Bd.state]; rfl
  have N0 := Fr.nil n0
  have K0 := Keep.refl h0 ([nd, kr, lr] : List Addr)
  show Go p e below s (Q7 Z nd pi ky lv kr lr gk gl sz n pn h0 n0) ({ frames := 1, cells := 0, slots := 0, locals := 40 } : Room).cells ({ frames := 1, cells := 0, slots := 0, locals := 40 } : Room).slots (s₁.setTop (entryFrame m #[(.ref nd), (.int pi), (.long ky), (.ref lv)] 5))
  rw [ef_7]
  show Go _ _ _ _ _ _ _ (s₁.setTop (mkF m 0 #[.val (.ref nd), .val (.int pi), .val (.long ky), .second, .val (.ref lv)] []))
  refine Go.step (fun t k => XS.aloadN X0.here hx rfl (hb hby d7_0) rfl rfl k) ?_
  show Go _ _ _ _ _ _ _ (s₁.setTop (mkF m 1 #[.val (.ref nd), .val (.int pi), .val (.long ky), .second, .val (.ref lv)] [(.ref nd)]))
  obtain ⟨T1, X1, e1, st1⟩ := getF X0 hx hZ hown (host := "") (Or.inl (hw _ (List.mem_of_getElem? (i := 22) rfl))) Via.refl e0 F_keys_nd (g := (mkF m 1 #[.val (.ref nd), .val (.int pi), .val (.long ky), .second, .val (.ref lv)] [(.ref nd)])) rfl rfl (hb hby d7_1)
  refine Go.step st1 ?_
  show Go _ _ _ _ _ _ _ (T1.setTop (mkF m 4 #[.val (.ref nd), .val (.int pi), .val (.long ky), .second, .val (.ref lv)] [(.ref kr)]))
  refine Go.step (fun t k => XS.iloadN X1.here hx rfl (hb hby d7_4) rfl (XS.aloadN X1.here hx rfl (hb hby d7_5) rfl rfl k)) ?_
  show Go _ _ _ _ _ _ _ (T1.setTop (mkF m 6 #[.val (.ref nd), .val (.int pi), .val (.long ky), .second, .val (.ref lv)] [(.ref nd), (.int pi), (.ref kr)]))
  obtain ⟨T2, X2, e2, st2⟩ := getF X1 hx hZ hown (host := "") (Or.inl (hw _ (List.mem_of_getElem? (i := 22) rfl))) Via.refl e1 F_keys_nd (g := (mkF m 6 #[.val (.ref nd), .val (.int pi), .val (.long ky), .second, .val (.ref lv)] [(.ref nd), (.int pi), (.ref kr)])) rfl rfl (hb hby d7_6)
  refine Go.step st2 ?_
  show Go _ _ _ _ _ _ _ (T2.setTop (mkF m 9 #[.val (.ref nd), .val (.int pi), .val (.long ky), .second, .val (.ref lv)] [(.ref kr), (.int pi), (.ref kr)]))
  refine Go.step (fun t k => XS.iloadN X2.here hx rfl (hb hby d7_9) rfl (XS.iconst X2.here hx rfl (hb hby d7_10) (XS.iadd X2.here hx rfl (hb hby d7_11) rfl (XS.aloadN X2.here hx rfl (hb hby d7_12) rfl rfl k)))) ?_
  show Go _ _ _ _ _ _ _ (T2.setTop (mkF m 13 #[.val (.ref nd), .val (.int pi), .val (.long ky), .second, .val (.ref lv)] [(.ref nd), (.int (pi + (1 : Int32))), (.ref kr), (.int pi), (.ref kr)]))
  obtain ⟨T3, X3, e3, st3⟩ := getF X2 hx hZ hown (host := "") (Or.inl (hw _ (List.mem_of_getElem? (i := 55) rfl))) Via.refl e2 F_size_nd (g := (mkF m 13 #[.val (.ref nd), .val (.int pi), .val (.long ky), .second, .val (.ref lv)] [(.ref nd), (.int (pi + (1 : Int32))), (.ref kr), (.int pi), (.ref kr)])) rfl rfl (hb hby d7_13)
  refine Go.step st3 ?_
  show Go _ _ _ _ _ _ _ (T3.setTop (mkF m 16 #[.val (.ref nd), .val (.int pi), .val (.long ky), .second, .val (.ref lv)] [(.int sz), (.int (pi + (1 : Int32))), (.ref kr), (.int pi), (.ref kr)]))
  refine Go.step (fun t k => XS.iloadN X3.here hx rfl (hb hby d7_16) rfl (XS.isub X3.here hx rfl (hb hby d7_17) rfl k)) ?_
  show Go _ _ _ _ _ _ _ (T3.setTop (mkF m 18 #[.val (.ref nd), .val (.int pi), .val (.long ky), .second, .val (.ref lv)] [(.int (sz - pi)), (.int (pi + (1 : Int32))), (.ref kr), (.int pi), (.ref kr)]))
  obtain ⟨T4, h4, Lx4, X4, e4, Nn4, K4q, Fx4, st4⟩ := own_cpJ X3 hx hZ hown (hw _ (List.mem_of_getElem? (i := 56) rfl)) (hw _ (List.mem_of_getElem? (i := 59) rfl)) (hw _ (List.mem_of_getElem? (i := 57) rfl)) (hw _ (List.mem_of_getElem? (i := 58) rfl)) e3 A_kr pn (pn + 1) (n - pn) hp (own_p1 hp (by omega)) (own_mn hz hp hpn (by omega)) (by omega) (by omega) N0 g_kr (f := (mkF m 18 #[.val (.ref nd), .val (.int pi), .val (.long ky), .second, .val (.ref lv)] [(.int (sz - pi)), (.int (pi + (1 : Int32))), (.ref kr), (.int pi), (.ref kr)])) rfl (by rw [hml]; rfl) rfl (hb hby d7_18) (by decide) (W := 0) (by show 2 * 0 + _ ≤ _; exact Nat.le_of_eq rfl) (by decide)
  have ne_nd_kr : nd ≠ kr := (own_neA E_nd (hw _ (List.mem_of_getElem? (i := 14) rfl)) A_kr)
  replace F_keys_nd := F_keys_nd.keep K4q (ninS ne_nd_kr nin0)
  replace F_levels_nd := F_levels_nd.keep K4q (ninS ne_nd_kr nin0)
  replace F_children_nd := F_children_nd.keep K4q (ninS ne_nd_kr nin0)
  replace F_size_nd := F_size_nd.keep K4q (ninS ne_nd_kr nin0)
  replace F_next_nd := F_next_nd.keep K4q (ninS ne_nd_kr nin0)
  replace F_previous_nd := F_previous_nd.keep K4q (ninS ne_nd_kr nin0)
  replace E_nd := E_nd.keep K4q
  replace R_lr := R_lr.keep K4q (ninS (Ne.symm ne_kr_lr) nin0)
  replace E_lv := E_lv.keep K4q
  have Z4 := Nat.le_trans Z0 K4q.1
  have K4' := K0.trans K4q (allS (Or.inl (List.mem_of_getElem? (i := 1) rfl)) all0)
  have A_kr := Fx4
  refine Go.step st4 ?_
  show Go _ _ _ _ _ _ _ (T4.setTop (mkF m 21 #[.val (.ref nd), .val (.int pi), .val (.long ky), .second, .val (.ref lv)] []))
  refine Go.step (fun t k => XS.aloadN X4.here hx rfl (hb hby d7_21) rfl rfl k) ?_
  show Go _ _ _ _ _ _ _ (T4.setTop (mkF m 22 #[.val (.ref nd), .val (.int pi), .val (.long ky), .second, .val (.ref lv)] [(.ref nd)]))
  obtain ⟨T5, X5, e5, st5⟩ := getF X4 hx hZ hown (host := "") (Or.inl (hw _ (List.mem_of_getElem? (i := 24) rfl))) Via.refl e4 F_levels_nd (g := (mkF m 22 #[.val (.ref nd), .val (.int pi), .val (.long ky), .second, .val (.ref lv)] [(.ref nd)])) rfl rfl (hb hby d7_22)
  refine Go.step st5 ?_
  show Go _ _ _ _ _ _ _ (T5.setTop (mkF m 25 #[.val (.ref nd), .val (.int pi), .val (.long ky), .second, .val (.ref lv)] [(.ref lr)]))
  refine Go.step (fun t k => XS.iloadN X5.here hx rfl (hb hby d7_25) rfl (XS.aloadN X5.here hx rfl (hb hby d7_26) rfl rfl k)) ?_
  show Go _ _ _ _ _ _ _ (T5.setTop (mkF m 27 #[.val (.ref nd), .val (.int pi), .val (.long ky), .second, .val (.ref lv)] [(.ref nd), (.int pi), (.ref lr)]))
  obtain ⟨T6, X6, e6, st6⟩ := getF X5 hx hZ hown (host := "") (Or.inl (hw _ (List.mem_of_getElem? (i := 24) rfl))) Via.refl e5 F_levels_nd (g := (mkF m 27 #[.val (.ref nd), .val (.int pi), .val (.long ky), .second, .val (.ref lv)] [(.ref nd), (.int pi), (.ref lr)])) rfl rfl (hb hby d7_27)
  refine Go.step st6 ?_
  show Go _ _ _ _ _ _ _ (T6.setTop (mkF m 30 #[.val (.ref nd), .val (.int pi), .val (.long ky), .second, .val (.ref lv)] [(.ref lr), (.int pi), (.ref lr)]))
  refine Go.step (fun t k => XS.iloadN X6.here hx rfl (hb hby d7_30) rfl (XS.iconst X6.here hx rfl (hb hby d7_31) (XS.iadd X6.here hx rfl (hb hby d7_32) rfl (XS.aloadN X6.here hx rfl (hb hby d7_33) rfl rfl k)))) ?_
  show Go _ _ _ _ _ _ _ (T6.setTop (mkF m 34 #[.val (.ref nd), .val (.int pi), .val (.long ky), .second, .val (.ref lv)] [(.ref nd), (.int (pi + (1 : Int32))), (.ref lr), (.int pi), (.ref lr)]))
  obtain ⟨T7, X7, e7, st7⟩ := getF X6 hx hZ hown (host := "") (Or.inl (hw _ (List.mem_of_getElem? (i := 55) rfl))) Via.refl e6 F_size_nd (g := (mkF m 34 #[.val (.ref nd), .val (.int pi), .val (.long ky), .second, .val (.ref lv)] [(.ref nd), (.int (pi + (1 : Int32))), (.ref lr), (.int pi), (.ref lr)])) rfl rfl (hb hby d7_34)
  refine Go.step st7 ?_
  show Go _ _ _ _ _ _ _ (T7.setTop (mkF m 37 #[.val (.ref nd), .val (.int pi), .val (.long ky), .second, .val (.ref lv)] [(.int sz), (.int (pi + (1 : Int32))), (.ref lr), (.int pi), (.ref lr)]))
  refine Go.step (fun t k => XS.iloadN X7.here hx rfl (hb hby d7_37) rfl (XS.isub X7.here hx rfl (hb hby d7_38) rfl k)) ?_
  show Go _ _ _ _ _ _ _ (T7.setTop (mkF m 39 #[.val (.ref nd), .val (.int pi), .val (.long ky), .second, .val (.ref lv)] [(.int (sz - pi)), (.int (pi + (1 : Int32))), (.ref lr), (.int pi), (.ref lr)]))
  obtain ⟨T8, h8, Lx8, X8, e8, Nn8, K8q, Fx8, st8⟩ := own_cpR X7 hx hZ hown (hw _ (List.mem_of_getElem? (i := 56) rfl)) (hw _ (List.mem_of_getElem? (i := 59) rfl)) (hw _ (List.mem_of_getElem? (i := 57) rfl)) (hw _ (List.mem_of_getElem? (i := 58) rfl)) e7 R_lr pn (pn + 1) (n - pn) hp (own_p1 hp (by omega)) (own_mn hz hp hpn (by omega)) (by omega) (by omega) Nn4 g_lr (f := (mkF m 39 #[.val (.ref nd), .val (.int pi), .val (.long ky), .second, .val (.ref lv)] [(.int (sz - pi)), (.int (pi + (1 : Int32))), (.ref lr), (.int pi), (.ref lr)])) rfl (by rw [hml]; rfl) rfl (hb hby d7_39) (by decide) (W := 0) (by show 2 * 0 + _ ≤ _; exact Nat.le_of_eq rfl) (by decide)
  have ne_nd_lr : nd ≠ lr := (own_neR E_nd (hw _ (List.mem_of_getElem? (i := 14) rfl)) R_lr)
  replace F_keys_nd := F_keys_nd.keep K8q (ninS ne_nd_lr nin0)
  replace F_levels_nd := F_levels_nd.keep K8q (ninS ne_nd_lr nin0)
  replace F_children_nd := F_children_nd.keep K8q (ninS ne_nd_lr nin0)
  replace F_size_nd := F_size_nd.keep K8q (ninS ne_nd_lr nin0)
  replace F_next_nd := F_next_nd.keep K8q (ninS ne_nd_lr nin0)
  replace F_previous_nd := F_previous_nd.keep K8q (ninS ne_nd_lr nin0)
  replace E_nd := E_nd.keep K8q
  replace E_lv := E_lv.keep K8q
  replace A_kr := A_kr.keep K8q (ninS ne_kr_lr nin0)
  have Z8 := Nat.le_trans Z4 K8q.1
  have K8' := K4'.trans K8q (allS (Or.inl (List.mem_of_getElem? (i := 2) rfl)) all0)
  have R_lr := Fx8
  refine Go.step st8 ?_
  show Go _ _ _ _ _ _ _ (T8.setTop (mkF m 42 #[.val (.ref nd), .val (.int pi), .val (.long ky), .second, .val (.ref lv)] []))
  refine Go.step (fun t k => XS.aloadN X8.here hx rfl (hb hby d7_42) rfl rfl k) ?_
  show Go _ _ _ _ _ _ _ (T8.setTop (mkF m 43 #[.val (.ref nd), .val (.int pi), .val (.long ky), .second, .val (.ref lv)] [(.ref nd)]))
  obtain ⟨T9, X9, e9, st9⟩ := getF X8 hx hZ hown (host := "") (Or.inl (hw _ (List.mem_of_getElem? (i := 22) rfl))) Via.refl e8 F_keys_nd (g := (mkF m 43 #[.val (.ref nd), .val (.int pi), .val (.long ky), .second, .val (.ref lv)] [(.ref nd)])) rfl rfl (hb hby d7_43)
  refine Go.step st9 ?_
  show Go _ _ _ _ _ _ _ (T9.setTop (mkF m 46 #[.val (.ref nd), .val (.int pi), .val (.long ky), .second, .val (.ref lv)] [(.ref kr)]))
  refine Go.step (fun t k => XS.iloadN X9.here hx rfl (hb hby d7_46) rfl (XS.lloadN X9.here hx rfl (hb hby d7_47) rfl k)) ?_
  show Go _ _ _ _ _ _ _ (T9.setTop (mkF m 48 #[.val (.ref nd), .val (.int pi), .val (.long ky), .second, .val (.ref lv)] [(.long ky), (.int pi), (.ref kr)]))
  obtain ⟨T10, h10, X10, e10, W10, st10⟩ := own_stJ X9 hx hZ e9 A_kr pn hp (by omega) (f := (mkF m 48 #[.val (.ref nd), .val (.int pi), .val (.long ky), .second, .val (.ref lv)] [(.long ky), (.int pi), (.ref kr)])) rfl rfl (hb hby d7_48)
  replace F_keys_nd := F_keys_nd.other W10 (Or.inl ne_nd_kr)
  replace F_levels_nd := F_levels_nd.other W10 (Or.inl ne_nd_kr)
  replace F_children_nd := F_children_nd.other W10 (Or.inl ne_nd_kr)
  replace F_size_nd := F_size_nd.other W10 (Or.inl ne_nd_kr)
  replace F_next_nd := F_next_nd.other W10 (Or.inl ne_nd_kr)
  replace F_previous_nd := F_previous_nd.other W10 (Or.inl ne_nd_kr)
  replace E_nd := E_nd.wr W10
  replace E_lv := E_lv.wr W10
  replace R_lr := R_lr.other W10 (Ne.symm ne_kr_lr)
  have Z10 := Nat.le_trans Z8 (Keep.of_wr W10).1
  have N10 := Fr.snoc X10 Nn8 g_kr
  have K10 := K8'.wr W10 (Or.inl (List.mem_of_getElem? (i := 1) rfl))
  replace A_kr := A_kr.setJ W10
  refine Go.step st10 ?_
  show Go _ _ _ _ _ _ _ (T10.setTop (mkF m 49 #[.val (.ref nd), .val (.int pi), .val (.long ky), .second, .val (.ref lv)] []))
  refine Go.step (fun t k => XS.aloadN X10.here hx rfl (hb hby d7_49) rfl rfl k) ?_
  show Go _ _ _ _ _ _ _ (T10.setTop (mkF m 50 #[.val (.ref nd), .val (.int pi), .val (.long ky), .second, .val (.ref lv)] [(.ref nd)]))
  obtain ⟨T11, X11, e11, st11⟩ := getF X10 hx hZ hown (host := "") (Or.inl (hw _ (List.mem_of_getElem? (i := 24) rfl))) Via.refl e10 F_levels_nd (g := (mkF m 50 #[.val (.ref nd), .val (.int pi), .val (.long ky), .second, .val (.ref lv)] [(.ref nd)])) rfl rfl (hb hby d7_50)
  refine Go.step st11 ?_
  show Go _ _ _ _ _ _ _ (T11.setTop (mkF m 53 #[.val (.ref nd), .val (.int pi), .val (.long ky), .second, .val (.ref lv)] [(.ref lr)]))
  refine Go.step (fun t k => XS.iloadN X11.here hx rfl (hb hby d7_53) rfl (XS.aload X11.here hx rfl (hb hby d7_54) rfl rfl k)) ?_
  show Go _ _ _ _ _ _ _ (T11.setTop (mkF m 56 #[.val (.ref nd), .val (.int pi), .val (.long ky), .second, .val (.ref lv)] [(.ref lv), (.int pi), (.ref lr)]))
  obtain ⟨T12, h12, X12, e12, W12, Rx12, st12⟩ := own_stR X11 hx hZ e11 R_lr (Or.inr ⟨_, rfl, E_lv⟩) pn hp (by omega) (f := (mkF m 56 #[.val (.ref nd), .val (.int pi), .val (.long ky), .second, .val (.ref lv)] [(.ref lv), (.int pi), (.ref lr)])) rfl rfl (hb hby d7_56)
  replace F_keys_nd := F_keys_nd.other W12 (Or.inl ne_nd_lr)
  replace F_levels_nd := F_levels_nd.other W12 (Or.inl ne_nd_lr)
  replace F_children_nd := F_children_nd.other W12 (Or.inl ne_nd_lr)
  replace F_size_nd := F_size_nd.other W12 (Or.inl ne_nd_lr)
  replace F_next_nd := F_next_nd.other W12 (Or.inl ne_nd_lr)
  replace F_previous_nd := F_previous_nd.other W12 (Or.inl ne_nd_lr)
  replace E_nd := E_nd.wr W12
  replace E_lv := E_lv.wr W12
  replace A_kr := A_kr.other W12 ne_kr_lr
  have Z12 := Nat.le_trans Z10 (Keep.of_wr W12).1
  have N12 := Fr.snoc X12 N10 g_lr
  have K12 := K10.wr W12 (Or.inl (List.mem_of_getElem? (i := 2) rfl))
  have R_lr := Rx12
  refine Go.step st12 ?_
  show Go _ _ _ _ _ _ _ (T12.setTop (mkF m 57 #[.val (.ref nd), .val (.int pi), .val (.long ky), .second, .val (.ref lv)] []))
  refine Go.step (fun t k => XS.aloadN X12.here hx rfl (hb hby d7_57) rfl rfl (XS.dup X12.here hx rfl (hb hby d7_58) rfl rfl k)) ?_
  show Go _ _ _ _ _ _ _ (T12.setTop (mkF m 59 #[.val (.ref nd), .val (.int pi), .val (.long ky), .second, .val (.ref lv)] [(.ref nd), (.ref nd)]))
  obtain ⟨T13, X13, e13, st13⟩ := getF X12 hx hZ hown (host := "") (Or.inl (hw _ (List.mem_of_getElem? (i := 55) rfl))) Via.refl e12 F_size_nd (g := (mkF m 59 #[.val (.ref nd), .val (.int pi), .val (.long ky), .second, .val (.ref lv)] [(.ref nd), (.ref nd)])) rfl rfl (hb hby d7_59)
  refine Go.step st13 ?_
  show Go _ _ _ _ _ _ _ (T13.setTop (mkF m 62 #[.val (.ref nd), .val (.int pi), .val (.long ky), .second, .val (.ref lv)] [(.int sz), (.ref nd)]))
  refine Go.step (fun t k => XS.iconst X13.here hx rfl (hb hby d7_62) (XS.iadd X13.here hx rfl (hb hby d7_63) rfl k)) ?_
  show Go _ _ _ _ _ _ _ (T13.setTop (mkF m 64 #[.val (.ref nd), .val (.int pi), .val (.long ky), .second, .val (.ref lv)] [(.int (sz + (1 : Int32))), (.ref nd)]))
  obtain ⟨T14, h14, X14, e14, W14, st14⟩ := putF X13 hx hZ hown (host := "") (Or.inl (hw _ (List.mem_of_getElem? (i := 55) rfl))) Via.refl e13 F_size_nd E_nd (Or.inl (hw _ (List.mem_of_getElem? (i := 49) rfl))) (hw _ (List.mem_of_getElem? (i := 14) rfl)) (ty := .int) (by decide) rfl rfl (g := (mkF m 64 #[.val (.ref nd), .val (.int pi), .val (.long ky), .second, .val (.ref lv)] [(.int (sz + (1 : Int32))), (.ref nd)])) rfl rfl (hb hby d7_64)
  replace F_keys_nd := F_keys_nd.other W14 (Or.inr (slot_ne (Or.inr (hw _ (List.mem_of_getElem? (i := 23) rfl))) (Or.inl (hw _ (List.mem_of_getElem? (i := 49) rfl))) (by decide) (t := (.array .long)) (t' := .int) (by decide) (by decide)))
  replace F_levels_nd := F_levels_nd.other W14 (Or.inr (slot_ne (Or.inr (hw _ (List.mem_of_getElem? (i := 25) rfl))) (Or.inl (hw _ (List.mem_of_getElem? (i := 49) rfl))) (by decide) (t := (.array (.object "com/example/matchstone/matchstone/PriceLevel"))) (t' := .int) (by decide) (by decide)))
  replace F_children_nd := F_children_nd.other W14 (Or.inr (slot_ne (Or.inr (hw _ (List.mem_of_getElem? (i := 27) rfl))) (Or.inl (hw _ (List.mem_of_getElem? (i := 49) rfl))) (by decide) (t := (.array (.object "com/example/matchstone/matchstone/LevelIndex$Node"))) (t' := .int) (by decide) (by decide)))
  replace F_next_nd := F_next_nd.other W14 (Or.inr (slot_ne (Or.inl (hw _ (List.mem_of_getElem? (i := 121) rfl))) (Or.inl (hw _ (List.mem_of_getElem? (i := 49) rfl))) (by decide) (t := (.object "com/example/matchstone/matchstone/LevelIndex$Node")) (t' := .int) (by decide) (by decide)))
  replace F_previous_nd := F_previous_nd.other W14 (Or.inr (slot_ne (Or.inl (hw _ (List.mem_of_getElem? (i := 103) rfl))) (Or.inl (hw _ (List.mem_of_getElem? (i := 49) rfl))) (by decide) (t := (.object "com/example/matchstone/matchstone/LevelIndex$Node")) (t' := .int) (by decide) (by decide)))
  replace E_nd := E_nd.wr W14
  replace E_lv := E_lv.wr W14
  replace A_kr := A_kr.other W14 (Ne.symm ne_nd_kr)
  replace R_lr := R_lr.other W14 (Ne.symm ne_nd_lr)
  have Z14 := Nat.le_trans Z12 (Keep.of_wr W14).1
  have N14 := Fr.snoc X14 N12 g_nd
  have K14 := K12.wr W14 (Or.inl (List.mem_of_getElem? (i := 0) rfl))
  replace F_size_nd := F_size_nd.same W14
  refine Go.step st14 ?_
  show Go _ _ _ _ _ _ _ (T14.setTop (mkF m 67 #[.val (.ref nd), .val (.int pi), .val (.long ky), .second, .val (.ref lv)] []))
  refine Go.retV X14 Bd.notSynchronized hx Bd.returns (hb hby d7_67) (by decide) (by decide) ?_
  rw [e14]
  exact ⟨rfl, N14, K14, F_keys_nd, F_levels_nd, F_children_nd, F_size_nd, F_next_nd, F_previous_nd, E_nd, A_kr, R_lr⟩
theorem d8_0 : decode prog_21_method_10_code 0 = .ok (.aload_n 1, 1) := by decide +kernel
theorem d8_1 : decode prog_21_method_10_code 1 = .ok (.invokevirtual 50, 3) := by decide +kernel
theorem d8_4 : decode prog_21_method_10_code 4 = .ok (.ifCond .eq 100, 3) := by decide +kernel
theorem d8_7 : decode prog_21_method_10_code 7 = .ok (.aload_n 1, 1) := by decide +kernel
theorem d8_8 : decode prog_21_method_10_code 8 = .ok (.getfield 26, 3) := by decide +kernel
theorem d8_11 : decode prog_21_method_10_code 11 = .ok (.iconst 0, 1) := by decide +kernel
theorem d8_12 : decode prog_21_method_10_code 12 = .ok (.aload_n 1, 1) := by decide +kernel
theorem d8_13 : decode prog_21_method_10_code 13 = .ok (.getfield 30, 3) := by decide +kernel
theorem d8_16 : decode prog_21_method_10_code 16 = .ok (.lload_n 2, 1) := by decide +kernel
theorem d8_17 : decode prog_21_method_10_code 17 = .ok (.invokestatic 34, 3) := by decide +kernel
theorem d8_20 : decode prog_21_method_10_code 20 = .ok (.ineg, 1) := by decide +kernel
theorem d8_21 : decode prog_21_method_10_code 21 = .ok (.iconst 1, 1) := by decide +kernel
theorem d8_22 : decode prog_21_method_10_code 22 = .ok (.isub, 1) := by decide +kernel
theorem d8_23 : decode prog_21_method_10_code 23 = .ok (.istore 5, 2) := by decide +kernel
theorem d8_25 : decode prog_21_method_10_code 25 = .ok (.aload_n 1, 1) := by decide +kernel
theorem d8_26 : decode prog_21_method_10_code 26 = .ok (.iload 5, 2) := by decide +kernel
theorem d8_28 : decode prog_21_method_10_code 28 = .ok (.lload_n 2, 1) := by decide +kernel
theorem d8_29 : decode prog_21_method_10_code 29 = .ok (.aload 4, 2) := by decide +kernel
theorem d8_31 : decode prog_21_method_10_code 31 = .ok (.invokevirtual 67, 3) := by decide +kernel
theorem d8_34 : decode prog_21_method_10_code 34 = .ok (.iload 5, 2) := by decide +kernel
theorem d8_36 : decode prog_21_method_10_code 36 = .ok (.iconst 1, 1) := by decide +kernel
theorem d8_37 : decode prog_21_method_10_code 37 = .ok (.iadd, 1) := by decide +kernel
theorem d8_38 : decode prog_21_method_10_code 38 = .ok (.aload_n 1, 1) := by decide +kernel
theorem d8_39 : decode prog_21_method_10_code 39 = .ok (.getfield 30, 3) := by decide +kernel
theorem d8_42 : decode prog_21_method_10_code 42 = .ok (.if_icmp .ge 19, 3) := by decide +kernel
theorem d8_45 : decode prog_21_method_10_code 45 = .ok (.aload_n 0, 1) := by decide +kernel
theorem d8_46 : decode prog_21_method_10_code 46 = .ok (.aload_n 1, 1) := by decide +kernel
theorem d8_47 : decode prog_21_method_10_code 47 = .ok (.getfield 40, 3) := by decide +kernel
theorem d8_50 : decode prog_21_method_10_code 50 = .ok (.iload 5, 2) := by decide +kernel
theorem d8_52 : decode prog_21_method_10_code 52 = .ok (.iconst 1, 1) := by decide +kernel
theorem d8_53 : decode prog_21_method_10_code 53 = .ok (.iadd, 1) := by decide +kernel
theorem d8_54 : decode prog_21_method_10_code 54 = .ok (.aaload, 1) := by decide +kernel
theorem d8_55 : decode prog_21_method_10_code 55 = .ok (.putfield 82, 3) := by decide +kernel
theorem d8_58 : decode prog_21_method_10_code 58 = .ok (.goto 27, 3) := by decide +kernel
theorem d8_61 : decode prog_21_method_10_code 61 = .ok (.aload_n 0, 1) := by decide +kernel
theorem d8_62 : decode prog_21_method_10_code 62 = .ok (.aload_n 1, 1) := by decide +kernel
theorem d8_63 : decode prog_21_method_10_code 63 = .ok (.getfield 44, 3) := by decide +kernel
theorem d8_66 : decode prog_21_method_10_code 66 = .ok (.ifnonnull 7, 3) := by decide +kernel
theorem d8_69 : decode prog_21_method_10_code 69 = .ok (.aconst_null, 1) := by decide +kernel
theorem d8_70 : decode prog_21_method_10_code 70 = .ok (.goto 12, 3) := by decide +kernel
theorem d8_82 : decode prog_21_method_10_code 82 = .ok (.putfield 82, 3) := by decide +kernel
theorem d8_85 : decode prog_21_method_10_code 85 = .ok (.aload_n 1, 1) := by decide +kernel
theorem d8_86 : decode prog_21_method_10_code 86 = .ok (.getfield 30, 3) := by decide +kernel
theorem d8_89 : decode prog_21_method_10_code 89 = .ok (.bipush 64, 2) := by decide +kernel
theorem d8_91 : decode prog_21_method_10_code 91 = .ok (.if_icmp .le 11, 3) := by decide +kernel
theorem d8_102 : decode prog_21_method_10_code 102 = .ok (.aconst_null, 1) := by decide +kernel
theorem d8_103 : decode prog_21_method_10_code 103 = .ok (.areturn, 1) := by decide +kernel
theorem pn_8 : plainName "com/example/matchstone/matchstone/LevelIndex" = true := by first | (simp [plainName, overriddenIn]; done) | decide +kernel
theorem pd_8_0 : parseMethodDescriptor "()Z" = some ⟨[], some .boolean⟩ := by decide +kernel
theorem pd_8_1 : parseMethodDescriptor "([JIIJ)I" = some ⟨[(.array .long), .int, .int, .long], some .int⟩ := by decide +kernel
theorem pd_8_2 : parseMethodDescriptor "(IJLcom/example/matchstone/matchstone/PriceLevel;)V" = some ⟨[.int, .long, (.object "com/example/matchstone/matchstone/PriceLevel")], none⟩ := by decide +kernel
theorem ef_8 (m : MethodId) (x0 : Addr) (x1 : Addr) (x2 : Int64) (x3 : Addr) : entryFrame m #[(.ref x0), (.ref x1), (.long x2), (.ref x3)] 7 = mkF m 0 #[.val (.ref x0), .val (.ref x1), .val (.long x2), .second, .val (.ref x3), .unset, .unset] [] := by first | (simp [entryFrame, mkF, argsToLocals, Value.category]; done) | rfl
def Q8 (Z : State) (li : Addr) (nd : Addr) (ky : Int64) (lv : Addr) (kr : Addr) (lr : Addr) (gk : Nat → Int64) (gl : Nat → Value) (sz : Int32) (n : Nat) (aw : Value) (h0 : Heap) (n0 : Nat) (v : Option Value) (h : Heap) (L : List Loc) : Prop := ∃ pn : Nat, ∃ w : Value, v = some .null ∧ Fr n0 L ∧ Keep h0 h [li, nd, kr, lr] ∧ (pn ≤ n) ∧ (∀ i, i < pn → gk i < ky) ∧ (∀ i, pn ≤ i → i < n → ky < gk i) ∧ (w.isRef = true) ∧ Fld Z h li "com/example/matchstone/matchstone/LevelIndex" "root" "Lcom/example/matchstone/matchstone/LevelIndex$Node;" (.ref nd) ∧ Fld Z h li "com/example/matchstone/matchstone/LevelIndex" "last" "Lcom/example/matchstone/matchstone/LevelIndex$Node;" (.ref nd) ∧ Fld Z h li "com/example/matchstone/matchstone/LevelIndex" "ahead" "Lcom/example/matchstone/matchstone/PriceLevel;" w ∧ Exa Z h li "com/example/matchstone/matchstone/LevelIndex" ∧ Fld Z h nd "com/example/matchstone/matchstone/LevelIndex$Node" "keys" "[J" (.ref kr) ∧ Fld Z h nd "com/example/matchstone/matchstone/LevelIndex$Node" "levels" "[Lcom/example/matchstone/matchstone/PriceLevel;" (.ref lr) ∧ Fld Z h nd "com/example/matchstone/matchstone/LevelIndex$Node" "children" "[Lcom/example/matchstone/matchstone/LevelIndex$Node;" .null ∧ Fld Z h nd "com/example/matchstone/matchstone/LevelIndex$Node" "size" "I" (.int (sz + (1 : Int32))) ∧ Fld Z h nd "com/example/matchstone/matchstone/LevelIndex$Node" "next" "Lcom/example/matchstone/matchstone/LevelIndex$Node;" .null ∧ Fld Z h nd "com/example/matchstone/matchstone/LevelIndex$Node" "previous" "Lcom/example/matchstone/matchstone/LevelIndex$Node;" .null ∧ Exa Z h nd "com/example/matchstone/matchstone/LevelIndex$Node" ∧ AryJ Z h kr 65 (up (own_sh gk pn (pn + 1) (n - pn)) pn ky) ∧ RAr Z h lr "com/example/matchstone/matchstone/PriceLevel" 65 (up (own_sh gl pn (pn + 1) (n - pn)) pn (.ref lv))
set_option maxRecDepth 65536 in
set_option maxHeartbeats 40000000 in
theorem rm8 (l : Launch) (Z : State) (a0 : Array Value) (hw : ∀ d ∈ tables_1, d.before a0 Z = true) (ws : List Jvm.Cond) (li : Addr) (nd : Addr) (ky : Int64) (lv : Addr) (kr : Addr) (lr : Addr) (gk : Nat → Int64) (gl : Nat → Value) (sz : Int32) (n : Nat) (aw : Value) (h0 : Heap) (n0 : Nat) (Z0 : n0 ≤ h0.size) (F_root_li : Fld Z h0 li "com/example/matchstone/matchstone/LevelIndex" "root" "Lcom/example/matchstone/matchstone/LevelIndex$Node;" (.ref nd)) (F_last_li : Fld Z h0 li "com/example/matchstone/matchstone/LevelIndex" "last" "Lcom/example/matchstone/matchstone/LevelIndex$Node;" (.ref nd)) (F_ahead_li : Fld Z h0 li "com/example/matchstone/matchstone/LevelIndex" "ahead" "Lcom/example/matchstone/matchstone/PriceLevel;" aw) (E_li : Exa Z h0 li "com/example/matchstone/matchstone/LevelIndex") (g_li : n0 ≤ li) (F_keys_nd : Fld Z h0 nd "com/example/matchstone/matchstone/LevelIndex$Node" "keys" "[J" (.ref kr)) (F_levels_nd : Fld Z h0 nd "com/example/matchstone/matchstone/LevelIndex$Node" "levels" "[Lcom/example/matchstone/matchstone/PriceLevel;" (.ref lr)) (F_children_nd : Fld Z h0 nd "com/example/matchstone/matchstone/LevelIndex$Node" "children" "[Lcom/example/matchstone/matchstone/LevelIndex$Node;" .null) (F_size_nd : Fld Z h0 nd "com/example/matchstone/matchstone/LevelIndex$Node" "size" "I" (.int sz)) (F_next_nd : Fld Z h0 nd "com/example/matchstone/matchstone/LevelIndex$Node" "next" "Lcom/example/matchstone/matchstone/LevelIndex$Node;" .null) (F_previous_nd : Fld Z h0 nd "com/example/matchstone/matchstone/LevelIndex$Node" "previous" "Lcom/example/matchstone/matchstone/LevelIndex$Node;" .null) (E_nd : Exa Z h0 nd "com/example/matchstone/matchstone/LevelIndex$Node") (A_kr : AryJ Z h0 kr 65 gk) (R_lr : RAr Z h0 lr "com/example/matchstone/matchstone/PriceLevel" 65 gl) (g_nd : n0 ≤ nd) (g_kr : n0 ≤ kr) (g_lr : n0 ≤ lr) (ne_kr_lr : kr ≠ lr) (E_lv : Exa Z h0 lv "com/example/matchstone/matchstone/PriceLevel") (hz : (sz.toInt = (n : Int))) (hn1 : (1 ≤ n)) (hn : (n ≤ 3)) (hs : (own_srt n gk)) (hnew : (∀ i, i < n → gk i ≠ ky)) :
    MetFree l (⟨"com/example/matchstone/matchstone/LevelIndex", "insert", "(Lcom/example/matchstone/matchstone/LevelIndex$Node;JLcom/example/matchstone/matchstone/PriceLevel;)Lcom/example/matchstone/matchstone/LevelIndex$Node;"⟩ : MethodName) (head1 (Jvm.Cond.code (⟨"com/example/matchstone/matchstone/LevelIndex", "insert", "(Lcom/example/matchstone/matchstone/LevelIndex$Node;JLcom/example/matchstone/matchstone/PriceLevel;)Lcom/example/matchstone/matchstone/LevelIndex$Node;"⟩ : MethodName) prog_21_method_10_code 7 (some (.object "com/example/matchstone/matchstone/LevelIndex$Node")) :: ws) ({ frames := 2, cells := 0, slots := 0, locals := 56 } : Room)) (fun a U => a = #[(.ref li), (.ref nd), (.long ky), (.ref lv)] ∧ Z.Warmed39 U.vm ∧ U.heap = h0) (fun _ _ _ _ _ => True) (fun _ U o U' => ∃ v L, o = .returned v ∧ Q8 Z li nd ky lv kr lr gk gl sz n aw h0 n0 v U'.heap L ∧ FrameEnd U o U' L ({ frames := 2, cells := 0, slots := 0, locals := 56 } : Room).cells ({ frames := 2, cells := 0, slots := 0, locals := 56 } : Room).slots) := by
  refine MetFree.of_bodySF (plainFor_of_name pn_8) hisR ?_
  intro p e s m args below meth c s₁ Bd hml0 hP hK
  obtain ⟨rfl, hZ, hh⟩ := hP
  have hx := Bd.exec
  have hby := Bd.bytes
  have hml : c.maxLocals = 7 := hml0
  have hown : s.vm.findClass "com/example/matchstone/matchstone/LevelIndex" = some m.cls := findClass_of_methodNamed Bd.named
  have hnm := (name_of_methodNamed Bd.named Bd.method).1
  have X0 : Stand p l e ({ frames := 2, cells := 0, slots := 0, locals := 56 } : Room) s m #[(.ref li), (.ref nd), (.long ky), (.ref lv)] below meth c s₁ [] 0 0 := Stand.of_body Bd
  have e0 : s₁.heap = h0 := by rw [← hh, Bd.state]; rfl
  have N0 := Fr.nil n0
  have K0 := Keep.refl h0 ([li, nd, kr, lr] : List Addr)
  show Go p e below s (Q8 Z li nd ky lv kr lr gk gl sz n aw h0 n0) ({ frames := 2, cells := 0, slots := 0, locals := 56 } : Room).cells ({ frames := 2, cells := 0, slots := 0, locals := 56 } : Room).slots (s₁.setTop (entryFrame m #[(.ref li), (.ref nd), (.long ky), (.ref lv)] 7))
  rw [ef_8]
  show Go _ _ _ _ _ _ _ (s₁.setTop (mkF m 0 #[.val (.ref li), .val (.ref nd), .val (.long ky), .second, .val (.ref lv), .unset, .unset] []))
  refine Go.step (fun t k => XS.aloadN X0.here hx rfl (hb hby d8_0) rfl rfl k) ?_
  show Go _ _ _ _ _ _ _ (s₁.setTop (mkF m 1 #[.val (.ref li), .val (.ref nd), .val (.long ky), .second, .val (.ref lv), .unset, .unset] [(.ref nd)]))
  obtain ⟨cq1, kq1, q1a, q1b, q1c⟩ := isOf hZ e0 E_nd
  obtain ⟨_, _, ⟨T1, L1, k1, n1⟩, -, X1, ⟨Lc1, hQ1, l1, y1, z1⟩, st1⟩ := X0.virtualBack hx (y := (⟨"com/example/matchstone/matchstone/LevelIndex$Node", "isLeaf", "()Z"⟩ : MethodName)) (z := (⟨"com/example/matchstone/matchstone/LevelIndex$Node", "isLeaf", "()Z"⟩ : MethodName)) hown (mvT hZ (hw _ (List.mem_of_getElem? (i := 66) rfl))) (mvT hZ (hw _ (List.mem_of_getElem? (i := 67) rfl))) (notFace_of_selects (args := #[]) (mvT hZ (hw _ (List.mem_of_getElem? (i := 69) rfl)))) (mvT hZ (hw _ (List.mem_of_getElem? (i := 69) rfl))) (mvT hZ (hw _ (List.mem_of_getElem? (i := 68) rfl))) (by decide) (backOf (W := 0) (rm9 l Z a0 hw [] nd lr h0 n0 Z0 F_levels_nd) hZ (hw _ (List.mem_of_getElem? (i := 70) rfl)) (hw _ (List.mem_of_getElem? (i := 11) rfl)) (by decide) (by decide)) q1a q1c (g := (mkF m 1 #[.val (.ref li), .val (.ref nd), .val (.long ky), .second, .val (.ref lv), .unset, .unset] [(.ref nd)])) rfl (by rw [hml]; rfl) (Steps.refl _) (argsL := []) (rest := []) (lenOf pd_8_0 rfl) rfl (by show 2 * 0 + _ ≤ _; exact Nat.le_of_eq rfl) (hb hby d8_1) (fun _ _ => ⟨rfl, e0, (by decide : 0 + 0 ≤ _), (by decide : 0 + 0 ≤ _)⟩)
  dsimp only [Pt.U, Pt.locs, Pt.cells, Pt.slots] at X1 l1 y1 z1 st1 hQ1
  subst l1 y1 z1
  obtain ⟨rfl, N1q, K1q⟩ := hQ1
  have N1 := Fr.app N0 N1q
  refine Go.step (fun t k => st1.trans k) ?_
  show Go _ _ _ _ _ _ _ (T1.setTop (mkF m 4 #[.val (.ref li), .val (.ref nd), .val (.long ky), .second, .val (.ref lv), .unset, .unset] [(.int (1 : Int32))]))
  refine Go.step (fun t k => XS.ifNo X1.here hx rfl (hb hby d8_4) rfl ((if0 _ _).trans (feq (by decide : ¬ (1 : Int32) = (0 : Int32))).1) k) ?_
  show Go _ _ _ _ _ _ _ (T1.setTop (mkF m 7 #[.val (.ref li), .val (.ref nd), .val (.long ky), .second, .val (.ref lv), .unset, .unset] []))
  refine Go.step (fun t k => XS.aloadN X1.here hx rfl (hb hby d8_7) rfl rfl k) ?_
  show Go _ _ _ _ _ _ _ (T1.setTop (mkF m 8 #[.val (.ref li), .val (.ref nd), .val (.long ky), .second, .val (.ref lv), .unset, .unset] [(.ref nd)]))
  obtain ⟨T2, X2, e2, st2⟩ := own_getR X1 hx hZ hown (hw _ (List.mem_of_getElem? (i := 61) rfl)) K1q F_keys_nd (f := (mkF m 8 #[.val (.ref li), .val (.ref nd), .val (.long ky), .second, .val (.ref lv), .unset, .unset] [(.ref nd)])) rfl rfl (hb hby d8_8)
  refine Go.step st2 ?_
  show Go _ _ _ _ _ _ _ (T2.setTop (mkF m 11 #[.val (.ref li), .val (.ref nd), .val (.long ky), .second, .val (.ref lv), .unset, .unset] [(.ref kr)]))
  refine Go.step (fun t k => XS.iconst X2.here hx rfl (hb hby d8_11) (XS.aloadN X2.here hx rfl (hb hby d8_12) rfl rfl k)) ?_
  show Go _ _ _ _ _ _ _ (T2.setTop (mkF m 13 #[.val (.ref li), .val (.ref nd), .val (.long ky), .second, .val (.ref lv), .unset, .unset] [(.ref nd), (.int (0 : Int32)), (.ref kr)]))
  obtain ⟨T3, X3, e3, st3⟩ := own_getR X2 hx hZ hown (hw _ (List.mem_of_getElem? (i := 48) rfl)) e2 F_size_nd (f := (mkF m 13 #[.val (.ref li), .val (.ref nd), .val (.long ky), .second, .val (.ref lv), .unset, .unset] [(.ref nd), (.int (0 : Int32)), (.ref kr)])) rfl rfl (hb hby d8_13)
  refine Go.step st3 ?_
  show Go _ _ _ _ _ _ _ (T3.setTop (mkF m 16 #[.val (.ref li), .val (.ref nd), .val (.long ky), .second, .val (.ref lv), .unset, .unset] [(.int sz), (.int (0 : Int32)), (.ref kr)]))
  refine Go.step (fun t k => XS.lloadN X3.here hx rfl (hb hby d8_16) rfl k) ?_
  show Go _ _ _ _ _ _ _ (T3.setTop (mkF m 17 #[.val (.ref li), .val (.ref nd), .val (.long ky), .second, .val (.ref lv), .unset, .unset] [(.long ky), (.int sz), (.int (0 : Int32)), (.ref kr)]))
  obtain ⟨_, _, ⟨T4, L4, k4, n4⟩, -, X4, ⟨Lc4, hQ4, l4, y4, z4⟩, st4⟩ := Jvm.LawKit.callS X3 hx (y := (⟨"java/util/Arrays", "binarySearch", "([JIIJ)I"⟩ : MethodName)) hown (mvT hZ (hw _ (List.mem_of_getElem? (i := 71) rfl))) (mvT hZ (hw _ (List.mem_of_getElem? (i := 72) rfl))) (mvT hZ (hw _ (List.mem_of_getElem? (i := 73) rfl))) (mvT hZ (hw _ (List.mem_of_getElem? (i := 74) rfl))) (by decide) (backOf (W := 0) (rm10 l Z a0 hw [] kr sz ky gk n h0 n0 Z0 A_kr (by assumption) (by assumption) (by assumption) (by assumption)) hZ (hw _ (List.mem_of_getElem? (i := 74) rfl)) (hw _ (List.mem_of_getElem? (i := 73) rfl)) (by decide) (by decide)) (g := (mkF m 17 #[.val (.ref li), .val (.ref nd), .val (.long ky), .second, .val (.ref lv), .unset, .unset] [(.long ky), (.int sz), (.int (0 : Int32)), (.ref kr)])) rfl (by rw [hml]; rfl) (argsL := [(.ref kr), (.int (0 : Int32)), (.int sz), (.long ky)]) (rest := []) (lenOf pd_8_1 rfl) rfl (by show 2 * 0 + _ ≤ _; exact Nat.le_of_eq rfl) (hb hby d8_17) (fun _ _ => ⟨rfl, e3, (by decide : 0 + 0 ≤ _), (by decide : 0 + 0 ≤ _)⟩)
  dsimp only [Pt.U, Pt.locs, Pt.cells, Pt.slots] at X4 l4 y4 z4 st4 hQ4
  subst l4 y4 z4
  obtain ⟨r_4, rfl, N4q, K4q, o4_hf⟩ := hQ4
  have N4 := Fr.app N1 N4q
  refine Go.step st4 ?_
  show Go _ _ _ _ _ _ _ (T4.setTop (mkF m 20 #[.val (.ref li), .val (.ref nd), .val (.long ky), .second, .val (.ref lv), .unset, .unset] [(.int r_4)]))
  refine Go.step (fun t k => XS.ineg X4.here hx rfl (hb hby d8_20) rfl (XS.iconst X4.here hx rfl (hb hby d8_21) (XS.isub X4.here hx rfl (hb hby d8_22) rfl (XS.istore X4.here hx rfl (hb hby d8_23) rfl (l' := #[.val (.ref li), .val (.ref nd), .val (.long ky), .second, .val (.ref lv), .val (.int ((-r_4) - (1 : Int32))), .unset]) rfl k)))) ?_
  show Go _ _ _ _ _ _ _ (T4.setTop (mkF m 25 #[.val (.ref li), .val (.ref nd), .val (.long ky), .second, .val (.ref lv), .val (.int ((-r_4) - (1 : Int32))), .unset] []))
  generalize hpi : ((-r_4) - (1 : Int32)) = pi
  show Go _ _ _ _ _ _ _ (T4.setTop (mkF m 25 #[.val (.ref li), .val (.ref nd), .val (.long ky), .second, .val (.ref lv), .val (.int pi), .unset] []))
  obtain ⟨pn, hpn, hrp, hlo, hhi⟩ := own_abs o4_hf hnew
  have hp := own_pi hpi hrp (by omega)
  refine Go.step (fun t k => XS.aloadN X4.here hx rfl (hb hby d8_25) rfl rfl (XS.iload X4.here hx rfl (hb hby d8_26) rfl (XS.lloadN X4.here hx rfl (hb hby d8_28) rfl (XS.aload X4.here hx rfl (hb hby d8_29) rfl rfl k)))) ?_
  show Go _ _ _ _ _ _ _ (T4.setTop (mkF m 31 #[.val (.ref li), .val (.ref nd), .val (.long ky), .second, .val (.ref lv), .val (.int pi), .unset] [(.ref lv), (.long ky), (.int pi), (.ref nd)]))
  obtain ⟨cq5, kq5, q5a, q5b, q5c⟩ := isOf hZ K4q E_nd
  obtain ⟨_, _, ⟨T5, L5, k5, n5⟩, -, X5, ⟨Lc5, hQ5, l5, y5, z5⟩, st5⟩ := X4.virtualBack hx (y := (⟨"com/example/matchstone/matchstone/LevelIndex$Node", "insertEntry", "(IJLcom/example/matchstone/matchstone/PriceLevel;)V"⟩ : MethodName)) (z := (⟨"com/example/matchstone/matchstone/LevelIndex$Node", "insertEntry", "(IJLcom/example/matchstone/matchstone/PriceLevel;)V"⟩ : MethodName)) hown (mvT hZ (hw _ (List.mem_of_getElem? (i := 50) rfl))) (mvT hZ (hw _ (List.mem_of_getElem? (i := 51) rfl))) (notFace_of_selects (args := #[]) (mvT hZ (hw _ (List.mem_of_getElem? (i := 53) rfl)))) (mvT hZ (hw _ (List.mem_of_getElem? (i := 53) rfl))) (mvT hZ (hw _ (List.mem_of_getElem? (i := 52) rfl))) (by decide) (backOf (W := 0) (rm7 l Z a0 hw [] nd pi ky lv kr lr gk gl sz n pn h0 n0 Z0 F_keys_nd F_levels_nd F_children_nd F_size_nd F_next_nd F_previous_nd E_nd A_kr R_lr g_nd g_kr g_lr ne_kr_lr E_lv (by assumption) (by assumption) (by assumption) (by assumption)) hZ (hw _ (List.mem_of_getElem? (i := 54) rfl)) (hw _ (List.mem_of_getElem? (i := 11) rfl)) (by decide) (by decide)) q5a q5c (g := (mkF m 31 #[.val (.ref li), .val (.ref nd), .val (.long ky), .second, .val (.ref lv), .val (.int pi), .unset] [(.ref lv), (.long ky), (.int pi), (.ref nd)])) rfl (by rw [hml]; rfl) (Steps.refl _) (argsL := [(.int pi), (.long ky), (.ref lv)]) (rest := []) (lenOf pd_8_2 rfl) rfl (by show 2 * 0 + _ ≤ _; exact Nat.le_of_eq rfl) (hb hby d8_31) (fun _ _ => ⟨rfl, K4q, (by decide : 0 + 0 ≤ _), (by decide : 0 + 0 ≤ _)⟩)
  dsimp only [Pt.U, Pt.locs, Pt.cells, Pt.slots] at X5 l5 y5 z5 st5 hQ5
  subst l5 y5 z5
  obtain ⟨rfl, N5q, K5q, o5_F_keys_nd, o5_F_levels_nd, o5_F_children_nd, o5_F_size_nd, o5_F_next_nd, o5_F_previous_nd, o5_E_nd, o5_A_kr, o5_R_lr⟩ := hQ5
  have N5 := Fr.app N4 N5q
  have ne_li_nd : li ≠ nd := (ne_exa E_li E_nd (by decide))
  have ne_li_kr : li ≠ kr := (own_neA E_li (hw _ (List.mem_of_getElem? (i := 1) rfl)) A_kr)
  have ne_li_lr : li ≠ lr := (own_neR E_li (hw _ (List.mem_of_getElem? (i := 1) rfl)) R_lr)
  replace F_root_li := F_root_li.keep K5q (ninS ne_li_nd (ninS ne_li_kr (ninS ne_li_lr nin0)))
  replace F_last_li := F_last_li.keep K5q (ninS ne_li_nd (ninS ne_li_kr (ninS ne_li_lr nin0)))
  replace F_ahead_li := F_ahead_li.keep K5q (ninS ne_li_nd (ninS ne_li_kr (ninS ne_li_lr nin0)))
  replace E_li := E_li.keep K5q
  replace E_nd := E_nd.keep K5q
  replace E_lv := E_lv.keep K5q
  have Z5 := Nat.le_trans Z0 K5q.1
  have K5' := K0.trans K5q (allS (Or.inl (List.mem_of_getElem? (i := 1) rfl)) (allS (Or.inl (List.mem_of_getElem? (i := 2) rfl)) (allS (Or.inl (List.mem_of_getElem? (i := 3) rfl)) all0)))
  have F_keys_nd := o5_F_keys_nd
  have F_levels_nd := o5_F_levels_nd
  have F_children_nd := o5_F_children_nd
  have F_size_nd := o5_F_size_nd
  have F_next_nd := o5_F_next_nd
  have F_previous_nd := o5_F_previous_nd
  have E_nd := o5_E_nd
  have A_kr := o5_A_kr
  have R_lr := o5_R_lr
  refine Go.step (fun t k => st5.trans k) ?_
  show Go _ _ _ _ _ _ _ (T5.setTop (mkF m 34 #[.val (.ref li), .val (.ref nd), .val (.long ky), .second, .val (.ref lv), .val (.int pi), .unset] []))
  refine Go.step (fun t k => XS.iload X5.here hx rfl (hb hby d8_34) rfl (XS.iconst X5.here hx rfl (hb hby d8_36) (XS.iadd X5.here hx rfl (hb hby d8_37) rfl (XS.aloadN X5.here hx rfl (hb hby d8_38) rfl rfl k)))) ?_
  show Go _ _ _ _ _ _ _ (T5.setTop (mkF m 39 #[.val (.ref li), .val (.ref nd), .val (.long ky), .second, .val (.ref lv), .val (.int pi), .unset] [(.ref nd), (.int (pi + (1 : Int32)))]))
  obtain ⟨T6, X6, e6, st6⟩ := own_getR X5 hx hZ hown (hw _ (List.mem_of_getElem? (i := 48) rfl)) rfl F_size_nd (f := (mkF m 39 #[.val (.ref li), .val (.ref nd), .val (.long ky), .second, .val (.ref lv), .val (.int pi), .unset] [(.ref nd), (.int (pi + (1 : Int32)))])) rfl rfl (hb hby d8_39)
  refine Go.step st6 ?_
  show Go _ _ _ _ _ _ _ (T6.setTop (mkF m 42 #[.val (.ref li), .val (.ref nd), .val (.long ky), .second, .val (.ref lv), .val (.int pi), .unset] [(.int (sz + (1 : Int32))), (.int (pi + (1 : Int32)))]))
  by_cases hc42_7 : (pi + (1 : Int32)) < (sz + (1 : Int32))
  · refine Go.step (fun t k => XS.icmpNo X6.here hx rfl (hb hby d8_42) rfl (tlt hc42_7).2.1 k) ?_
    show Go _ _ _ _ _ _ _ (T6.setTop (mkF m 45 #[.val (.ref li), .val (.ref nd), .val (.long ky), .second, .val (.ref lv), .val (.int pi), .unset] []))
    refine Go.step (fun t k => XS.aloadN X6.here hx rfl (hb hby d8_45) rfl rfl (XS.aloadN X6.here hx rfl (hb hby d8_46) rfl rfl k)) ?_
    show Go _ _ _ _ _ _ _ (T6.setTop (mkF m 47 #[.val (.ref li), .val (.ref nd), .val (.long ky), .second, .val (.ref lv), .val (.int pi), .unset] [(.ref nd), (.ref li)]))
    obtain ⟨T8, X8, e8, st8⟩ := own_getR X6 hx hZ hown (hw _ (List.mem_of_getElem? (i := 81) rfl)) e6 F_levels_nd (f := (mkF m 47 #[.val (.ref li), .val (.ref nd), .val (.long ky), .second, .val (.ref lv), .val (.int pi), .unset] [(.ref nd), (.ref li)])) rfl rfl (hb hby d8_47)
    refine Go.step st8 ?_
    show Go _ _ _ _ _ _ _ (T8.setTop (mkF m 50 #[.val (.ref li), .val (.ref nd), .val (.long ky), .second, .val (.ref lv), .val (.int pi), .unset] [(.ref lr), (.ref li)]))
    refine Go.step (fun t k => XS.iload X8.here hx rfl (hb hby d8_50) rfl (XS.iconst X8.here hx rfl (hb hby d8_52) (XS.iadd X8.here hx rfl (hb hby d8_53) rfl k))) ?_
    show Go _ _ _ _ _ _ _ (T8.setTop (mkF m 54 #[.val (.ref li), .val (.ref nd), .val (.long ky), .second, .val (.ref lv), .val (.int pi), .unset] [(.int (pi + (1 : Int32))), (.ref lr), (.ref li)]))
    refine Go.step (own_ldR X8 hx hZ e8 R_lr (j := (pi + (1 : Int32))) (pn + 1) (own_p1 hp (by omega)) (by omega) (f := (mkF m 54 #[.val (.ref li), .val (.ref nd), .val (.long ky), .second, .val (.ref lv), .val (.int pi), .unset] [(.int (pi + (1 : Int32))), (.ref lr), (.ref li)])) rfl rfl (hb hby d8_54)) ?_
    show Go _ _ _ _ _ _ _ (T8.setTop (mkF m 55 #[.val (.ref li), .val (.ref nd), .val (.long ky), .second, .val (.ref lv), .val (.int pi), .unset] [((up (own_sh gl pn (pn + 1) (n - pn)) pn (.ref lv)) (pn + 1)), (.ref li)]))
    obtain ⟨T10, h10, X10, e10, W10, st10⟩ := putF X8 hx hZ hown (host := "") (Or.inl (hw _ (List.mem_of_getElem? (i := 82) rfl))) Via.refl e8 F_ahead_li E_li (Or.inl (hw _ (List.mem_of_getElem? (i := 83) rfl))) (hw _ (List.mem_of_getElem? (i := 1) rfl)) (ty := (.object "com/example/matchstone/matchstone/PriceLevel")) (by decide) (own_nrw (RAr.ref R_lr (by omega))) (own_frw (RAr.ref R_lr (by omega))) (g := (mkF m 55 #[.val (.ref li), .val (.ref nd), .val (.long ky), .second, .val (.ref lv), .val (.int pi), .unset] [((up (own_sh gl pn (pn + 1) (n - pn)) pn (.ref lv)) (pn + 1)), (.ref li)])) rfl rfl (hb hby d8_55)
    replace F_root_li := F_root_li.other W10 (Or.inr (slot_ne (Or.inl (hw _ (List.mem_of_getElem? (i := 29) rfl))) (Or.inl (hw _ (List.mem_of_getElem? (i := 83) rfl))) (by decide) (t := (.object "com/example/matchstone/matchstone/LevelIndex$Node")) (t' := (.object "com/example/matchstone/matchstone/PriceLevel")) (by decide) (by decide)))
    replace F_last_li := F_last_li.other W10 (Or.inr (slot_ne (Or.inl (hw _ (List.mem_of_getElem? (i := 31) rfl))) (Or.inl (hw _ (List.mem_of_getElem? (i := 83) rfl))) (by decide) (t := (.object "com/example/matchstone/matchstone/LevelIndex$Node")) (t' := (.object "com/example/matchstone/matchstone/PriceLevel")) (by decide) (by decide)))
    replace E_li := E_li.wr W10
    replace E_nd := E_nd.wr W10
    replace E_lv := E_lv.wr W10
    replace F_keys_nd := F_keys_nd.other W10 (Or.inl (Ne.symm ne_li_nd))
    replace F_levels_nd := F_levels_nd.other W10 (Or.inl (Ne.symm ne_li_nd))
    replace F_children_nd := F_children_nd.other W10 (Or.inl (Ne.symm ne_li_nd))
    replace F_size_nd := F_size_nd.other W10 (Or.inl (Ne.symm ne_li_nd))
    replace F_next_nd := F_next_nd.other W10 (Or.inl (Ne.symm ne_li_nd))
    replace F_previous_nd := F_previous_nd.other W10 (Or.inl (Ne.symm ne_li_nd))
    replace A_kr := A_kr.other W10 (Ne.symm ne_li_kr)
    replace R_lr := R_lr.other W10 (Ne.symm ne_li_lr)
    have Z10 := Nat.le_trans Z5 (Keep.of_wr W10).1
    have N10 := Fr.snoc X10 N5 g_li
    have K10 := K5'.wr W10 (Or.inl (List.mem_of_getElem? (i := 0) rfl))
    replace F_ahead_li := F_ahead_li.same W10
    refine Go.step st10 ?_
    show Go _ _ _ _ _ _ _ (T10.setTop (mkF m 58 #[.val (.ref li), .val (.ref nd), .val (.long ky), .second, .val (.ref lv), .val (.int pi), .unset] []))
    refine Go.step (fun t k => XS.goto X10.here hx rfl (pc0 := 58) (pc' := 85) rfl (hb hby d8_58) (by decide) (by decide) (XS.aloadN X10.here hx rfl (hb hby d8_85) rfl rfl k)) ?_
    show Go _ _ _ _ _ _ _ (T10.setTop (mkF m 86 #[.val (.ref li), .val (.ref nd), .val (.long ky), .second, .val (.ref lv), .val (.int pi), .unset] [(.ref nd)]))
    obtain ⟨T11, X11, e11, st11⟩ := own_getR X10 hx hZ hown (hw _ (List.mem_of_getElem? (i := 48) rfl)) e10 F_size_nd (f := (mkF m 86 #[.val (.ref li), .val (.ref nd), .val (.long ky), .second, .val (.ref lv), .val (.int pi), .unset] [(.ref nd)])) rfl rfl (hb hby d8_86)
    refine Go.step st11 ?_
    show Go _ _ _ _ _ _ _ (T11.setTop (mkF m 89 #[.val (.ref li), .val (.ref nd), .val (.long ky), .second, .val (.ref lv), .val (.int pi), .unset] [(.int (sz + (1 : Int32)))]))
    refine Go.step (fun t k => XS.bipush X11.here hx rfl (hb hby d8_89) k) ?_
    show Go _ _ _ _ _ _ _ (T11.setTop (mkF m 91 #[.val (.ref li), .val (.ref nd), .val (.long ky), .second, .val (.ref lv), .val (.int pi), .unset] [(.int (64 : Int32)), (.int (sz + (1 : Int32)))]))
    refine Go.step (fun t k => XS.icmpYes X11.here hx rfl (pc0 := 91) (pc' := 102) rfl (hb hby d8_91) rfl (flt (own_z64 hz hn : ¬ (64 : Int32) < (sz + (1 : Int32)))).2.2.2 (by decide) (by decide) k) ?_
    show Go _ _ _ _ _ _ _ (T11.setTop (mkF m 102 #[.val (.ref li), .val (.ref nd), .val (.long ky), .second, .val (.ref lv), .val (.int pi), .unset] []))
    refine Go.step (fun t k => XS.aconstNull X11.here hx rfl (hb hby d8_102) k) ?_
    show Go _ _ _ _ _ _ _ (T11.setTop (mkF m 103 #[.val (.ref li), .val (.ref nd), .val (.long ky), .second, .val (.ref lv), .val (.int pi), .unset] [.null]))
    refine Go.retA X11 Bd.notSynchronized hx Bd.returns rfl rfl rfl (hb hby d8_103) (by decide) (by decide) ?_
    rw [e11]
    exact ⟨pn, ((up (own_sh gl pn (pn + 1) (n - pn)) pn (.ref lv)) (pn + 1)), rfl, N10, K10, hpn, hlo, hhi, (RAr.ref R_lr (by omega)), F_root_li, F_last_li, F_ahead_li, E_li, F_keys_nd, F_levels_nd, F_children_nd, F_size_nd, F_next_nd, F_previous_nd, E_nd, A_kr, R_lr⟩
  · refine Go.step (fun t k => XS.icmpYes X6.here hx rfl (pc0 := 42) (pc' := 61) rfl (hb hby d8_42) rfl (flt hc42_7).2.1 (by decide) (by decide) k) ?_
    show Go _ _ _ _ _ _ _ (T6.setTop (mkF m 61 #[.val (.ref li), .val (.ref nd), .val (.long ky), .second, .val (.ref lv), .val (.int pi), .unset] []))
    refine Go.step (fun t k => XS.aloadN X6.here hx rfl (hb hby d8_61) rfl rfl (XS.aloadN X6.here hx rfl (hb hby d8_62) rfl rfl k)) ?_
    show Go _ _ _ _ _ _ _ (T6.setTop (mkF m 63 #[.val (.ref li), .val (.ref nd), .val (.long ky), .second, .val (.ref lv), .val (.int pi), .unset] [(.ref nd), (.ref li)]))
    obtain ⟨T12, X12, e12, st12⟩ := own_getR X6 hx hZ hown (hw _ (List.mem_of_getElem? (i := 125) rfl)) e6 F_next_nd (f := (mkF m 63 #[.val (.ref li), .val (.ref nd), .val (.long ky), .second, .val (.ref lv), .val (.int pi), .unset] [(.ref nd), (.ref li)])) rfl rfl (hb hby d8_63)
    refine Go.step st12 ?_
    show Go _ _ _ _ _ _ _ (T12.setTop (mkF m 66 #[.val (.ref li), .val (.ref nd), .val (.long ky), .second, .val (.ref lv), .val (.int pi), .unset] [.null, (.ref li)]))
    refine Go.step (fun t k => XS.ifnonnullNo X12.here hx rfl (hb hby d8_66) rfl k) ?_
    show Go _ _ _ _ _ _ _ (T12.setTop (mkF m 69 #[.val (.ref li), .val (.ref nd), .val (.long ky), .second, .val (.ref lv), .val (.int pi), .unset] [(.ref li)]))
    refine Go.step (fun t k => XS.aconstNull X12.here hx rfl (hb hby d8_69) k) ?_
    show Go _ _ _ _ _ _ _ (T12.setTop (mkF m 70 #[.val (.ref li), .val (.ref nd), .val (.long ky), .second, .val (.ref lv), .val (.int pi), .unset] [.null, (.ref li)]))
    refine Go.step (fun t k => XS.goto X12.here hx rfl (pc0 := 70) (pc' := 82) rfl (hb hby d8_70) (by decide) (by decide) k) ?_
    show Go _ _ _ _ _ _ _ (T12.setTop (mkF m 82 #[.val (.ref li), .val (.ref nd), .val (.long ky), .second, .val (.ref lv), .val (.int pi), .unset] [.null, (.ref li)]))
    obtain ⟨T13, h13, X13, e13, W13, st13⟩ := putF X12 hx hZ hown (host := "") (Or.inl (hw _ (List.mem_of_getElem? (i := 82) rfl))) Via.refl e12 F_ahead_li E_li (Or.inl (hw _ (List.mem_of_getElem? (i := 83) rfl))) (hw _ (List.mem_of_getElem? (i := 1) rfl)) (ty := (.object "com/example/matchstone/matchstone/PriceLevel")) (by decide) rfl rfl (g := (mkF m 82 #[.val (.ref li), .val (.ref nd), .val (.long ky), .second, .val (.ref lv), .val (.int pi), .unset] [.null, (.ref li)])) rfl rfl (hb hby d8_82)
    replace F_root_li := F_root_li.other W13 (Or.inr (slot_ne (Or.inl (hw _ (List.mem_of_getElem? (i := 29) rfl))) (Or.inl (hw _ (List.mem_of_getElem? (i := 83) rfl))) (by decide) (t := (.object "com/example/matchstone/matchstone/LevelIndex$Node")) (t' := (.object "com/example/matchstone/matchstone/PriceLevel")) (by decide) (by decide)))
    replace F_last_li := F_last_li.other W13 (Or.inr (slot_ne (Or.inl (hw _ (List.mem_of_getElem? (i := 31) rfl))) (Or.inl (hw _ (List.mem_of_getElem? (i := 83) rfl))) (by decide) (t := (.object "com/example/matchstone/matchstone/LevelIndex$Node")) (t' := (.object "com/example/matchstone/matchstone/PriceLevel")) (by decide) (by decide)))
    replace E_li := E_li.wr W13
    replace E_nd := E_nd.wr W13
    replace E_lv := E_lv.wr W13
    replace F_keys_nd := F_keys_nd.other W13 (Or.inl (Ne.symm ne_li_nd))
    replace F_levels_nd := F_levels_nd.other W13 (Or.inl (Ne.symm ne_li_nd))
    replace F_children_nd := F_children_nd.other W13 (Or.inl (Ne.symm ne_li_nd))
    replace F_size_nd := F_size_nd.other W13 (Or.inl (Ne.symm ne_li_nd))
    replace F_next_nd := F_next_nd.other W13 (Or.inl (Ne.symm ne_li_nd))
    replace F_previous_nd := F_previous_nd.other W13 (Or.inl (Ne.symm ne_li_nd))
    replace A_kr := A_kr.other W13 (Ne.symm ne_li_kr)
    replace R_lr := R_lr.other W13 (Ne.symm ne_li_lr)
    have Z13 := Nat.le_trans Z5 (Keep.of_wr W13).1
    have N13 := Fr.snoc X13 N5 g_li
    have K13 := K5'.wr W13 (Or.inl (List.mem_of_getElem? (i := 0) rfl))
    replace F_ahead_li := F_ahead_li.same W13
    refine Go.step st13 ?_
    show Go _ _ _ _ _ _ _ (T13.setTop (mkF m 85 #[.val (.ref li), .val (.ref nd), .val (.long ky), .second, .val (.ref lv), .val (.int pi), .unset] []))
    refine Go.step (fun t k => XS.aloadN X13.here hx rfl (hb hby d8_85) rfl rfl k) ?_
    show Go _ _ _ _ _ _ _ (T13.setTop (mkF m 86 #[.val (.ref li), .val (.ref nd), .val (.long ky), .second, .val (.ref lv), .val (.int pi), .unset] [(.ref nd)]))
    obtain ⟨T14, X14, e14, st14⟩ := own_getR X13 hx hZ hown (hw _ (List.mem_of_getElem? (i := 48) rfl)) e13 F_size_nd (f := (mkF m 86 #[.val (.ref li), .val (.ref nd), .val (.long ky), .second, .val (.ref lv), .val (.int pi), .unset] [(.ref nd)])) rfl rfl (hb hby d8_86)
    refine Go.step st14 ?_
    show Go _ _ _ _ _ _ _ (T14.setTop (mkF m 89 #[.val (.ref li), .val (.ref nd), .val (.long ky), .second, .val (.ref lv), .val (.int pi), .unset] [(.int (sz + (1 : Int32)))]))
    refine Go.step (fun t k => XS.bipush X14.here hx rfl (hb hby d8_89) k) ?_
    show Go _ _ _ _ _ _ _ (T14.setTop (mkF m 91 #[.val (.ref li), .val (.ref nd), .val (.long ky), .second, .val (.ref lv), .val (.int pi), .unset] [(.int (64 : Int32)), (.int (sz + (1 : Int32)))]))
    refine Go.step (fun t k => XS.icmpYes X14.here hx rfl (pc0 := 91) (pc' := 102) rfl (hb hby d8_91) rfl (flt (own_z64 hz hn : ¬ (64 : Int32) < (sz + (1 : Int32)))).2.2.2 (by decide) (by decide) k) ?_
    show Go _ _ _ _ _ _ _ (T14.setTop (mkF m 102 #[.val (.ref li), .val (.ref nd), .val (.long ky), .second, .val (.ref lv), .val (.int pi), .unset] []))
    refine Go.step (fun t k => XS.aconstNull X14.here hx rfl (hb hby d8_102) k) ?_
    show Go _ _ _ _ _ _ _ (T14.setTop (mkF m 103 #[.val (.ref li), .val (.ref nd), .val (.long ky), .second, .val (.ref lv), .val (.int pi), .unset] [.null]))
    refine Go.retA X14 Bd.notSynchronized hx Bd.returns rfl rfl rfl (hb hby d8_103) (by decide) (by decide) ?_
    rw [e14]
    exact ⟨pn, .null, rfl, N13, K13, hpn, hlo, hhi, rfl, F_root_li, F_last_li, F_ahead_li, E_li, F_keys_nd, F_levels_nd, F_children_nd, F_size_nd, F_next_nd, F_previous_nd, E_nd, A_kr, R_lr⟩
theorem d6_0 : decode prog_21_method_8_code 0 = .ok (.aload_n 0, 1) := by decide +kernel
theorem d6_1 : decode prog_21_method_8_code 1 = .ok (.getfield 19, 3) := by decide +kernel
theorem d6_4 : decode prog_21_method_8_code 4 = .ok (.getfield 30, 3) := by decide +kernel
theorem d6_7 : decode prog_21_method_8_code 7 = .ok (.bipush 64, 2) := by decide +kernel
theorem d6_9 : decode prog_21_method_8_code 9 = .ok (.if_icmp .ge 53, 3) := by decide +kernel
theorem d6_12 : decode prog_21_method_8_code 12 = .ok (.aload_n 0, 1) := by decide +kernel
theorem d6_13 : decode prog_21_method_8_code 13 = .ok (.getfield 19, 3) := by decide +kernel
theorem d6_16 : decode prog_21_method_8_code 16 = .ok (.getfield 30, 3) := by decide +kernel
theorem d6_19 : decode prog_21_method_8_code 19 = .ok (.ifCond .eq 25, 3) := by decide +kernel
theorem d6_44 : decode prog_21_method_8_code 44 = .ok (.aload_n 0, 1) := by decide +kernel
theorem d6_45 : decode prog_21_method_8_code 45 = .ok (.getfield 19, 3) := by decide +kernel
theorem d6_48 : decode prog_21_method_8_code 48 = .ok (.aload_n 0, 1) := by decide +kernel
theorem d6_49 : decode prog_21_method_8_code 49 = .ok (.getfield 19, 3) := by decide +kernel
theorem d6_52 : decode prog_21_method_8_code 52 = .ok (.getfield 30, 3) := by decide +kernel
theorem d6_55 : decode prog_21_method_8_code 55 = .ok (.lload_n 1, 1) := by decide +kernel
theorem d6_56 : decode prog_21_method_8_code 56 = .ok (.aload_n 3, 1) := by decide +kernel
theorem d6_57 : decode prog_21_method_8_code 57 = .ok (.invokevirtual 67, 3) := by decide +kernel
theorem d6_60 : decode prog_21_method_8_code 60 = .ok (.aconst_null, 1) := by decide +kernel
theorem d6_61 : decode prog_21_method_8_code 61 = .ok (.areturn, 1) := by decide +kernel
theorem pn_6_0 : plainName "com/example/matchstone/matchstone/LevelIndex" = true := by first | (simp [plainName, overriddenIn]; done) | decide +kernel
theorem pd_6_0_0 : parseMethodDescriptor "(IJLcom/example/matchstone/matchstone/PriceLevel;)V" = some ⟨[.int, .long, (.object "com/example/matchstone/matchstone/PriceLevel")], none⟩ := by decide +kernel
theorem ef_6_0 (m : MethodId) (x0 : Addr) (x1 : Int64) (x2 : Addr) : entryFrame m #[(.ref x0), (.long x1), (.ref x2)] 6 = mkF m 0 #[.val (.ref x0), .val (.long x1), .second, .val (.ref x2), .unset, .unset] [] := by first | (simp [entryFrame, mkF, argsToLocals, Value.category]; done) | rfl
def Q6_0 (Z : State) (li : Addr) (ky : Int64) (lv : Addr) (nd : Addr) (kr : Addr) (lr : Addr) (gk : Nat → Int64) (gl : Nat → Value) (aw : Value) (h0 : Heap) (n0 : Nat) (v : Option Value) (h : Heap) (L : List Loc) : Prop := ∃ vv : Value, ∃ pn : Nat, ∃ w : Value, ∃ gk2 : Nat → Int64, ∃ gl2 : Nat → Value, v = some vv ∧ Fr n0 L ∧ Keep h0 h [li, nd, kr, lr] ∧ (pn ≤ 0) ∧ (∀ i, i < pn → gk i < ky) ∧ (∀ i, pn ≤ i → i < 0 → ky < gk i) ∧ (vv.isRef = true) ∧ (gk2 = (up (own_sh gk pn (pn + 1) (0 - pn)) pn ky)) ∧ (gl2 = (up (own_sh gl pn (pn + 1) (0 - pn)) pn (.ref lv))) ∧ Fld Z h li "com/example/matchstone/matchstone/LevelIndex" "root" "Lcom/example/matchstone/matchstone/LevelIndex$Node;" (.ref nd) ∧ Fld Z h li "com/example/matchstone/matchstone/LevelIndex" "last" "Lcom/example/matchstone/matchstone/LevelIndex$Node;" (.ref nd) ∧ Fld Z h li "com/example/matchstone/matchstone/LevelIndex" "ahead" "Lcom/example/matchstone/matchstone/PriceLevel;" w ∧ Exa Z h li "com/example/matchstone/matchstone/LevelIndex" ∧ Fld Z h nd "com/example/matchstone/matchstone/LevelIndex$Node" "keys" "[J" (.ref kr) ∧ Fld Z h nd "com/example/matchstone/matchstone/LevelIndex$Node" "levels" "[Lcom/example/matchstone/matchstone/PriceLevel;" (.ref lr) ∧ Fld Z h nd "com/example/matchstone/matchstone/LevelIndex$Node" "children" "[Lcom/example/matchstone/matchstone/LevelIndex$Node;" .null ∧ Fld Z h nd "com/example/matchstone/matchstone/LevelIndex$Node" "size" "I" (.int (1 : Int32)) ∧ Fld Z h nd "com/example/matchstone/matchstone/LevelIndex$Node" "next" "Lcom/example/matchstone/matchstone/LevelIndex$Node;" .null ∧ Fld Z h nd "com/example/matchstone/matchstone/LevelIndex$Node" "previous" "Lcom/example/matchstone/matchstone/LevelIndex$Node;" .null ∧ Exa Z h nd "com/example/matchstone/matchstone/LevelIndex$Node" ∧ AryJ Z h kr 65 gk2 ∧ RAr Z h lr "com/example/matchstone/matchstone/PriceLevel" 65 gl2
set_option maxRecDepth 65536 in
set_option maxHeartbeats 40000000 in
theorem rm6_0 (l : Launch) (Z : State) (a0 : Array Value) (hw : ∀ d ∈ tables_1, d.before a0 Z = true) (ws : List Jvm.Cond) (li : Addr) (ky : Int64) (lv : Addr) (nd : Addr) (kr : Addr) (lr : Addr) (gk : Nat → Int64) (gl : Nat → Value) (aw : Value) (h0 : Heap) (n0 : Nat) (Z0 : n0 ≤ h0.size) (F_root_li : Fld Z h0 li "com/example/matchstone/matchstone/LevelIndex" "root" "Lcom/example/matchstone/matchstone/LevelIndex$Node;" (.ref nd)) (F_last_li : Fld Z h0 li "com/example/matchstone/matchstone/LevelIndex" "last" "Lcom/example/matchstone/matchstone/LevelIndex$Node;" (.ref nd)) (F_ahead_li : Fld Z h0 li "com/example/matchstone/matchstone/LevelIndex" "ahead" "Lcom/example/matchstone/matchstone/PriceLevel;" aw) (E_li : Exa Z h0 li "com/example/matchstone/matchstone/LevelIndex") (g_li : n0 ≤ li) (F_keys_nd : Fld Z h0 nd "com/example/matchstone/matchstone/LevelIndex$Node" "keys" "[J" (.ref kr)) (F_levels_nd : Fld Z h0 nd "com/example/matchstone/matchstone/LevelIndex$Node" "levels" "[Lcom/example/matchstone/matchstone/PriceLevel;" (.ref lr)) (F_children_nd : Fld Z h0 nd "com/example/matchstone/matchstone/LevelIndex$Node" "children" "[Lcom/example/matchstone/matchstone/LevelIndex$Node;" .null) (F_size_nd : Fld Z h0 nd "com/example/matchstone/matchstone/LevelIndex$Node" "size" "I" (.int (0 : Int32))) (F_next_nd : Fld Z h0 nd "com/example/matchstone/matchstone/LevelIndex$Node" "next" "Lcom/example/matchstone/matchstone/LevelIndex$Node;" .null) (F_previous_nd : Fld Z h0 nd "com/example/matchstone/matchstone/LevelIndex$Node" "previous" "Lcom/example/matchstone/matchstone/LevelIndex$Node;" .null) (E_nd : Exa Z h0 nd "com/example/matchstone/matchstone/LevelIndex$Node") (A_kr : AryJ Z h0 kr 65 gk) (R_lr : RAr Z h0 lr "com/example/matchstone/matchstone/PriceLevel" 65 gl) (g_nd : n0 ≤ nd) (g_kr : n0 ≤ kr) (g_lr : n0 ≤ lr) (ne_kr_lr : kr ≠ lr) (E_lv : Exa Z h0 lv "com/example/matchstone/matchstone/PriceLevel") (hs : (own_srt 0 gk)) (hnew : (∀ i, i < 0 → gk i ≠ ky)) :
    MetFree l (⟨"com/example/matchstone/matchstone/LevelIndex", "put", "(JLcom/example/matchstone/matchstone/PriceLevel;)Lcom/example/matchstone/matchstone/PriceLevel;"⟩ : MethodName) (head1 (Jvm.Cond.code (⟨"com/example/matchstone/matchstone/LevelIndex", "put", "(JLcom/example/matchstone/matchstone/PriceLevel;)Lcom/example/matchstone/matchstone/PriceLevel;"⟩ : MethodName) prog_21_method_8_code 6 (some (.object "com/example/matchstone/matchstone/PriceLevel")) :: ws) ({ frames := 2, cells := 0, slots := 0, locals := 56 } : Room)) (fun a U => a = #[(.ref li), (.long ky), (.ref lv)] ∧ Z.Warmed39 U.vm ∧ U.heap = h0) (fun _ _ _ _ _ => True) (fun _ U o U' => ∃ v L, o = .returned v ∧ Q6_0 Z li ky lv nd kr lr gk gl aw h0 n0 v U'.heap L ∧ FrameEnd U o U' L ({ frames := 2, cells := 0, slots := 0, locals := 56 } : Room).cells ({ frames := 2, cells := 0, slots := 0, locals := 56 } : Room).slots) := by
  refine MetFree.of_bodySF (plainFor_of_name pn_6_0) hisR ?_
  intro p e s m args below meth c s₁ Bd hml0 hP hK
  obtain ⟨rfl, hZ, hh⟩ := hP
  have hx := Bd.exec
  have hby := Bd.bytes
  have hml : c.maxLocals = 6 := hml0
  have hown : s.vm.findClass "com/example/matchstone/matchstone/LevelIndex" = some m.cls := findClass_of_methodNamed Bd.named
  have hnm := (name_of_methodNamed Bd.named Bd.method).1
  have X0 : Stand p l e ({ frames := 2, cells := 0, slots := 0, locals := 56 } : Room) s m #[(.ref li), (.long ky), (.ref lv)] below meth c s₁ [] 0 0 := Stand.of_body Bd
  have e0 : s₁.heap = h0 := by rw [← hh, Bd.state]; rfl
  have N0 := Fr.nil n0
  have K0 := Keep.refl h0 ([li, nd, kr, lr] : List Addr)
  show Go p e below s (Q6_0 Z li ky lv nd kr lr gk gl aw h0 n0) ({ frames := 2, cells := 0, slots := 0, locals := 56 } : Room).cells ({ frames := 2, cells := 0, slots := 0, locals := 56 } : Room).slots (s₁.setTop (entryFrame m #[(.ref li), (.long ky), (.ref lv)] 6))
  rw [ef_6_0]
  show Go _ _ _ _ _ _ _ (s₁.setTop (mkF m 0 #[.val (.ref li), .val (.long ky), .second, .val (.ref lv), .unset, .unset] []))
  refine Go.step (fun t k => XS.aloadN X0.here hx rfl (hb hby d6_0) rfl rfl k) ?_
  show Go _ _ _ _ _ _ _ (s₁.setTop (mkF m 1 #[.val (.ref li), .val (.long ky), .second, .val (.ref lv), .unset, .unset] [(.ref li)]))
  obtain ⟨T1, X1, e1, st1⟩ := getF X0 hx hZ hown (host := "") (Or.inl (hw _ (List.mem_of_getElem? (i := 30) rfl))) Via.refl e0 F_last_li (g := (mkF m 1 #[.val (.ref li), .val (.long ky), .second, .val (.ref lv), .unset, .unset] [(.ref li)])) rfl rfl (hb hby d6_1)
  refine Go.step st1 ?_
  show Go _ _ _ _ _ _ _ (T1.setTop (mkF m 4 #[.val (.ref li), .val (.long ky), .second, .val (.ref lv), .unset, .unset] [(.ref nd)]))
  obtain ⟨T2, X2, e2, st2⟩ := own_getR X1 hx hZ hown (hw _ (List.mem_of_getElem? (i := 48) rfl)) e1 F_size_nd (f := (mkF m 4 #[.val (.ref li), .val (.long ky), .second, .val (.ref lv), .unset, .unset] [(.ref nd)])) rfl rfl (hb hby d6_4)
  refine Go.step st2 ?_
  show Go _ _ _ _ _ _ _ (T2.setTop (mkF m 7 #[.val (.ref li), .val (.long ky), .second, .val (.ref lv), .unset, .unset] [(.int (0 : Int32))]))
  refine Go.step (fun t k => XS.bipush X2.here hx rfl (hb hby d6_7) k) ?_
  show Go _ _ _ _ _ _ _ (T2.setTop (mkF m 9 #[.val (.ref li), .val (.long ky), .second, .val (.ref lv), .unset, .unset] [(.int (64 : Int32)), (.int (0 : Int32))]))
  refine Go.step (fun t k => XS.icmpNo X2.here hx rfl (hb hby d6_9) rfl (tlt (by decide : (0 : Int32) < (64 : Int32))).2.1 k) ?_
  show Go _ _ _ _ _ _ _ (T2.setTop (mkF m 12 #[.val (.ref li), .val (.long ky), .second, .val (.ref lv), .unset, .unset] []))
  refine Go.step (fun t k => XS.aloadN X2.here hx rfl (hb hby d6_12) rfl rfl k) ?_
  show Go _ _ _ _ _ _ _ (T2.setTop (mkF m 13 #[.val (.ref li), .val (.long ky), .second, .val (.ref lv), .unset, .unset] [(.ref li)]))
  obtain ⟨T3, X3, e3, st3⟩ := getF X2 hx hZ hown (host := "") (Or.inl (hw _ (List.mem_of_getElem? (i := 30) rfl))) Via.refl e2 F_last_li (g := (mkF m 13 #[.val (.ref li), .val (.long ky), .second, .val (.ref lv), .unset, .unset] [(.ref li)])) rfl rfl (hb hby d6_13)
  refine Go.step st3 ?_
  show Go _ _ _ _ _ _ _ (T3.setTop (mkF m 16 #[.val (.ref li), .val (.long ky), .second, .val (.ref lv), .unset, .unset] [(.ref nd)]))
  obtain ⟨T4, X4, e4, st4⟩ := own_getR X3 hx hZ hown (hw _ (List.mem_of_getElem? (i := 48) rfl)) e3 F_size_nd (f := (mkF m 16 #[.val (.ref li), .val (.long ky), .second, .val (.ref lv), .unset, .unset] [(.ref nd)])) rfl rfl (hb hby d6_16)
  refine Go.step st4 ?_
  show Go _ _ _ _ _ _ _ (T4.setTop (mkF m 19 #[.val (.ref li), .val (.long ky), .second, .val (.ref lv), .unset, .unset] [(.int (0 : Int32))]))
  refine Go.step (fun t k => XS.ifYes X4.here hx rfl (pc0 := 19) (pc' := 44) rfl (hb hby d6_19) rfl ((if0 _ _).trans (teq (by decide : (0 : Int32) = (0 : Int32))).1) (by decide) (by decide) k) ?_
  show Go _ _ _ _ _ _ _ (T4.setTop (mkF m 44 #[.val (.ref li), .val (.long ky), .second, .val (.ref lv), .unset, .unset] []))
  refine Go.step (fun t k => XS.aloadN X4.here hx rfl (hb hby d6_44) rfl rfl k) ?_
  show Go _ _ _ _ _ _ _ (T4.setTop (mkF m 45 #[.val (.ref li), .val (.long ky), .second, .val (.ref lv), .unset, .unset] [(.ref li)]))
  obtain ⟨T5, X5, e5, st5⟩ := getF X4 hx hZ hown (host := "") (Or.inl (hw _ (List.mem_of_getElem? (i := 30) rfl))) Via.refl e4 F_last_li (g := (mkF m 45 #[.val (.ref li), .val (.long ky), .second, .val (.ref lv), .unset, .unset] [(.ref li)])) rfl rfl (hb hby d6_45)
  refine Go.step st5 ?_
  show Go _ _ _ _ _ _ _ (T5.setTop (mkF m 48 #[.val (.ref li), .val (.long ky), .second, .val (.ref lv), .unset, .unset] [(.ref nd)]))
  refine Go.step (fun t k => XS.aloadN X5.here hx rfl (hb hby d6_48) rfl rfl k) ?_
  show Go _ _ _ _ _ _ _ (T5.setTop (mkF m 49 #[.val (.ref li), .val (.long ky), .second, .val (.ref lv), .unset, .unset] [(.ref li), (.ref nd)]))
  obtain ⟨T6, X6, e6, st6⟩ := getF X5 hx hZ hown (host := "") (Or.inl (hw _ (List.mem_of_getElem? (i := 30) rfl))) Via.refl e5 F_last_li (g := (mkF m 49 #[.val (.ref li), .val (.long ky), .second, .val (.ref lv), .unset, .unset] [(.ref li), (.ref nd)])) rfl rfl (hb hby d6_49)
  refine Go.step st6 ?_
  show Go _ _ _ _ _ _ _ (T6.setTop (mkF m 52 #[.val (.ref li), .val (.long ky), .second, .val (.ref lv), .unset, .unset] [(.ref nd), (.ref nd)]))
  obtain ⟨T7, X7, e7, st7⟩ := own_getR X6 hx hZ hown (hw _ (List.mem_of_getElem? (i := 48) rfl)) e6 F_size_nd (f := (mkF m 52 #[.val (.ref li), .val (.long ky), .second, .val (.ref lv), .unset, .unset] [(.ref nd), (.ref nd)])) rfl rfl (hb hby d6_52)
  refine Go.step st7 ?_
  show Go _ _ _ _ _ _ _ (T7.setTop (mkF m 55 #[.val (.ref li), .val (.long ky), .second, .val (.ref lv), .unset, .unset] [(.int (0 : Int32)), (.ref nd)]))
  refine Go.step (fun t k => XS.lloadN X7.here hx rfl (hb hby d6_55) rfl (XS.aloadN X7.here hx rfl (hb hby d6_56) rfl rfl k)) ?_
  show Go _ _ _ _ _ _ _ (T7.setTop (mkF m 57 #[.val (.ref li), .val (.long ky), .second, .val (.ref lv), .unset, .unset] [(.ref lv), (.long ky), (.int (0 : Int32)), (.ref nd)]))
  obtain ⟨cq8, kq8, q8a, q8b, q8c⟩ := isOf hZ e7 E_nd
  obtain ⟨_, _, ⟨T8, L8, k8, n8⟩, -, X8, ⟨Lc8, hQ8, l8, y8, z8⟩, st8⟩ := X7.virtualBack hx (y := (⟨"com/example/matchstone/matchstone/LevelIndex$Node", "insertEntry", "(IJLcom/example/matchstone/matchstone/PriceLevel;)V"⟩ : MethodName)) (z := (⟨"com/example/matchstone/matchstone/LevelIndex$Node", "insertEntry", "(IJLcom/example/matchstone/matchstone/PriceLevel;)V"⟩ : MethodName)) hown (mvT hZ (hw _ (List.mem_of_getElem? (i := 50) rfl))) (mvT hZ (hw _ (List.mem_of_getElem? (i := 51) rfl))) (notFace_of_selects (args := #[]) (mvT hZ (hw _ (List.mem_of_getElem? (i := 53) rfl)))) (mvT hZ (hw _ (List.mem_of_getElem? (i := 53) rfl))) (mvT hZ (hw _ (List.mem_of_getElem? (i := 52) rfl))) (by decide) (backOf (W := 0) (rm7 l Z a0 hw [] nd (0 : Int32) ky lv kr lr gk gl (0 : Int32) 0 0 h0 n0 Z0 F_keys_nd F_levels_nd F_children_nd F_size_nd F_next_nd F_previous_nd E_nd A_kr R_lr g_nd g_kr g_lr ne_kr_lr E_lv rfl (by decide) rfl (Nat.le_refl _)) hZ (hw _ (List.mem_of_getElem? (i := 54) rfl)) (hw _ (List.mem_of_getElem? (i := 11) rfl)) (by decide) (by decide)) q8a q8c (g := (mkF m 57 #[.val (.ref li), .val (.long ky), .second, .val (.ref lv), .unset, .unset] [(.ref lv), (.long ky), (.int (0 : Int32)), (.ref nd)])) rfl (by rw [hml]; rfl) (Steps.refl _) (argsL := [(.int (0 : Int32)), (.long ky), (.ref lv)]) (rest := []) (lenOf pd_6_0_0 rfl) rfl (by show 2 * 0 + _ ≤ _; exact Nat.le_of_eq rfl) (hb hby d6_57) (fun _ _ => ⟨rfl, e7, (by decide : 0 + 0 ≤ _), (by decide : 0 + 0 ≤ _)⟩)
  dsimp only [Pt.U, Pt.locs, Pt.cells, Pt.slots] at X8 l8 y8 z8 st8 hQ8
  subst l8 y8 z8
  obtain ⟨rfl, N8q, K8q, o8_F_keys_nd, o8_F_levels_nd, o8_F_children_nd, o8_F_size_nd, o8_F_next_nd, o8_F_previous_nd, o8_E_nd, o8_A_kr, o8_R_lr⟩ := hQ8
  have N8 := Fr.app N0 N8q
  have ne_li_nd : li ≠ nd := (ne_exa E_li E_nd (by decide))
  have ne_li_kr : li ≠ kr := (own_neA E_li (hw _ (List.mem_of_getElem? (i := 1) rfl)) A_kr)
  have ne_li_lr : li ≠ lr := (own_neR E_li (hw _ (List.mem_of_getElem? (i := 1) rfl)) R_lr)
  replace F_root_li := F_root_li.keep K8q (ninS ne_li_nd (ninS ne_li_kr (ninS ne_li_lr nin0)))
  replace F_last_li := F_last_li.keep K8q (ninS ne_li_nd (ninS ne_li_kr (ninS ne_li_lr nin0)))
  replace F_ahead_li := F_ahead_li.keep K8q (ninS ne_li_nd (ninS ne_li_kr (ninS ne_li_lr nin0)))
  replace E_li := E_li.keep K8q
  replace E_nd := E_nd.keep K8q
  replace E_lv := E_lv.keep K8q
  have Z8 := Nat.le_trans Z0 K8q.1
  have K8' := K0.trans K8q (allS (Or.inl (List.mem_of_getElem? (i := 1) rfl)) (allS (Or.inl (List.mem_of_getElem? (i := 2) rfl)) (allS (Or.inl (List.mem_of_getElem? (i := 3) rfl)) all0)))
  have F_keys_nd := o8_F_keys_nd
  have F_levels_nd := o8_F_levels_nd
  have F_children_nd := o8_F_children_nd
  have F_size_nd := o8_F_size_nd
  have F_next_nd := o8_F_next_nd
  have F_previous_nd := o8_F_previous_nd
  have E_nd := o8_E_nd
  have A_kr := o8_A_kr
  have R_lr := o8_R_lr
  refine Go.step (fun t k => st8.trans k) ?_
  show Go _ _ _ _ _ _ _ (T8.setTop (mkF m 60 #[.val (.ref li), .val (.long ky), .second, .val (.ref lv), .unset, .unset] []))
  refine Go.step (fun t k => XS.aconstNull X8.here hx rfl (hb hby d6_60) k) ?_
  show Go _ _ _ _ _ _ _ (T8.setTop (mkF m 61 #[.val (.ref li), .val (.long ky), .second, .val (.ref lv), .unset, .unset] [.null]))
  refine Go.retA X8 Bd.notSynchronized hx Bd.returns rfl rfl rfl (hb hby d6_61) (by decide) (by decide) ?_
  exact ⟨.null, 0, aw, (up (own_sh gk 0 1 (0 - 0)) 0 ky), (up (own_sh gl 0 (0 + 1) (0 - 0)) 0 (.ref lv)), rfl, N8, K8', (Nat.le_refl _), (own_nf hs 0 (Nat.le_refl _) (Or.inl rfl) (Or.inl rfl)).1, (own_nf hs 0 (Nat.le_refl _) (Or.inl rfl) (Or.inl rfl)).2, rfl, rfl, rfl, F_root_li, F_last_li, F_ahead_li, E_li, F_keys_nd, F_levels_nd, F_children_nd, F_size_nd, F_next_nd, F_previous_nd, E_nd, A_kr, R_lr⟩
theorem d6_22 : decode prog_21_method_8_code 22 = .ok (.lload_n 1, 1) := by decide +kernel
theorem d6_23 : decode prog_21_method_8_code 23 = .ok (.aload_n 0, 1) := by decide +kernel
theorem d6_24 : decode prog_21_method_8_code 24 = .ok (.getfield 19, 3) := by decide +kernel
theorem d6_27 : decode prog_21_method_8_code 27 = .ok (.getfield 26, 3) := by decide +kernel
theorem d6_30 : decode prog_21_method_8_code 30 = .ok (.aload_n 0, 1) := by decide +kernel
theorem d6_31 : decode prog_21_method_8_code 31 = .ok (.getfield 19, 3) := by decide +kernel
theorem d6_34 : decode prog_21_method_8_code 34 = .ok (.getfield 30, 3) := by decide +kernel
theorem d6_37 : decode prog_21_method_8_code 37 = .ok (.iconst 1, 1) := by decide +kernel
theorem d6_38 : decode prog_21_method_8_code 38 = .ok (.isub, 1) := by decide +kernel
theorem d6_39 : decode prog_21_method_8_code 39 = .ok (.laload, 1) := by decide +kernel
theorem d6_40 : decode prog_21_method_8_code 40 = .ok (.lcmp, 1) := by decide +kernel
theorem d6_41 : decode prog_21_method_8_code 41 = .ok (.ifCond .le 21, 3) := by decide +kernel
theorem d6_62 : decode prog_21_method_8_code 62 = .ok (.aload_n 0, 1) := by decide +kernel
theorem d6_63 : decode prog_21_method_8_code 63 = .ok (.aload_n 0, 1) := by decide +kernel
theorem d6_64 : decode prog_21_method_8_code 64 = .ok (.getfield 13, 3) := by decide +kernel
theorem d6_67 : decode prog_21_method_8_code 67 = .ok (.lload_n 1, 1) := by decide +kernel
theorem d6_68 : decode prog_21_method_8_code 68 = .ok (.aload_n 3, 1) := by decide +kernel
theorem d6_69 : decode prog_21_method_8_code 69 = .ok (.invokevirtual 71, 3) := by decide +kernel
theorem d6_72 : decode prog_21_method_8_code 72 = .ok (.astore 4, 2) := by decide +kernel
theorem d6_74 : decode prog_21_method_8_code 74 = .ok (.aload 4, 2) := by decide +kernel
theorem d6_76 : decode prog_21_method_8_code 76 = .ok (.ifnull 51, 3) := by decide +kernel
theorem d6_127 : decode prog_21_method_8_code 127 = .ok (.aload_n 0, 1) := by decide +kernel
theorem d6_128 : decode prog_21_method_8_code 128 = .ok (.getfield 82, 3) := by decide +kernel
theorem d6_131 : decode prog_21_method_8_code 131 = .ok (.areturn, 1) := by decide +kernel
theorem pn_6 : plainName "com/example/matchstone/matchstone/LevelIndex" = true := by first | (simp [plainName, overriddenIn]; done) | decide +kernel
theorem pd_6_0 : parseMethodDescriptor "(IJLcom/example/matchstone/matchstone/PriceLevel;)V" = some ⟨[.int, .long, (.object "com/example/matchstone/matchstone/PriceLevel")], none⟩ := by decide +kernel
theorem pd_6_1 : parseMethodDescriptor "(Lcom/example/matchstone/matchstone/LevelIndex$Node;JLcom/example/matchstone/matchstone/PriceLevel;)Lcom/example/matchstone/matchstone/LevelIndex$Node;" = some ⟨[(.object "com/example/matchstone/matchstone/LevelIndex$Node"), .long, (.object "com/example/matchstone/matchstone/PriceLevel")], some (.object "com/example/matchstone/matchstone/LevelIndex$Node")⟩ := by decide +kernel
theorem ef_6 (m : MethodId) (x0 : Addr) (x1 : Int64) (x2 : Addr) : entryFrame m #[(.ref x0), (.long x1), (.ref x2)] 6 = mkF m 0 #[.val (.ref x0), .val (.long x1), .second, .val (.ref x2), .unset, .unset] [] := by first | (simp [entryFrame, mkF, argsToLocals, Value.category]; done) | rfl
def Q6 (Z : State) (li : Addr) (ky : Int64) (lv : Addr) (nd : Addr) (kr : Addr) (lr : Addr) (gk : Nat → Int64) (gl : Nat → Value) (sz : Int32) (n : Nat) (aw : Value) (h0 : Heap) (n0 : Nat) (v : Option Value) (h : Heap) (L : List Loc) : Prop := ∃ vv : Value, ∃ pn : Nat, ∃ w : Value, ∃ gk2 : Nat → Int64, ∃ gl2 : Nat → Value, v = some vv ∧ Fr n0 L ∧ Keep h0 h [li, nd, kr, lr] ∧ (pn ≤ n) ∧ (∀ i, i < pn → gk i < ky) ∧ (∀ i, pn ≤ i → i < n → ky < gk i) ∧ (vv.isRef = true) ∧ (gk2 = (up (own_sh gk pn (pn + 1) (n - pn)) pn ky)) ∧ (gl2 = (up (own_sh gl pn (pn + 1) (n - pn)) pn (.ref lv))) ∧ Fld Z h li "com/example/matchstone/matchstone/LevelIndex" "root" "Lcom/example/matchstone/matchstone/LevelIndex$Node;" (.ref nd) ∧ Fld Z h li "com/example/matchstone/matchstone/LevelIndex" "last" "Lcom/example/matchstone/matchstone/LevelIndex$Node;" (.ref nd) ∧ Fld Z h li "com/example/matchstone/matchstone/LevelIndex" "ahead" "Lcom/example/matchstone/matchstone/PriceLevel;" w ∧ Exa Z h li "com/example/matchstone/matchstone/LevelIndex" ∧ Fld Z h nd "com/example/matchstone/matchstone/LevelIndex$Node" "keys" "[J" (.ref kr) ∧ Fld Z h nd "com/example/matchstone/matchstone/LevelIndex$Node" "levels" "[Lcom/example/matchstone/matchstone/PriceLevel;" (.ref lr) ∧ Fld Z h nd "com/example/matchstone/matchstone/LevelIndex$Node" "children" "[Lcom/example/matchstone/matchstone/LevelIndex$Node;" .null ∧ Fld Z h nd "com/example/matchstone/matchstone/LevelIndex$Node" "size" "I" (.int (sz + (1 : Int32))) ∧ Fld Z h nd "com/example/matchstone/matchstone/LevelIndex$Node" "next" "Lcom/example/matchstone/matchstone/LevelIndex$Node;" .null ∧ Fld Z h nd "com/example/matchstone/matchstone/LevelIndex$Node" "previous" "Lcom/example/matchstone/matchstone/LevelIndex$Node;" .null ∧ Exa Z h nd "com/example/matchstone/matchstone/LevelIndex$Node" ∧ AryJ Z h kr 65 gk2 ∧ RAr Z h lr "com/example/matchstone/matchstone/PriceLevel" 65 gl2
set_option maxRecDepth 65536 in
set_option maxHeartbeats 40000000 in
theorem rm6 (l : Launch) (Z : State) (a0 : Array Value) (hw : ∀ d ∈ tables_1, d.before a0 Z = true) (ws : List Jvm.Cond) (li : Addr) (ky : Int64) (lv : Addr) (nd : Addr) (kr : Addr) (lr : Addr) (gk : Nat → Int64) (gl : Nat → Value) (sz : Int32) (n : Nat) (aw : Value) (h0 : Heap) (n0 : Nat) (Z0 : n0 ≤ h0.size) (F_root_li : Fld Z h0 li "com/example/matchstone/matchstone/LevelIndex" "root" "Lcom/example/matchstone/matchstone/LevelIndex$Node;" (.ref nd)) (F_last_li : Fld Z h0 li "com/example/matchstone/matchstone/LevelIndex" "last" "Lcom/example/matchstone/matchstone/LevelIndex$Node;" (.ref nd)) (F_ahead_li : Fld Z h0 li "com/example/matchstone/matchstone/LevelIndex" "ahead" "Lcom/example/matchstone/matchstone/PriceLevel;" aw) (E_li : Exa Z h0 li "com/example/matchstone/matchstone/LevelIndex") (g_li : n0 ≤ li) (F_keys_nd : Fld Z h0 nd "com/example/matchstone/matchstone/LevelIndex$Node" "keys" "[J" (.ref kr)) (F_levels_nd : Fld Z h0 nd "com/example/matchstone/matchstone/LevelIndex$Node" "levels" "[Lcom/example/matchstone/matchstone/PriceLevel;" (.ref lr)) (F_children_nd : Fld Z h0 nd "com/example/matchstone/matchstone/LevelIndex$Node" "children" "[Lcom/example/matchstone/matchstone/LevelIndex$Node;" .null) (F_size_nd : Fld Z h0 nd "com/example/matchstone/matchstone/LevelIndex$Node" "size" "I" (.int sz)) (F_next_nd : Fld Z h0 nd "com/example/matchstone/matchstone/LevelIndex$Node" "next" "Lcom/example/matchstone/matchstone/LevelIndex$Node;" .null) (F_previous_nd : Fld Z h0 nd "com/example/matchstone/matchstone/LevelIndex$Node" "previous" "Lcom/example/matchstone/matchstone/LevelIndex$Node;" .null) (E_nd : Exa Z h0 nd "com/example/matchstone/matchstone/LevelIndex$Node") (A_kr : AryJ Z h0 kr 65 gk) (R_lr : RAr Z h0 lr "com/example/matchstone/matchstone/PriceLevel" 65 gl) (g_nd : n0 ≤ nd) (g_kr : n0 ≤ kr) (g_lr : n0 ≤ lr) (ne_kr_lr : kr ≠ lr) (E_lv : Exa Z h0 lv "com/example/matchstone/matchstone/PriceLevel") (hz : (sz.toInt = (n : Int))) (hn1 : (1 ≤ n)) (hn : (n ≤ 3)) (hs : (own_srt n gk)) (hnew : (∀ i, i < n → gk i ≠ ky)) :
    MetFree l (⟨"com/example/matchstone/matchstone/LevelIndex", "put", "(JLcom/example/matchstone/matchstone/PriceLevel;)Lcom/example/matchstone/matchstone/PriceLevel;"⟩ : MethodName) (head1 (Jvm.Cond.code (⟨"com/example/matchstone/matchstone/LevelIndex", "put", "(JLcom/example/matchstone/matchstone/PriceLevel;)Lcom/example/matchstone/matchstone/PriceLevel;"⟩ : MethodName) prog_21_method_8_code 6 (some (.object "com/example/matchstone/matchstone/PriceLevel")) :: ws) ({ frames := 3, cells := 0, slots := 0, locals := 74 } : Room)) (fun a U => a = #[(.ref li), (.long ky), (.ref lv)] ∧ Z.Warmed39 U.vm ∧ U.heap = h0) (fun _ _ _ _ _ => True) (fun _ U o U' => ∃ v L, o = .returned v ∧ Q6 Z li ky lv nd kr lr gk gl sz n aw h0 n0 v U'.heap L ∧ FrameEnd U o U' L ({ frames := 3, cells := 0, slots := 0, locals := 74 } : Room).cells ({ frames := 3, cells := 0, slots := 0, locals := 74 } : Room).slots) := by
  refine MetFree.of_bodySF (plainFor_of_name pn_6) hisR ?_
  intro p e s m args below meth c s₁ Bd hml0 hP hK
  obtain ⟨rfl, hZ, hh⟩ := hP
  have hx := Bd.exec
  have hby := Bd.bytes
  have hml : c.maxLocals = 6 := hml0
  have hown : s.vm.findClass "com/example/matchstone/matchstone/LevelIndex" = some m.cls := findClass_of_methodNamed Bd.named
  have hnm := (name_of_methodNamed Bd.named Bd.method).1
  have X0 : Stand p l e ({ frames := 3, cells := 0, slots := 0, locals := 74 } : Room) s m #[(.ref li), (.long ky), (.ref lv)] below meth c s₁ [] 0 0 := Stand.of_body Bd
  have e0 : s₁.heap = h0 := by rw [← hh, Bd.state]; rfl
  have N0 := Fr.nil n0
  have K0 := Keep.refl h0 ([li, nd, kr, lr] : List Addr)
  show Go p e below s (Q6 Z li ky lv nd kr lr gk gl sz n aw h0 n0) ({ frames := 3, cells := 0, slots := 0, locals := 74 } : Room).cells ({ frames := 3, cells := 0, slots := 0, locals := 74 } : Room).slots (s₁.setTop (entryFrame m #[(.ref li), (.long ky), (.ref lv)] 6))
  rw [ef_6]
  show Go _ _ _ _ _ _ _ (s₁.setTop (mkF m 0 #[.val (.ref li), .val (.long ky), .second, .val (.ref lv), .unset, .unset] []))
  refine Go.step (fun t k => XS.aloadN X0.here hx rfl (hb hby d6_0) rfl rfl k) ?_
  show Go _ _ _ _ _ _ _ (s₁.setTop (mkF m 1 #[.val (.ref li), .val (.long ky), .second, .val (.ref lv), .unset, .unset] [(.ref li)]))
  obtain ⟨T1, X1, e1, st1⟩ := getF X0 hx hZ hown (host := "") (Or.inl (hw _ (List.mem_of_getElem? (i := 30) rfl))) Via.refl e0 F_last_li (g := (mkF m 1 #[.val (.ref li), .val (.long ky), .second, .val (.ref lv), .unset, .unset] [(.ref li)])) rfl rfl (hb hby d6_1)
  refine Go.step st1 ?_
  show Go _ _ _ _ _ _ _ (T1.setTop (mkF m 4 #[.val (.ref li), .val (.long ky), .second, .val (.ref lv), .unset, .unset] [(.ref nd)]))
  obtain ⟨T2, X2, e2, st2⟩ := own_getR X1 hx hZ hown (hw _ (List.mem_of_getElem? (i := 48) rfl)) e1 F_size_nd (f := (mkF m 4 #[.val (.ref li), .val (.long ky), .second, .val (.ref lv), .unset, .unset] [(.ref nd)])) rfl rfl (hb hby d6_4)
  refine Go.step st2 ?_
  show Go _ _ _ _ _ _ _ (T2.setTop (mkF m 7 #[.val (.ref li), .val (.long ky), .second, .val (.ref lv), .unset, .unset] [(.int sz)]))
  refine Go.step (fun t k => XS.bipush X2.here hx rfl (hb hby d6_7) k) ?_
  show Go _ _ _ _ _ _ _ (T2.setTop (mkF m 9 #[.val (.ref li), .val (.long ky), .second, .val (.ref lv), .unset, .unset] [(.int (64 : Int32)), (.int sz)]))
  refine Go.step (fun t k => XS.icmpNo X2.here hx rfl (hb hby d6_9) rfl (tlt (own_zlt hz hn : sz < (64 : Int32))).2.1 k) ?_
  show Go _ _ _ _ _ _ _ (T2.setTop (mkF m 12 #[.val (.ref li), .val (.long ky), .second, .val (.ref lv), .unset, .unset] []))
  refine Go.step (fun t k => XS.aloadN X2.here hx rfl (hb hby d6_12) rfl rfl k) ?_
  show Go _ _ _ _ _ _ _ (T2.setTop (mkF m 13 #[.val (.ref li), .val (.long ky), .second, .val (.ref lv), .unset, .unset] [(.ref li)]))
  obtain ⟨T3, X3, e3, st3⟩ := getF X2 hx hZ hown (host := "") (Or.inl (hw _ (List.mem_of_getElem? (i := 30) rfl))) Via.refl e2 F_last_li (g := (mkF m 13 #[.val (.ref li), .val (.long ky), .second, .val (.ref lv), .unset, .unset] [(.ref li)])) rfl rfl (hb hby d6_13)
  refine Go.step st3 ?_
  show Go _ _ _ _ _ _ _ (T3.setTop (mkF m 16 #[.val (.ref li), .val (.long ky), .second, .val (.ref lv), .unset, .unset] [(.ref nd)]))
  obtain ⟨T4, X4, e4, st4⟩ := own_getR X3 hx hZ hown (hw _ (List.mem_of_getElem? (i := 48) rfl)) e3 F_size_nd (f := (mkF m 16 #[.val (.ref li), .val (.long ky), .second, .val (.ref lv), .unset, .unset] [(.ref nd)])) rfl rfl (hb hby d6_16)
  refine Go.step st4 ?_
  show Go _ _ _ _ _ _ _ (T4.setTop (mkF m 19 #[.val (.ref li), .val (.long ky), .second, .val (.ref lv), .unset, .unset] [(.int sz)]))
  refine Go.step (fun t k => XS.ifNo X4.here hx rfl (hb hby d6_19) rfl ((if0 _ _).trans (feq (own_zne hz hn1 : ¬ sz = (0 : Int32))).1) k) ?_
  show Go _ _ _ _ _ _ _ (T4.setTop (mkF m 22 #[.val (.ref li), .val (.long ky), .second, .val (.ref lv), .unset, .unset] []))
  refine Go.step (fun t k => XS.lloadN X4.here hx rfl (hb hby d6_22) rfl (XS.aloadN X4.here hx rfl (hb hby d6_23) rfl rfl k)) ?_
  show Go _ _ _ _ _ _ _ (T4.setTop (mkF m 24 #[.val (.ref li), .val (.long ky), .second, .val (.ref lv), .unset, .unset] [(.ref li), (.long ky)]))
  obtain ⟨T5, X5, e5, st5⟩ := getF X4 hx hZ hown (host := "") (Or.inl (hw _ (List.mem_of_getElem? (i := 30) rfl))) Via.refl e4 F_last_li (g := (mkF m 24 #[.val (.ref li), .val (.long ky), .second, .val (.ref lv), .unset, .unset] [(.ref li), (.long ky)])) rfl rfl (hb hby d6_24)
  refine Go.step st5 ?_
  show Go _ _ _ _ _ _ _ (T5.setTop (mkF m 27 #[.val (.ref li), .val (.long ky), .second, .val (.ref lv), .unset, .unset] [(.ref nd), (.long ky)]))
  obtain ⟨T6, X6, e6, st6⟩ := own_getR X5 hx hZ hown (hw _ (List.mem_of_getElem? (i := 61) rfl)) e5 F_keys_nd (f := (mkF m 27 #[.val (.ref li), .val (.long ky), .second, .val (.ref lv), .unset, .unset] [(.ref nd), (.long ky)])) rfl rfl (hb hby d6_27)
  refine Go.step st6 ?_
  show Go _ _ _ _ _ _ _ (T6.setTop (mkF m 30 #[.val (.ref li), .val (.long ky), .second, .val (.ref lv), .unset, .unset] [(.ref kr), (.long ky)]))
  refine Go.step (fun t k => XS.aloadN X6.here hx rfl (hb hby d6_30) rfl rfl k) ?_
  show Go _ _ _ _ _ _ _ (T6.setTop (mkF m 31 #[.val (.ref li), .val (.long ky), .second, .val (.ref lv), .unset, .unset] [(.ref li), (.ref kr), (.long ky)]))
  obtain ⟨T7, X7, e7, st7⟩ := getF X6 hx hZ hown (host := "") (Or.inl (hw _ (List.mem_of_getElem? (i := 30) rfl))) Via.refl e6 F_last_li (g := (mkF m 31 #[.val (.ref li), .val (.long ky), .second, .val (.ref lv), .unset, .unset] [(.ref li), (.ref kr), (.long ky)])) rfl rfl (hb hby d6_31)
  refine Go.step st7 ?_
  show Go _ _ _ _ _ _ _ (T7.setTop (mkF m 34 #[.val (.ref li), .val (.long ky), .second, .val (.ref lv), .unset, .unset] [(.ref nd), (.ref kr), (.long ky)]))
  obtain ⟨T8, X8, e8, st8⟩ := own_getR X7 hx hZ hown (hw _ (List.mem_of_getElem? (i := 48) rfl)) e7 F_size_nd (f := (mkF m 34 #[.val (.ref li), .val (.long ky), .second, .val (.ref lv), .unset, .unset] [(.ref nd), (.ref kr), (.long ky)])) rfl rfl (hb hby d6_34)
  refine Go.step st8 ?_
  show Go _ _ _ _ _ _ _ (T8.setTop (mkF m 37 #[.val (.ref li), .val (.long ky), .second, .val (.ref lv), .unset, .unset] [(.int sz), (.ref kr), (.long ky)]))
  refine Go.step (fun t k => XS.iconst X8.here hx rfl (hb hby d6_37) (XS.isub X8.here hx rfl (hb hby d6_38) rfl k)) ?_
  show Go _ _ _ _ _ _ _ (T8.setTop (mkF m 39 #[.val (.ref li), .val (.long ky), .second, .val (.ref lv), .unset, .unset] [(.int (sz - (1 : Int32))), (.ref kr), (.long ky)]))
  refine Go.step (own_ld X8 hx hZ e8 A_kr (j := (sz - (1 : Int32))) (n - 1) (own_zm1 hz hn1 hn) (by omega) (v := (.long (gk (n - 1)))) rfl (Or.inr (Or.inl ⟨rfl, rfl⟩)) (f := (mkF m 39 #[.val (.ref li), .val (.long ky), .second, .val (.ref lv), .unset, .unset] [(.int (sz - (1 : Int32))), (.ref kr), (.long ky)])) rfl rfl (hb hby d6_39)) ?_
  show Go _ _ _ _ _ _ _ (T8.setTop (mkF m 40 #[.val (.ref li), .val (.long ky), .second, .val (.ref lv), .unset, .unset] [(.long (gk (n - 1))), (.long ky)]))
  refine Go.step (fun t k => XS.lcmp X8.here hx rfl (hb hby d6_40) rfl k) ?_
  show Go _ _ _ _ _ _ _ (T8.setTop (mkF m 41 #[.val (.ref li), .val (.long ky), .second, .val (.ref lv), .unset, .unset] [(.int (lcmpW ky (gk (n - 1))))]))
  by_cases hc41_10 : (gk (n - 1)) < ky
  · refine Go.step (fun t k => XS.ifNo X8.here hx rfl (hb hby d6_41) rfl ((if0 _ _).trans (tlt (own_lwgt hc41_10)).2.2.2) k) ?_
    show Go _ _ _ _ _ _ _ (T8.setTop (mkF m 44 #[.val (.ref li), .val (.long ky), .second, .val (.ref lv), .unset, .unset] []))
    refine Go.step (fun t k => XS.aloadN X8.here hx rfl (hb hby d6_44) rfl rfl k) ?_
    show Go _ _ _ _ _ _ _ (T8.setTop (mkF m 45 #[.val (.ref li), .val (.long ky), .second, .val (.ref lv), .unset, .unset] [(.ref li)]))
    obtain ⟨T11, X11, e11, st11⟩ := getF X8 hx hZ hown (host := "") (Or.inl (hw _ (List.mem_of_getElem? (i := 30) rfl))) Via.refl e8 F_last_li (g := (mkF m 45 #[.val (.ref li), .val (.long ky), .second, .val (.ref lv), .unset, .unset] [(.ref li)])) rfl rfl (hb hby d6_45)
    refine Go.step st11 ?_
    show Go _ _ _ _ _ _ _ (T11.setTop (mkF m 48 #[.val (.ref li), .val (.long ky), .second, .val (.ref lv), .unset, .unset] [(.ref nd)]))
    refine Go.step (fun t k => XS.aloadN X11.here hx rfl (hb hby d6_48) rfl rfl k) ?_
    show Go _ _ _ _ _ _ _ (T11.setTop (mkF m 49 #[.val (.ref li), .val (.long ky), .second, .val (.ref lv), .unset, .unset] [(.ref li), (.ref nd)]))
    obtain ⟨T12, X12, e12, st12⟩ := getF X11 hx hZ hown (host := "") (Or.inl (hw _ (List.mem_of_getElem? (i := 30) rfl))) Via.refl e11 F_last_li (g := (mkF m 49 #[.val (.ref li), .val (.long ky), .second, .val (.ref lv), .unset, .unset] [(.ref li), (.ref nd)])) rfl rfl (hb hby d6_49)
    refine Go.step st12 ?_
    show Go _ _ _ _ _ _ _ (T12.setTop (mkF m 52 #[.val (.ref li), .val (.long ky), .second, .val (.ref lv), .unset, .unset] [(.ref nd), (.ref nd)]))
    obtain ⟨T13, X13, e13, st13⟩ := own_getR X12 hx hZ hown (hw _ (List.mem_of_getElem? (i := 48) rfl)) e12 F_size_nd (f := (mkF m 52 #[.val (.ref li), .val (.long ky), .second, .val (.ref lv), .unset, .unset] [(.ref nd), (.ref nd)])) rfl rfl (hb hby d6_52)
    refine Go.step st13 ?_
    show Go _ _ _ _ _ _ _ (T13.setTop (mkF m 55 #[.val (.ref li), .val (.long ky), .second, .val (.ref lv), .unset, .unset] [(.int sz), (.ref nd)]))
    refine Go.step (fun t k => XS.lloadN X13.here hx rfl (hb hby d6_55) rfl (XS.aloadN X13.here hx rfl (hb hby d6_56) rfl rfl k)) ?_
    show Go _ _ _ _ _ _ _ (T13.setTop (mkF m 57 #[.val (.ref li), .val (.long ky), .second, .val (.ref lv), .unset, .unset] [(.ref lv), (.long ky), (.int sz), (.ref nd)]))
    obtain ⟨cq14, kq14, q14a, q14b, q14c⟩ := isOf hZ e13 E_nd
    obtain ⟨_, _, ⟨T14, L14, k14, n14⟩, -, X14, ⟨Lc14, hQ14, l14, y14, z14⟩, st14⟩ := X13.virtualBack hx (y := (⟨"com/example/matchstone/matchstone/LevelIndex$Node", "insertEntry", "(IJLcom/example/matchstone/matchstone/PriceLevel;)V"⟩ : MethodName)) (z := (⟨"com/example/matchstone/matchstone/LevelIndex$Node", "insertEntry", "(IJLcom/example/matchstone/matchstone/PriceLevel;)V"⟩ : MethodName)) hown (mvT hZ (hw _ (List.mem_of_getElem? (i := 50) rfl))) (mvT hZ (hw _ (List.mem_of_getElem? (i := 51) rfl))) (notFace_of_selects (args := #[]) (mvT hZ (hw _ (List.mem_of_getElem? (i := 53) rfl)))) (mvT hZ (hw _ (List.mem_of_getElem? (i := 53) rfl))) (mvT hZ (hw _ (List.mem_of_getElem? (i := 52) rfl))) (by decide) (backOf (W := 0) (rm7 l Z a0 hw [] nd sz ky lv kr lr gk gl sz n n h0 n0 Z0 F_keys_nd F_levels_nd F_children_nd F_size_nd F_next_nd F_previous_nd E_nd A_kr R_lr g_nd g_kr g_lr ne_kr_lr E_lv (by assumption) (by assumption) hz (Nat.le_refl _)) hZ (hw _ (List.mem_of_getElem? (i := 54) rfl)) (hw _ (List.mem_of_getElem? (i := 11) rfl)) (by decide) (by decide)) q14a q14c (g := (mkF m 57 #[.val (.ref li), .val (.long ky), .second, .val (.ref lv), .unset, .unset] [(.ref lv), (.long ky), (.int sz), (.ref nd)])) rfl (by rw [hml]; rfl) (Steps.refl _) (argsL := [(.int sz), (.long ky), (.ref lv)]) (rest := []) (lenOf pd_6_0 rfl) rfl (by show 2 * 0 + _ ≤ _; exact Nat.le_of_eq rfl) (hb hby d6_57) (fun _ _ => ⟨rfl, e13, (by decide : 0 + 0 ≤ _), (by decide : 0 + 0 ≤ _)⟩)
    dsimp only [Pt.U, Pt.locs, Pt.cells, Pt.slots] at X14 l14 y14 z14 st14 hQ14
    subst l14 y14 z14
    obtain ⟨rfl, N14q, K14q, o14_F_keys_nd, o14_F_levels_nd, o14_F_children_nd, o14_F_size_nd, o14_F_next_nd, o14_F_previous_nd, o14_E_nd, o14_A_kr, o14_R_lr⟩ := hQ14
    have N14 := Fr.app N0 N14q
    have ne_li_nd : li ≠ nd := (ne_exa E_li E_nd (by decide))
    have ne_li_kr : li ≠ kr := (own_neA E_li (hw _ (List.mem_of_getElem? (i := 1) rfl)) A_kr)
    have ne_li_lr : li ≠ lr := (own_neR E_li (hw _ (List.mem_of_getElem? (i := 1) rfl)) R_lr)
    replace F_root_li := F_root_li.keep K14q (ninS ne_li_nd (ninS ne_li_kr (ninS ne_li_lr nin0)))
    replace F_last_li := F_last_li.keep K14q (ninS ne_li_nd (ninS ne_li_kr (ninS ne_li_lr nin0)))
    replace F_ahead_li := F_ahead_li.keep K14q (ninS ne_li_nd (ninS ne_li_kr (ninS ne_li_lr nin0)))
    replace E_li := E_li.keep K14q
    replace E_nd := E_nd.keep K14q
    replace E_lv := E_lv.keep K14q
    have Z14 := Nat.le_trans Z0 K14q.1
    have K14' := K0.trans K14q (allS (Or.inl (List.mem_of_getElem? (i := 1) rfl)) (allS (Or.inl (List.mem_of_getElem? (i := 2) rfl)) (allS (Or.inl (List.mem_of_getElem? (i := 3) rfl)) all0)))
    have F_keys_nd := o14_F_keys_nd
    have F_levels_nd := o14_F_levels_nd
    have F_children_nd := o14_F_children_nd
    have F_size_nd := o14_F_size_nd
    have F_next_nd := o14_F_next_nd
    have F_previous_nd := o14_F_previous_nd
    have E_nd := o14_E_nd
    have A_kr := o14_A_kr
    have R_lr := o14_R_lr
    refine Go.step (fun t k => st14.trans k) ?_
    show Go _ _ _ _ _ _ _ (T14.setTop (mkF m 60 #[.val (.ref li), .val (.long ky), .second, .val (.ref lv), .unset, .unset] []))
    refine Go.step (fun t k => XS.aconstNull X14.here hx rfl (hb hby d6_60) k) ?_
    show Go _ _ _ _ _ _ _ (T14.setTop (mkF m 61 #[.val (.ref li), .val (.long ky), .second, .val (.ref lv), .unset, .unset] [.null]))
    refine Go.retA X14 Bd.notSynchronized hx Bd.returns rfl rfl rfl (hb hby d6_61) (by decide) (by decide) ?_
    exact ⟨.null, n, aw, (up (own_sh gk n (n + 1) (n - n)) n ky), (up (own_sh gl n (n + 1) (n - n)) n (.ref lv)), rfl, N14, K14', (Nat.le_refl _), (own_nf hs n (Nat.le_refl _) (Or.inr hc41_10) (Or.inl rfl)).1, (own_nf hs n (Nat.le_refl _) (Or.inr hc41_10) (Or.inl rfl)).2, rfl, rfl, rfl, F_root_li, F_last_li, F_ahead_li, E_li, F_keys_nd, F_levels_nd, F_children_nd, F_size_nd, F_next_nd, F_previous_nd, E_nd, A_kr, R_lr⟩
  · refine Go.step (fun t k => XS.ifYes X8.here hx rfl (pc0 := 41) (pc' := 62) rfl (hb hby d6_41) rfl ((if0 _ _).trans (flt (own_nlwgt hc41_10)).2.2.2) (by decide) (by decide) k) ?_
    show Go _ _ _ _ _ _ _ (T8.setTop (mkF m 62 #[.val (.ref li), .val (.long ky), .second, .val (.ref lv), .unset, .unset] []))
    refine Go.step (fun t k => XS.aloadN X8.here hx rfl (hb hby d6_62) rfl rfl (XS.aloadN X8.here hx rfl (hb hby d6_63) rfl rfl k)) ?_
    show Go _ _ _ _ _ _ _ (T8.setTop (mkF m 64 #[.val (.ref li), .val (.long ky), .second, .val (.ref lv), .unset, .unset] [(.ref li), (.ref li)]))
    obtain ⟨T15, X15, e15, st15⟩ := getF X8 hx hZ hown (host := "") (Or.inl (hw _ (List.mem_of_getElem? (i := 28) rfl))) Via.refl e8 F_root_li (g := (mkF m 64 #[.val (.ref li), .val (.long ky), .second, .val (.ref lv), .unset, .unset] [(.ref li), (.ref li)])) rfl rfl (hb hby d6_64)
    refine Go.step st15 ?_
    show Go _ _ _ _ _ _ _ (T15.setTop (mkF m 67 #[.val (.ref li), .val (.long ky), .second, .val (.ref lv), .unset, .unset] [(.ref nd), (.ref li)]))
    refine Go.step (fun t k => XS.lloadN X15.here hx rfl (hb hby d6_67) rfl (XS.aloadN X15.here hx rfl (hb hby d6_68) rfl rfl k)) ?_
    show Go _ _ _ _ _ _ _ (T15.setTop (mkF m 69 #[.val (.ref li), .val (.long ky), .second, .val (.ref lv), .unset, .unset] [(.ref lv), (.long ky), (.ref nd), (.ref li)]))
    obtain ⟨cq16, q16, q16'⟩ := E_li.cell
    obtain ⟨_, _, ⟨T16, L16, k16, n16⟩, -, X16, ⟨Lc16, hQ16, l16, y16, z16⟩, st16⟩ := X15.privateBack hx (y := (⟨"com/example/matchstone/matchstone/LevelIndex", "insert", "(Lcom/example/matchstone/matchstone/LevelIndex$Node;JLcom/example/matchstone/matchstone/PriceLevel;)Lcom/example/matchstone/matchstone/LevelIndex$Node;"⟩ : MethodName)) hown (mvT hZ (hw _ (List.mem_of_getElem? (i := 62) rfl))) (mvT hZ (hw _ (List.mem_of_getElem? (i := 63) rfl))) (own_selP hZ (hw _ (List.mem_of_getElem? (i := 1) rfl)) (hw _ (List.mem_of_getElem? (i := 63) rfl)) (hw _ (List.mem_of_getElem? (i := 64) rfl)) (by decide)) (Cond.privateMethod_at (mvP hZ (hw _ (List.mem_of_getElem? (i := 64) rfl)) (args := #[]))) (mvT hZ (hw _ (List.mem_of_getElem? (i := 65) rfl))) (by decide) (backOf (W := 0) (rm8 l Z a0 hw [] li nd ky lv kr lr gk gl sz n aw h0 n0 Z0 F_root_li F_last_li F_ahead_li E_li g_li F_keys_nd F_levels_nd F_children_nd F_size_nd F_next_nd F_previous_nd E_nd A_kr R_lr g_nd g_kr g_lr ne_kr_lr E_lv (by assumption) (by assumption) (by assumption) (by assumption) (by assumption)) hZ (hw _ (List.mem_of_getElem? (i := 65) rfl)) (hw _ (List.mem_of_getElem? (i := 2) rfl)) (by decide) (by decide)) (g := (mkF m 69 #[.val (.ref li), .val (.long ky), .second, .val (.ref lv), .unset, .unset] [(.ref lv), (.long ky), (.ref nd), (.ref li)])) rfl (by rw [hml]; rfl) (Steps.refl _) (a := li) (by rw [e15]; exact q16) q16' (argsL := [(.ref nd), (.long ky), (.ref lv)]) (rest := []) (lenOf pd_6_1 rfl) rfl (by show 2 * 0 + _ ≤ _; exact Nat.le_of_eq rfl) (hb hby d6_69) (fun _ _ => ⟨rfl, e15, (by decide : 0 + 0 ≤ _), (by decide : 0 + 0 ≤ _)⟩)
    dsimp only [Pt.U, Pt.locs, Pt.cells, Pt.slots] at X16 l16 y16 z16 st16 hQ16
    subst l16 y16 z16
    obtain ⟨pn_16, w_16, rfl, N16q, K16q, o16_hpn, o16_hlo, o16_hhi, o16_hwr, o16_F_root_li, o16_F_last_li, o16_F_ahead_li, o16_E_li, o16_F_keys_nd, o16_F_levels_nd, o16_F_children_nd, o16_F_size_nd, o16_F_next_nd, o16_F_previous_nd, o16_E_nd, o16_A_kr, o16_R_lr⟩ := hQ16
    have N16 := Fr.app N0 N16q
    replace E_li := E_li.keep K16q
    replace E_nd := E_nd.keep K16q
    replace E_lv := E_lv.keep K16q
    have Z16 := Nat.le_trans Z0 K16q.1
    have K16' := K0.trans K16q (allS (Or.inl (List.mem_of_getElem? (i := 0) rfl)) (allS (Or.inl (List.mem_of_getElem? (i := 1) rfl)) (allS (Or.inl (List.mem_of_getElem? (i := 2) rfl)) (allS (Or.inl (List.mem_of_getElem? (i := 3) rfl)) all0))))
    have F_root_li := o16_F_root_li
    have F_last_li := o16_F_last_li
    have F_ahead_li := o16_F_ahead_li
    have E_li := o16_E_li
    have F_keys_nd := o16_F_keys_nd
    have F_levels_nd := o16_F_levels_nd
    have F_children_nd := o16_F_children_nd
    have F_size_nd := o16_F_size_nd
    have F_next_nd := o16_F_next_nd
    have F_previous_nd := o16_F_previous_nd
    have E_nd := o16_E_nd
    have A_kr := o16_A_kr
    have R_lr := o16_R_lr
    refine Go.step (fun t k => st16.trans k) ?_
    show Go _ _ _ _ _ _ _ (T16.setTop (mkF m 72 #[.val (.ref li), .val (.long ky), .second, .val (.ref lv), .unset, .unset] [.null]))
    refine Go.step (fun t k => XS.astore X16.here hx rfl (hb hby d6_72) rfl rfl (l' := #[.val (.ref li), .val (.long ky), .second, .val (.ref lv), .val .null, .unset]) rfl (XS.aload X16.here hx rfl (hb hby d6_74) rfl rfl k)) ?_
    show Go _ _ _ _ _ _ _ (T16.setTop (mkF m 76 #[.val (.ref li), .val (.long ky), .second, .val (.ref lv), .val .null, .unset] [.null]))
    refine Go.step (fun t k => XS.ifnullYes X16.here hx rfl (pc0 := 76) (pc' := 127) rfl (hb hby d6_76) rfl (by decide) (by decide) k) ?_
    show Go _ _ _ _ _ _ _ (T16.setTop (mkF m 127 #[.val (.ref li), .val (.long ky), .second, .val (.ref lv), .val .null, .unset] []))
    refine Go.step (fun t k => XS.aloadN X16.here hx rfl (hb hby d6_127) rfl rfl k) ?_
    show Go _ _ _ _ _ _ _ (T16.setTop (mkF m 128 #[.val (.ref li), .val (.long ky), .second, .val (.ref lv), .val .null, .unset] [(.ref li)]))
    obtain ⟨T17, X17, e17, st17⟩ := getF X16 hx hZ hown (host := "") (Or.inl (hw _ (List.mem_of_getElem? (i := 82) rfl))) Via.refl rfl F_ahead_li (g := (mkF m 128 #[.val (.ref li), .val (.long ky), .second, .val (.ref lv), .val .null, .unset] [(.ref li)])) rfl rfl (hb hby d6_128)
    refine Go.step st17 ?_
    show Go _ _ _ _ _ _ _ (T17.setTop (mkF m 131 #[.val (.ref li), .val (.long ky), .second, .val (.ref lv), .val .null, .unset] [w_16]))
    refine Go.retA X17 Bd.notSynchronized hx Bd.returns rfl rfl o16_hwr (hb hby d6_131) (by decide) (by decide) ?_
    rw [e17]
    exact ⟨w_16, pn_16, w_16, (up (own_sh gk pn_16 (pn_16 + 1) (n - pn_16)) pn_16 ky), (up (own_sh gl pn_16 (pn_16 + 1) (n - pn_16)) pn_16 (.ref lv)), rfl, N16, K16', o16_hpn, o16_hlo, o16_hhi, o16_hwr, rfl, rfl, F_root_li, F_last_li, F_ahead_li, E_li, F_keys_nd, F_levels_nd, F_children_nd, F_size_nd, F_next_nd, F_previous_nd, E_nd, A_kr, R_lr⟩
theorem d19_0 : decode prog_23_method_12_code 0 = .ok (.aload_n 0, 1) := by decide +kernel
theorem d19_1 : decode prog_23_method_12_code 1 = .ok (.getfield 61, 3) := by decide +kernel
theorem d19_4 : decode prog_23_method_12_code 4 = .ok (.ifnull 14, 3) := by decide +kernel
theorem d19_18 : decode prog_23_method_12_code 18 = .ok (.aload_n 0, 1) := by decide +kernel
theorem d19_19 : decode prog_23_method_12_code 19 = .ok (.getfield 65, 3) := by decide +kernel
theorem d19_22 : decode prog_23_method_12_code 22 = .ok (.ifnull 14, 3) := by decide +kernel
theorem d19_36 : decode prog_23_method_12_code 36 = .ok (.aload_n 0, 1) := by decide +kernel
theorem d19_37 : decode prog_23_method_12_code 37 = .ok (.aconst_null, 1) := by decide +kernel
theorem d19_38 : decode prog_23_method_12_code 38 = .ok (.putfield 61, 3) := by decide +kernel
theorem d19_41 : decode prog_23_method_12_code 41 = .ok (.aload_n 0, 1) := by decide +kernel
theorem d19_42 : decode prog_23_method_12_code 42 = .ok (.aconst_null, 1) := by decide +kernel
theorem d19_43 : decode prog_23_method_12_code 43 = .ok (.putfield 65, 3) := by decide +kernel
theorem d19_46 : decode prog_23_method_12_code 46 = .ok (.return_, 1) := by decide +kernel
theorem pn_19 : plainName "com/example/matchstone/matchstone/LevelIndex$Node" = true := by first | (simp [plainName, overriddenIn]; done) | decide +kernel
theorem ef_19 (m : MethodId) (x0 : Addr) : entryFrame m #[(.ref x0)] 1 = mkF m 0 #[.val (.ref x0)] [] := by first | (simp [entryFrame, mkF, argsToLocals, Value.category]; done) | rfl
def Q19 (Z : State) (nd : Addr) (kr : Addr) (lr : Addr) (h0 : Heap) (n0 : Nat) (v : Option Value) (h : Heap) (L : List Loc) : Prop := v = none ∧ Fr n0 L ∧ Keep h0 h [nd] ∧ Fld Z h nd "com/example/matchstone/matchstone/LevelIndex$Node" "keys" "[J" (.ref kr) ∧ Fld Z h nd "com/example/matchstone/matchstone/LevelIndex$Node" "levels" "[Lcom/example/matchstone/matchstone/PriceLevel;" (.ref lr) ∧ Fld Z h nd "com/example/matchstone/matchstone/LevelIndex$Node" "children" "[Lcom/example/matchstone/matchstone/LevelIndex$Node;" .null ∧ Fld Z h nd "com/example/matchstone/matchstone/LevelIndex$Node" "size" "I" (.int (0 : Int32)) ∧ Fld Z h nd "com/example/matchstone/matchstone/LevelIndex$Node" "next" "Lcom/example/matchstone/matchstone/LevelIndex$Node;" .null ∧ Fld Z h nd "com/example/matchstone/matchstone/LevelIndex$Node" "previous" "Lcom/example/matchstone/matchstone/LevelIndex$Node;" .null ∧ Exa Z h nd "com/example/matchstone/matchstone/LevelIndex$Node"
set_option maxRecDepth 65536 in
set_option maxHeartbeats 40000000 in
theorem rm19 (l : Launch) (Z : State) (a0 : Array Value) (hw : ∀ d ∈ tables_1, d.before a0 Z = true) (ws : List Jvm.Cond) (nd : Addr) (kr : Addr) (lr : Addr) (h0 : Heap) (n0 : Nat) (Z0 : n0 ≤ h0.size) (F_keys_nd : Fld Z h0 nd "com/example/matchstone/matchstone/LevelIndex$Node" "keys" "[J" (.ref kr)) (F_levels_nd : Fld Z h0 nd "com/example/matchstone/matchstone/LevelIndex$Node" "levels" "[Lcom/example/matchstone/matchstone/PriceLevel;" (.ref lr)) (F_children_nd : Fld Z h0 nd "com/example/matchstone/matchstone/LevelIndex$Node" "children" "[Lcom/example/matchstone/matchstone/LevelIndex$Node;" .null) (F_size_nd : Fld Z h0 nd "com/example/matchstone/matchstone/LevelIndex$Node" "size" "I" (.int (0 : Int32))) (F_next_nd : Fld Z h0 nd "com/example/matchstone/matchstone/LevelIndex$Node" "next" "Lcom/example/matchstone/matchstone/LevelIndex$Node;" .null) (F_previous_nd : Fld Z h0 nd "com/example/matchstone/matchstone/LevelIndex$Node" "previous" "Lcom/example/matchstone/matchstone/LevelIndex$Node;" .null) (E_nd : Exa Z h0 nd "com/example/matchstone/matchstone/LevelIndex$Node") (g_nd : n0 ≤ nd) :
    MetFree l (⟨"com/example/matchstone/matchstone/LevelIndex$Node", "unlinkLeaf", "()V"⟩ : MethodName) (head1 (Jvm.Cond.code (⟨"com/example/matchstone/matchstone/LevelIndex$Node", "unlinkLeaf", "()V"⟩ : MethodName) prog_23_method_12_code 1 none :: ws) ({ frames := 0, cells := 0, slots := 0, locals := 0 } : Room)) (fun a U => a = #[(.ref nd)] ∧ Z.Warmed39 U.vm ∧ U.heap = h0) (fun _ _ _ _ _ => True) (fun _ U o U' => ∃ v L, o = .returned v ∧ Q19 Z nd kr lr h0 n0 v U'.heap L ∧ FrameEnd U o U' L ({ frames := 0, cells := 0, slots := 0, locals := 0 } : Room).cells ({ frames := 0, cells := 0, slots := 0, locals := 0 } : Room).slots) := by
  refine MetFree.of_bodySF (plainFor_of_name pn_19) hisR ?_
  intro p e s m args below meth c s₁ Bd hml0 hP hK
  obtain ⟨rfl, hZ, hh⟩ := hP
  have hx := Bd.exec
  have hby := Bd.bytes
  have hml : c.maxLocals = 1 := hml0
  have hown : s.vm.findClass "com/example/matchstone/matchstone/LevelIndex$Node" = some m.cls := findClass_of_methodNamed Bd.named
  have hnm := (name_of_methodNamed Bd.named Bd.method).1
  have X0 : Stand p l e ({ frames := 0, cells := 0, slots := 0, locals := 0 } : Room) s m #[(.ref nd)] below meth c s₁ [] 0 0 := Stand.of_body Bd
  have e0 : s₁.heap = h0 := by rw [← hh, Bd.state]; rfl
  have N0 := Fr.nil n0
  have K0 := Keep.refl h0 ([nd] : List Addr)
  show Go p e below s (Q19 Z nd kr lr h0 n0) ({ frames := 0, cells := 0, slots := 0, locals := 0 } : Room).cells ({ frames := 0, cells := 0, slots := 0, locals := 0 } : Room).slots (s₁.setTop (entryFrame m #[(.ref nd)] 1))
  rw [ef_19]
  show Go _ _ _ _ _ _ _ (s₁.setTop (mkF m 0 #[.val (.ref nd)] []))
  refine Go.step (fun t k => XS.aloadN X0.here hx rfl (hb hby d19_0) rfl rfl k) ?_
  show Go _ _ _ _ _ _ _ (s₁.setTop (mkF m 1 #[.val (.ref nd)] [(.ref nd)]))
  obtain ⟨T1, X1, e1, st1⟩ := getF X0 hx hZ hown (host := "") (Or.inl (hw _ (List.mem_of_getElem? (i := 119) rfl))) Via.refl e0 F_previous_nd (g := (mkF m 1 #[.val (.ref nd)] [(.ref nd)])) rfl rfl (hb hby d19_1)
  refine Go.step st1 ?_
  show Go _ _ _ _ _ _ _ (T1.setTop (mkF m 4 #[.val (.ref nd)] [.null]))
  refine Go.step (fun t k => XS.ifnullYes X1.here hx rfl (pc0 := 4) (pc' := 18) rfl (hb hby d19_4) rfl (by decide) (by decide) k) ?_
  show Go _ _ _ _ _ _ _ (T1.setTop (mkF m 18 #[.val (.ref nd)] []))
  refine Go.step (fun t k => XS.aloadN X1.here hx rfl (hb hby d19_18) rfl rfl k) ?_
  show Go _ _ _ _ _ _ _ (T1.setTop (mkF m 19 #[.val (.ref nd)] [(.ref nd)]))
  obtain ⟨T2, X2, e2, st2⟩ := getF X1 hx hZ hown (host := "") (Or.inl (hw _ (List.mem_of_getElem? (i := 120) rfl))) Via.refl e1 F_next_nd (g := (mkF m 19 #[.val (.ref nd)] [(.ref nd)])) rfl rfl (hb hby d19_19)
  refine Go.step st2 ?_
  show Go _ _ _ _ _ _ _ (T2.setTop (mkF m 22 #[.val (.ref nd)] [.null]))
  refine Go.step (fun t k => XS.ifnullYes X2.here hx rfl (pc0 := 22) (pc' := 36) rfl (hb hby d19_22) rfl (by decide) (by decide) k) ?_
  show Go _ _ _ _ _ _ _ (T2.setTop (mkF m 36 #[.val (.ref nd)] []))
  refine Go.step (fun t k => XS.aloadN X2.here hx rfl (hb hby d19_36) rfl rfl (XS.aconstNull X2.here hx rfl (hb hby d19_37) k)) ?_
  show Go _ _ _ _ _ _ _ (T2.setTop (mkF m 38 #[.val (.ref nd)] [.null, (.ref nd)]))
  obtain ⟨T3, h3, X3, e3, W3, st3⟩ := putF X2 hx hZ hown (host := "") (Or.inl (hw _ (List.mem_of_getElem? (i := 119) rfl))) Via.refl e2 F_previous_nd E_nd (Or.inl (hw _ (List.mem_of_getElem? (i := 103) rfl))) (hw _ (List.mem_of_getElem? (i := 14) rfl)) (ty := (.object "com/example/matchstone/matchstone/LevelIndex$Node")) (by decide) rfl rfl (g := (mkF m 38 #[.val (.ref nd)] [.null, (.ref nd)])) rfl rfl (hb hby d19_38)
  replace F_keys_nd := F_keys_nd.other W3 (Or.inr (slot_ne (Or.inr (hw _ (List.mem_of_getElem? (i := 23) rfl))) (Or.inl (hw _ (List.mem_of_getElem? (i := 103) rfl))) (by decide) (t := (.array .long)) (t' := (.object "com/example/matchstone/matchstone/LevelIndex$Node")) (by decide) (by decide)))
  replace F_levels_nd := F_levels_nd.other W3 (Or.inr (slot_ne (Or.inr (hw _ (List.mem_of_getElem? (i := 25) rfl))) (Or.inl (hw _ (List.mem_of_getElem? (i := 103) rfl))) (by decide) (t := (.array (.object "com/example/matchstone/matchstone/PriceLevel"))) (t' := (.object "com/example/matchstone/matchstone/LevelIndex$Node")) (by decide) (by decide)))
  replace F_children_nd := F_children_nd.other W3 (Or.inr (slot_ne (Or.inr (hw _ (List.mem_of_getElem? (i := 27) rfl))) (Or.inl (hw _ (List.mem_of_getElem? (i := 103) rfl))) (by decide) (t := (.array (.object "com/example/matchstone/matchstone/LevelIndex$Node"))) (t' := (.object "com/example/matchstone/matchstone/LevelIndex$Node")) (by decide) (by decide)))
  replace F_size_nd := F_size_nd.other W3 (Or.inr (slot_ne (Or.inl (hw _ (List.mem_of_getElem? (i := 49) rfl))) (Or.inl (hw _ (List.mem_of_getElem? (i := 103) rfl))) (by decide) (t := .int) (t' := (.object "com/example/matchstone/matchstone/LevelIndex$Node")) (by decide) (by decide)))
  replace F_next_nd := F_next_nd.other W3 (Or.inr (slot_ne (Or.inl (hw _ (List.mem_of_getElem? (i := 121) rfl))) (Or.inl (hw _ (List.mem_of_getElem? (i := 103) rfl))) (by decide) (t := (.object "com/example/matchstone/matchstone/LevelIndex$Node")) (t' := (.object "com/example/matchstone/matchstone/LevelIndex$Node")) (by decide) (by decide)))
  replace E_nd := E_nd.wr W3
  have Z3 := Nat.le_trans Z0 (Keep.of_wr W3).1
  have N3 := Fr.snoc X3 N0 g_nd
  have K3 := K0.wr W3 (Or.inl (List.mem_of_getElem? (i := 0) rfl))
  replace F_previous_nd := F_previous_nd.same W3
  refine Go.step st3 ?_
  show Go _ _ _ _ _ _ _ (T3.setTop (mkF m 41 #[.val (.ref nd)] []))
  refine Go.step (fun t k => XS.aloadN X3.here hx rfl (hb hby d19_41) rfl rfl (XS.aconstNull X3.here hx rfl (hb hby d19_42) k)) ?_
  show Go _ _ _ _ _ _ _ (T3.setTop (mkF m 43 #[.val (.ref nd)] [.null, (.ref nd)]))
  obtain ⟨T4, h4, X4, e4, W4, st4⟩ := putF X3 hx hZ hown (host := "") (Or.inl (hw _ (List.mem_of_getElem? (i := 120) rfl))) Via.refl e3 F_next_nd E_nd (Or.inl (hw _ (List.mem_of_getElem? (i := 121) rfl))) (hw _ (List.mem_of_getElem? (i := 14) rfl)) (ty := (.object "com/example/matchstone/matchstone/LevelIndex$Node")) (by decide) rfl rfl (g := (mkF m 43 #[.val (.ref nd)] [.null, (.ref nd)])) rfl rfl (hb hby d19_43)
  replace F_keys_nd := F_keys_nd.other W4 (Or.inr (slot_ne (Or.inr (hw _ (List.mem_of_getElem? (i := 23) rfl))) (Or.inl (hw _ (List.mem_of_getElem? (i := 121) rfl))) (by decide) (t := (.array .long)) (t' := (.object "com/example/matchstone/matchstone/LevelIndex$Node")) (by decide) (by decide)))
  replace F_levels_nd := F_levels_nd.other W4 (Or.inr (slot_ne (Or.inr (hw _ (List.mem_of_getElem? (i := 25) rfl))) (Or.inl (hw _ (List.mem_of_getElem? (i := 121) rfl))) (by decide) (t := (.array (.object "com/example/matchstone/matchstone/PriceLevel"))) (t' := (.object "com/example/matchstone/matchstone/LevelIndex$Node")) (by decide) (by decide)))
  replace F_children_nd := F_children_nd.other W4 (Or.inr (slot_ne (Or.inr (hw _ (List.mem_of_getElem? (i := 27) rfl))) (Or.inl (hw _ (List.mem_of_getElem? (i := 121) rfl))) (by decide) (t := (.array (.object "com/example/matchstone/matchstone/LevelIndex$Node"))) (t' := (.object "com/example/matchstone/matchstone/LevelIndex$Node")) (by decide) (by decide)))
  replace F_size_nd := F_size_nd.other W4 (Or.inr (slot_ne (Or.inl (hw _ (List.mem_of_getElem? (i := 49) rfl))) (Or.inl (hw _ (List.mem_of_getElem? (i := 121) rfl))) (by decide) (t := .int) (t' := (.object "com/example/matchstone/matchstone/LevelIndex$Node")) (by decide) (by decide)))
  replace F_previous_nd := F_previous_nd.other W4 (Or.inr (slot_ne (Or.inl (hw _ (List.mem_of_getElem? (i := 103) rfl))) (Or.inl (hw _ (List.mem_of_getElem? (i := 121) rfl))) (by decide) (t := (.object "com/example/matchstone/matchstone/LevelIndex$Node")) (t' := (.object "com/example/matchstone/matchstone/LevelIndex$Node")) (by decide) (by decide)))
  replace E_nd := E_nd.wr W4
  have Z4 := Nat.le_trans Z3 (Keep.of_wr W4).1
  have N4 := Fr.snoc X4 N3 g_nd
  have K4 := K3.wr W4 (Or.inl (List.mem_of_getElem? (i := 0) rfl))
  replace F_next_nd := F_next_nd.same W4
  refine Go.step st4 ?_
  show Go _ _ _ _ _ _ _ (T4.setTop (mkF m 46 #[.val (.ref nd)] []))
  refine Go.retV X4 Bd.notSynchronized hx Bd.returns (hb hby d19_46) (by decide) (by decide) ?_
  rw [e4]
  exact ⟨rfl, N4, K4, F_keys_nd, F_levels_nd, F_children_nd, F_size_nd, F_next_nd, F_previous_nd, E_nd⟩
theorem d18_0 : decode prog_23_method_5_code 0 = .ok (.aload_n 0, 1) := by decide +kernel
theorem d18_1 : decode prog_23_method_5_code 1 = .ok (.invokevirtual 28, 3) := by decide +kernel
theorem d18_4 : decode prog_23_method_5_code 4 = .ok (.ifCond .eq 18, 3) := by decide +kernel
theorem d18_7 : decode prog_23_method_5_code 7 = .ok (.aload_n 0, 1) := by decide +kernel
theorem d18_8 : decode prog_23_method_5_code 8 = .ok (.getfield 32, 3) := by decide +kernel
theorem d18_11 : decode prog_23_method_5_code 11 = .ok (.ifCond .ne 7, 3) := by decide +kernel
theorem d18_14 : decode prog_23_method_5_code 14 = .ok (.iconst 1, 1) := by decide +kernel
theorem d18_15 : decode prog_23_method_5_code 15 = .ok (.goto 21, 3) := by decide +kernel
theorem d18_36 : decode prog_23_method_5_code 36 = .ok (.ireturn, 1) := by decide +kernel
theorem pn_18_0 : plainName "com/example/matchstone/matchstone/LevelIndex$Node" = true := by first | (simp [plainName, overriddenIn]; done) | decide +kernel
theorem pd_18_0_0 : parseMethodDescriptor "()Z" = some ⟨[], some .boolean⟩ := by decide +kernel
theorem ef_18_0 (m : MethodId) (x0 : Addr) : entryFrame m #[(.ref x0)] 1 = mkF m 0 #[.val (.ref x0)] [] := by first | (simp [entryFrame, mkF, argsToLocals, Value.category]; done) | rfl
def Q18_0 (Z : State) (nd : Addr) (lr : Addr) (h0 : Heap) (n0 : Nat) (v : Option Value) (h : Heap) (L : List Loc) : Prop := v = some (.int (1 : Int32)) ∧ Fr n0 L ∧ h = h0
set_option maxRecDepth 65536 in
set_option maxHeartbeats 40000000 in
theorem rm18_0 (l : Launch) (Z : State) (a0 : Array Value) (hw : ∀ d ∈ tables_1, d.before a0 Z = true) (ws : List Jvm.Cond) (nd : Addr) (lr : Addr) (h0 : Heap) (n0 : Nat) (Z0 : n0 ≤ h0.size) (F_levels_nd : Fld Z h0 nd "com/example/matchstone/matchstone/LevelIndex$Node" "levels" "[Lcom/example/matchstone/matchstone/PriceLevel;" (.ref lr)) (F_size_nd : Fld Z h0 nd "com/example/matchstone/matchstone/LevelIndex$Node" "size" "I" (.int (0 : Int32))) (E_nd : Exa Z h0 nd "com/example/matchstone/matchstone/LevelIndex$Node") :
    MetFree l (⟨"com/example/matchstone/matchstone/LevelIndex$Node", "isEmpty", "()Z"⟩ : MethodName) (head1 (Jvm.Cond.code (⟨"com/example/matchstone/matchstone/LevelIndex$Node", "isEmpty", "()Z"⟩ : MethodName) prog_23_method_5_code 1 (some .boolean) :: ws) ({ frames := 1, cells := 0, slots := 0, locals := 12 } : Room)) (fun a U => a = #[(.ref nd)] ∧ Z.Warmed39 U.vm ∧ U.heap = h0) (fun _ _ _ _ _ => True) (fun _ U o U' => ∃ v L, o = .returned v ∧ Q18_0 Z nd lr h0 n0 v U'.heap L ∧ FrameEnd U o U' L ({ frames := 1, cells := 0, slots := 0, locals := 12 } : Room).cells ({ frames := 1, cells := 0, slots := 0, locals := 12 } : Room).slots) := by
  refine MetFree.of_bodySF (plainFor_of_name pn_18_0) hisR ?_
  intro p e s m args below meth c s₁ Bd hml0 hP hK
  obtain ⟨rfl, hZ, hh⟩ := hP
  have hx := Bd.exec
  have hby := Bd.bytes
  have hml : c.maxLocals = 1 := hml0
  have hown : s.vm.findClass "com/example/matchstone/matchstone/LevelIndex$Node" = some m.cls := findClass_of_methodNamed Bd.named
  have hnm := (name_of_methodNamed Bd.named Bd.method).1
  have X0 : Stand p l e ({ frames := 1, cells := 0, slots := 0, locals := 12 } : Room) s m #[(.ref nd)] below meth c s₁ [] 0 0 := Stand.of_body Bd
  have e0 : s₁.heap = h0 := by rw [← hh, Bd.state]; rfl
  have N0 := Fr.nil n0
  show Go p e below s (Q18_0 Z nd lr h0 n0) ({ frames := 1, cells := 0, slots := 0, locals := 12 } : Room).cells ({ frames := 1, cells := 0, slots := 0, locals := 12 } : Room).slots (s₁.setTop (entryFrame m #[(.ref nd)] 1))
  rw [ef_18_0]
  show Go _ _ _ _ _ _ _ (s₁.setTop (mkF m 0 #[.val (.ref nd)] []))
  refine Go.step (fun t k => XS.aloadN X0.here hx rfl (hb hby d18_0) rfl rfl k) ?_
  show Go _ _ _ _ _ _ _ (s₁.setTop (mkF m 1 #[.val (.ref nd)] [(.ref nd)]))
  obtain ⟨cq1, kq1, q1a, q1b, q1c⟩ := isOf hZ e0 E_nd
  obtain ⟨_, _, ⟨T1, L1, k1, n1⟩, -, X1, ⟨Lc1, hQ1, l1, y1, z1⟩, st1⟩ := X0.virtualBack hx (y := (⟨"com/example/matchstone/matchstone/LevelIndex$Node", "isLeaf", "()Z"⟩ : MethodName)) (z := (⟨"com/example/matchstone/matchstone/LevelIndex$Node", "isLeaf", "()Z"⟩ : MethodName)) hown (mvT hZ (hw _ (List.mem_of_getElem? (i := 114) rfl))) (mvT hZ (hw _ (List.mem_of_getElem? (i := 67) rfl))) (notFace_of_selects (args := #[]) (mvT hZ (hw _ (List.mem_of_getElem? (i := 69) rfl)))) (mvT hZ (hw _ (List.mem_of_getElem? (i := 69) rfl))) (mvT hZ (hw _ (List.mem_of_getElem? (i := 68) rfl))) (by decide) (backOf (W := 0) (rm9 l Z a0 hw [] nd lr h0 n0 Z0 F_levels_nd) hZ (hw _ (List.mem_of_getElem? (i := 70) rfl)) (hw _ (List.mem_of_getElem? (i := 11) rfl)) (by decide) (by decide)) q1a q1c (g := (mkF m 1 #[.val (.ref nd)] [(.ref nd)])) rfl (by rw [hml]; rfl) (Steps.refl _) (argsL := []) (rest := []) (lenOf pd_18_0_0 rfl) rfl (by show 2 * 0 + _ ≤ _; exact Nat.le_of_eq rfl) (hb hby d18_1) (fun _ _ => ⟨rfl, e0, (by decide : 0 + 0 ≤ _), (by decide : 0 + 0 ≤ _)⟩)
  dsimp only [Pt.U, Pt.locs, Pt.cells, Pt.slots] at X1 l1 y1 z1 st1 hQ1
  subst l1 y1 z1
  obtain ⟨rfl, N1q, K1q⟩ := hQ1
  have N1 := Fr.app N0 N1q
  refine Go.step (fun t k => st1.trans k) ?_
  show Go _ _ _ _ _ _ _ (T1.setTop (mkF m 4 #[.val (.ref nd)] [(.int (1 : Int32))]))
  refine Go.step (fun t k => XS.ifNo X1.here hx rfl (hb hby d18_4) rfl ((if0 _ _).trans (feq (by decide : ¬ (1 : Int32) = (0 : Int32))).1) k) ?_
  show Go _ _ _ _ _ _ _ (T1.setTop (mkF m 7 #[.val (.ref nd)] []))
  refine Go.step (fun t k => XS.aloadN X1.here hx rfl (hb hby d18_7) rfl rfl k) ?_
  show Go _ _ _ _ _ _ _ (T1.setTop (mkF m 8 #[.val (.ref nd)] [(.ref nd)]))
  obtain ⟨T2, X2, e2, st2⟩ := getF X1 hx hZ hown (host := "") (Or.inl (hw _ (List.mem_of_getElem? (i := 55) rfl))) Via.refl K1q F_size_nd (g := (mkF m 8 #[.val (.ref nd)] [(.ref nd)])) rfl rfl (hb hby d18_8)
  refine Go.step st2 ?_
  show Go _ _ _ _ _ _ _ (T2.setTop (mkF m 11 #[.val (.ref nd)] [(.int (0 : Int32))]))
  refine Go.step (fun t k => XS.ifNo X2.here hx rfl (hb hby d18_11) rfl ((if0 _ _).trans (teq (by decide : (0 : Int32) = (0 : Int32))).2) k) ?_
  show Go _ _ _ _ _ _ _ (T2.setTop (mkF m 14 #[.val (.ref nd)] []))
  refine Go.step (fun t k => XS.iconst X2.here hx rfl (hb hby d18_14) k) ?_
  show Go _ _ _ _ _ _ _ (T2.setTop (mkF m 15 #[.val (.ref nd)] [(.int (1 : Int32))]))
  refine Go.step (fun t k => XS.goto X2.here hx rfl (pc0 := 15) (pc' := 36) rfl (hb hby d18_15) (by decide) (by decide) k) ?_
  show Go _ _ _ _ _ _ _ (T2.setTop (mkF m 36 #[.val (.ref nd)] [(.int (1 : Int32))]))
  refine Go.retN X2 Bd.notSynchronized hx (t := .boolean) Bd.returns (by simp) (hb hby d18_36) (by decide) (by decide) (1 : Int32) rfl ?_
  rw [e2]
  exact ⟨rfl, N1, rfl⟩
theorem d18_18 : decode prog_23_method_5_code 18 = .ok (.iconst 0, 1) := by decide +kernel
theorem d18_19 : decode prog_23_method_5_code 19 = .ok (.goto 17, 3) := by decide +kernel
theorem pn_18 : plainName "com/example/matchstone/matchstone/LevelIndex$Node" = true := by first | (simp [plainName, overriddenIn]; done) | decide +kernel
theorem pd_18_0 : parseMethodDescriptor "()Z" = some ⟨[], some .boolean⟩ := by decide +kernel
theorem ef_18 (m : MethodId) (x0 : Addr) : entryFrame m #[(.ref x0)] 1 = mkF m 0 #[.val (.ref x0)] [] := by first | (simp [entryFrame, mkF, argsToLocals, Value.category]; done) | rfl
def Q18 (Z : State) (nd : Addr) (lr : Addr) (sz : Int32) (h0 : Heap) (n0 : Nat) (v : Option Value) (h : Heap) (L : List Loc) : Prop := v = some (.int (0 : Int32)) ∧ Fr n0 L ∧ h = h0
set_option maxRecDepth 65536 in
set_option maxHeartbeats 40000000 in
theorem rm18 (l : Launch) (Z : State) (a0 : Array Value) (hw : ∀ d ∈ tables_1, d.before a0 Z = true) (ws : List Jvm.Cond) (nd : Addr) (lr : Addr) (sz : Int32) (h0 : Heap) (n0 : Nat) (Z0 : n0 ≤ h0.size) (F_levels_nd : Fld Z h0 nd "com/example/matchstone/matchstone/LevelIndex$Node" "levels" "[Lcom/example/matchstone/matchstone/PriceLevel;" (.ref lr)) (F_size_nd : Fld Z h0 nd "com/example/matchstone/matchstone/LevelIndex$Node" "size" "I" (.int sz)) (E_nd : Exa Z h0 nd "com/example/matchstone/matchstone/LevelIndex$Node") (hnz : (¬ sz = (0 : Int32))) :
    MetFree l (⟨"com/example/matchstone/matchstone/LevelIndex$Node", "isEmpty", "()Z"⟩ : MethodName) (head1 (Jvm.Cond.code (⟨"com/example/matchstone/matchstone/LevelIndex$Node", "isEmpty", "()Z"⟩ : MethodName) prog_23_method_5_code 1 (some .boolean) :: ws) ({ frames := 1, cells := 0, slots := 0, locals := 12 } : Room)) (fun a U => a = #[(.ref nd)] ∧ Z.Warmed39 U.vm ∧ U.heap = h0) (fun _ _ _ _ _ => True) (fun _ U o U' => ∃ v L, o = .returned v ∧ Q18 Z nd lr sz h0 n0 v U'.heap L ∧ FrameEnd U o U' L ({ frames := 1, cells := 0, slots := 0, locals := 12 } : Room).cells ({ frames := 1, cells := 0, slots := 0, locals := 12 } : Room).slots) := by
  refine MetFree.of_bodySF (plainFor_of_name pn_18) hisR ?_
  intro p e s m args below meth c s₁ Bd hml0 hP hK
  obtain ⟨rfl, hZ, hh⟩ := hP
  have hx := Bd.exec
  have hby := Bd.bytes
  have hml : c.maxLocals = 1 := hml0
  have hown : s.vm.findClass "com/example/matchstone/matchstone/LevelIndex$Node" = some m.cls := findClass_of_methodNamed Bd.named
  have hnm := (name_of_methodNamed Bd.named Bd.method).1
  have X0 : Stand p l e ({ frames := 1, cells := 0, slots := 0, locals := 12 } : Room) s m #[(.ref nd)] below meth c s₁ [] 0 0 := Stand.of_body Bd
  have e0 : s₁.heap = h0 := by rw [← hh, Bd.state]; rfl
  have N0 := Fr.nil n0
  show Go p e below s (Q18 Z nd lr sz h0 n0) ({ frames := 1, cells := 0, slots := 0, locals := 12 } : Room).cells ({ frames := 1, cells := 0, slots := 0, locals := 12 } : Room).slots (s₁.setTop (entryFrame m #[(.ref nd)] 1))
  rw [ef_18]
  show Go _ _ _ _ _ _ _ (s₁.setTop (mkF m 0 #[.val (.ref nd)] []))
  refine Go.step (fun t k => XS.aloadN X0.here hx rfl (hb hby d18_0) rfl rfl k) ?_
  show Go _ _ _ _ _ _ _ (s₁.setTop (mkF m 1 #[.val (.ref nd)] [(.ref nd)]))
  obtain ⟨cq1, kq1, q1a, q1b, q1c⟩ := isOf hZ e0 E_nd
  obtain ⟨_, _, ⟨T1, L1, k1, n1⟩, -, X1, ⟨Lc1, hQ1, l1, y1, z1⟩, st1⟩ := X0.virtualBack hx (y := (⟨"com/example/matchstone/matchstone/LevelIndex$Node", "isLeaf", "()Z"⟩ : MethodName)) (z := (⟨"com/example/matchstone/matchstone/LevelIndex$Node", "isLeaf", "()Z"⟩ : MethodName)) hown (mvT hZ (hw _ (List.mem_of_getElem? (i := 114) rfl))) (mvT hZ (hw _ (List.mem_of_getElem? (i := 67) rfl))) (notFace_of_selects (args := #[]) (mvT hZ (hw _ (List.mem_of_getElem? (i := 69) rfl)))) (mvT hZ (hw _ (List.mem_of_getElem? (i := 69) rfl))) (mvT hZ (hw _ (List.mem_of_getElem? (i := 68) rfl))) (by decide) (backOf (W := 0) (rm9 l Z a0 hw [] nd lr h0 n0 Z0 F_levels_nd) hZ (hw _ (List.mem_of_getElem? (i := 70) rfl)) (hw _ (List.mem_of_getElem? (i := 11) rfl)) (by decide) (by decide)) q1a q1c (g := (mkF m 1 #[.val (.ref nd)] [(.ref nd)])) rfl (by rw [hml]; rfl) (Steps.refl _) (argsL := []) (rest := []) (lenOf pd_18_0 rfl) rfl (by show 2 * 0 + _ ≤ _; exact Nat.le_of_eq rfl) (hb hby d18_1) (fun _ _ => ⟨rfl, e0, (by decide : 0 + 0 ≤ _), (by decide : 0 + 0 ≤ _)⟩)
  dsimp only [Pt.U, Pt.locs, Pt.cells, Pt.slots] at X1 l1 y1 z1 st1 hQ1
  subst l1 y1 z1
  obtain ⟨rfl, N1q, K1q⟩ := hQ1
  have N1 := Fr.app N0 N1q
  refine Go.step (fun t k => st1.trans k) ?_
  show Go _ _ _ _ _ _ _ (T1.setTop (mkF m 4 #[.val (.ref nd)] [(.int (1 : Int32))]))
  refine Go.step (fun t k => XS.ifNo X1.here hx rfl (hb hby d18_4) rfl ((if0 _ _).trans (feq (by decide : ¬ (1 : Int32) = (0 : Int32))).1) k) ?_
  show Go _ _ _ _ _ _ _ (T1.setTop (mkF m 7 #[.val (.ref nd)] []))
  refine Go.step (fun t k => XS.aloadN X1.here hx rfl (hb hby d18_7) rfl rfl k) ?_
  show Go _ _ _ _ _ _ _ (T1.setTop (mkF m 8 #[.val (.ref nd)] [(.ref nd)]))
  obtain ⟨T2, X2, e2, st2⟩ := getF X1 hx hZ hown (host := "") (Or.inl (hw _ (List.mem_of_getElem? (i := 55) rfl))) Via.refl K1q F_size_nd (g := (mkF m 8 #[.val (.ref nd)] [(.ref nd)])) rfl rfl (hb hby d18_8)
  refine Go.step st2 ?_
  show Go _ _ _ _ _ _ _ (T2.setTop (mkF m 11 #[.val (.ref nd)] [(.int sz)]))
  refine Go.step (fun t k => XS.ifYes X2.here hx rfl (pc0 := 11) (pc' := 18) rfl (hb hby d18_11) rfl ((if0 _ _).trans (feq (hnz : ¬ sz = (0 : Int32))).2) (by decide) (by decide) k) ?_
  show Go _ _ _ _ _ _ _ (T2.setTop (mkF m 18 #[.val (.ref nd)] []))
  refine Go.step (fun t k => XS.iconst X2.here hx rfl (hb hby d18_18) k) ?_
  show Go _ _ _ _ _ _ _ (T2.setTop (mkF m 19 #[.val (.ref nd)] [(.int (0 : Int32))]))
  refine Go.step (fun t k => XS.goto X2.here hx rfl (pc0 := 19) (pc' := 36) rfl (hb hby d18_19) (by decide) (by decide) k) ?_
  show Go _ _ _ _ _ _ _ (T2.setTop (mkF m 36 #[.val (.ref nd)] [(.int (0 : Int32))]))
  refine Go.retN X2 Bd.notSynchronized hx (t := .boolean) Bd.returns (by simp) (hb hby d18_36) (by decide) (by decide) (0 : Int32) rfl ?_
  rw [e2]
  exact ⟨rfl, N1, rfl⟩
theorem d17_0 : decode prog_23_method_7_code 0 = .ok (.aload_n 0, 1) := by decide +kernel
theorem d17_1 : decode prog_23_method_7_code 1 = .ok (.dup, 1) := by decide +kernel
theorem d17_2 : decode prog_23_method_7_code 2 = .ok (.getfield 32, 3) := by decide +kernel
theorem d17_5 : decode prog_23_method_7_code 5 = .ok (.iconst 1, 1) := by decide +kernel
theorem d17_6 : decode prog_23_method_7_code 6 = .ok (.isub, 1) := by decide +kernel
theorem d17_7 : decode prog_23_method_7_code 7 = .ok (.putfield 32, 3) := by decide +kernel
theorem d17_10 : decode prog_23_method_7_code 10 = .ok (.aload_n 0, 1) := by decide +kernel
theorem d17_11 : decode prog_23_method_7_code 11 = .ok (.getfield 9, 3) := by decide +kernel
theorem d17_14 : decode prog_23_method_7_code 14 = .ok (.iload_n 1, 1) := by decide +kernel
theorem d17_15 : decode prog_23_method_7_code 15 = .ok (.iconst 1, 1) := by decide +kernel
theorem d17_16 : decode prog_23_method_7_code 16 = .ok (.iadd, 1) := by decide +kernel
theorem d17_17 : decode prog_23_method_7_code 17 = .ok (.aload_n 0, 1) := by decide +kernel
theorem d17_18 : decode prog_23_method_7_code 18 = .ok (.getfield 9, 3) := by decide +kernel
theorem d17_21 : decode prog_23_method_7_code 21 = .ok (.iload_n 1, 1) := by decide +kernel
theorem d17_22 : decode prog_23_method_7_code 22 = .ok (.aload_n 0, 1) := by decide +kernel
theorem d17_23 : decode prog_23_method_7_code 23 = .ok (.getfield 32, 3) := by decide +kernel
theorem d17_26 : decode prog_23_method_7_code 26 = .ok (.iload_n 1, 1) := by decide +kernel
theorem d17_27 : decode prog_23_method_7_code 27 = .ok (.isub, 1) := by decide +kernel
theorem d17_28 : decode prog_23_method_7_code 28 = .ok (.invokestatic 36, 3) := by decide +kernel
theorem d17_31 : decode prog_23_method_7_code 31 = .ok (.aload_n 0, 1) := by decide +kernel
theorem d17_32 : decode prog_23_method_7_code 32 = .ok (.getfield 15, 3) := by decide +kernel
theorem d17_35 : decode prog_23_method_7_code 35 = .ok (.iload_n 1, 1) := by decide +kernel
theorem d17_36 : decode prog_23_method_7_code 36 = .ok (.iconst 1, 1) := by decide +kernel
theorem d17_37 : decode prog_23_method_7_code 37 = .ok (.iadd, 1) := by decide +kernel
theorem d17_38 : decode prog_23_method_7_code 38 = .ok (.aload_n 0, 1) := by decide +kernel
theorem d17_39 : decode prog_23_method_7_code 39 = .ok (.getfield 15, 3) := by decide +kernel
theorem d17_42 : decode prog_23_method_7_code 42 = .ok (.iload_n 1, 1) := by decide +kernel
theorem d17_43 : decode prog_23_method_7_code 43 = .ok (.aload_n 0, 1) := by decide +kernel
theorem d17_44 : decode prog_23_method_7_code 44 = .ok (.getfield 32, 3) := by decide +kernel
theorem d17_47 : decode prog_23_method_7_code 47 = .ok (.iload_n 1, 1) := by decide +kernel
theorem d17_48 : decode prog_23_method_7_code 48 = .ok (.isub, 1) := by decide +kernel
theorem d17_49 : decode prog_23_method_7_code 49 = .ok (.invokestatic 36, 3) := by decide +kernel
theorem d17_52 : decode prog_23_method_7_code 52 = .ok (.aload_n 0, 1) := by decide +kernel
theorem d17_53 : decode prog_23_method_7_code 53 = .ok (.getfield 15, 3) := by decide +kernel
theorem d17_56 : decode prog_23_method_7_code 56 = .ok (.aload_n 0, 1) := by decide +kernel
theorem d17_57 : decode prog_23_method_7_code 57 = .ok (.getfield 32, 3) := by decide +kernel
theorem d17_60 : decode prog_23_method_7_code 60 = .ok (.aconst_null, 1) := by decide +kernel
theorem d17_61 : decode prog_23_method_7_code 61 = .ok (.aastore, 1) := by decide +kernel
theorem d17_62 : decode prog_23_method_7_code 62 = .ok (.aload_n 0, 1) := by decide +kernel
theorem d17_63 : decode prog_23_method_7_code 63 = .ok (.getfield 32, 3) := by decide +kernel
theorem d17_66 : decode prog_23_method_7_code 66 = .ok (.ifCond .ne 7, 3) := by decide +kernel
theorem d17_69 : decode prog_23_method_7_code 69 = .ok (.aload_n 0, 1) := by decide +kernel
theorem d17_70 : decode prog_23_method_7_code 70 = .ok (.invokevirtual 42, 3) := by decide +kernel
theorem d17_73 : decode prog_23_method_7_code 73 = .ok (.return_, 1) := by decide +kernel
theorem pn_17_1 : plainName "com/example/matchstone/matchstone/LevelIndex$Node" = true := by first | (simp [plainName, overriddenIn]; done) | decide +kernel
theorem pd_17_0_1 : parseMethodDescriptor "()V" = some ⟨[], none⟩ := by decide +kernel
theorem ef_17_1 (m : MethodId) (x0 : Addr) (x1 : Int32) : entryFrame m #[(.ref x0), (.int x1)] 2 = mkF m 0 #[.val (.ref x0), .val (.int x1)] [] := by first | (simp [entryFrame, mkF, argsToLocals, Value.category]; done) | rfl
def Q17_1 (Z : State) (nd : Addr) (ii : Int32) (kr : Addr) (lr : Addr) (gk : Nat → Int64) (gl : Nat → Value) (im : Nat) (h0 : Heap) (n0 : Nat) (v : Option Value) (h : Heap) (L : List Loc) : Prop := v = none ∧ Fr n0 L ∧ Keep h0 h [nd, kr, lr] ∧ Fld Z h nd "com/example/matchstone/matchstone/LevelIndex$Node" "keys" "[J" (.ref kr) ∧ Fld Z h nd "com/example/matchstone/matchstone/LevelIndex$Node" "levels" "[Lcom/example/matchstone/matchstone/PriceLevel;" (.ref lr) ∧ Fld Z h nd "com/example/matchstone/matchstone/LevelIndex$Node" "children" "[Lcom/example/matchstone/matchstone/LevelIndex$Node;" .null ∧ Fld Z h nd "com/example/matchstone/matchstone/LevelIndex$Node" "size" "I" (.int (0 : Int32)) ∧ Fld Z h nd "com/example/matchstone/matchstone/LevelIndex$Node" "next" "Lcom/example/matchstone/matchstone/LevelIndex$Node;" .null ∧ Fld Z h nd "com/example/matchstone/matchstone/LevelIndex$Node" "previous" "Lcom/example/matchstone/matchstone/LevelIndex$Node;" .null ∧ Exa Z h nd "com/example/matchstone/matchstone/LevelIndex$Node" ∧ AryJ Z h kr 65 (own_sh gk (im + 1) im (0 - im)) ∧ RAr Z h lr "com/example/matchstone/matchstone/PriceLevel" 65 (up (own_sh gl (im + 1) im (0 - im)) 0 .null)
set_option maxRecDepth 65536 in
set_option maxHeartbeats 40000000 in
theorem rm17_1 (l : Launch) (Z : State) (a0 : Array Value) (hw : ∀ d ∈ tables_1, d.before a0 Z = true) (ws : List Jvm.Cond) (nd : Addr) (ii : Int32) (kr : Addr) (lr : Addr) (gk : Nat → Int64) (gl : Nat → Value) (im : Nat) (h0 : Heap) (n0 : Nat) (Z0 : n0 ≤ h0.size) (F_keys_nd : Fld Z h0 nd "com/example/matchstone/matchstone/LevelIndex$Node" "keys" "[J" (.ref kr)) (F_levels_nd : Fld Z h0 nd "com/example/matchstone/matchstone/LevelIndex$Node" "levels" "[Lcom/example/matchstone/matchstone/PriceLevel;" (.ref lr)) (F_children_nd : Fld Z h0 nd "com/example/matchstone/matchstone/LevelIndex$Node" "children" "[Lcom/example/matchstone/matchstone/LevelIndex$Node;" .null) (F_size_nd : Fld Z h0 nd "com/example/matchstone/matchstone/LevelIndex$Node" "size" "I" (.int (1 : Int32))) (F_next_nd : Fld Z h0 nd "com/example/matchstone/matchstone/LevelIndex$Node" "next" "Lcom/example/matchstone/matchstone/LevelIndex$Node;" .null) (F_previous_nd : Fld Z h0 nd "com/example/matchstone/matchstone/LevelIndex$Node" "previous" "Lcom/example/matchstone/matchstone/LevelIndex$Node;" .null) (E_nd : Exa Z h0 nd "com/example/matchstone/matchstone/LevelIndex$Node") (A_kr : AryJ Z h0 kr 65 gk) (R_lr : RAr Z h0 lr "com/example/matchstone/matchstone/PriceLevel" 65 gl) (g_nd : n0 ≤ nd) (g_kr : n0 ≤ kr) (g_lr : n0 ≤ lr) (ne_kr_lr : kr ≠ lr) (hi : (ii.toInt = (im : Int))) (hin : (im < 1)) :
    MetFree l (⟨"com/example/matchstone/matchstone/LevelIndex$Node", "removeEntry", "(I)V"⟩ : MethodName) (head1 (Jvm.Cond.code (⟨"com/example/matchstone/matchstone/LevelIndex$Node", "removeEntry", "(I)V"⟩ : MethodName) prog_23_method_7_code 2 none :: ws) ({ frames := 1, cells := 0, slots := 0, locals := 40 } : Room)) (fun a U => a = #[(.ref nd), (.int ii)] ∧ Z.Warmed39 U.vm ∧ U.heap = h0) (fun _ _ _ _ _ => True) (fun _ U o U' => ∃ v L, o = .returned v ∧ Q17_1 Z nd ii kr lr gk gl im h0 n0 v U'.heap L ∧ FrameEnd U o U' L ({ frames := 1, cells := 0, slots := 0, locals := 40 } : Room).cells ({ frames := 1, cells := 0, slots := 0, locals := 40 } : Room).slots) := by
  refine MetFree.of_bodySF (plainFor_of_name pn_17_1) hisR ?_
  intro p e s m args below meth c s₁ Bd hml0 hP hK
  obtain ⟨rfl, hZ, hh⟩ := hP
  have hx := Bd.exec
  have hby := Bd.bytes
  have hml : c.maxLocals = 2 := hml0
  have hown : s.vm.findClass "com/example/matchstone/matchstone/LevelIndex$Node" = some m.cls := findClass_of_methodNamed Bd.named
  have hnm := (name_of_methodNamed Bd.named Bd.method).1
  have X0 : Stand p l e ({ frames := 1, cells := 0, slots := 0, locals := 40 } : Room) s m #[(.ref nd), (.int ii)] below meth c s₁ [] 0 0 := Stand.of_body Bd
  have e0 : s₁.heap = h0 := by rw [← hh, Bd.state]; rfl
  have N0 := Fr.nil n0
  have K0 := Keep.refl h0 ([nd, kr, lr] : List Addr)
  show Go p e below s (Q17_1 Z nd ii kr lr gk gl im h0 n0) ({ frames := 1, cells := 0, slots := 0, locals := 40 } : Room).cells ({ frames := 1, cells := 0, slots := 0, locals := 40 } : Room).slots (s₁.setTop (entryFrame m #[(.ref nd), (.int ii)] 2))
  rw [ef_17_1]
  show Go _ _ _ _ _ _ _ (s₁.setTop (mkF m 0 #[.val (.ref nd), .val (.int ii)] []))
  refine Go.step (fun t k => XS.aloadN X0.here hx rfl (hb hby d17_0) rfl rfl (XS.dup X0.here hx rfl (hb hby d17_1) rfl rfl k)) ?_
  show Go _ _ _ _ _ _ _ (s₁.setTop (mkF m 2 #[.val (.ref nd), .val (.int ii)] [(.ref nd), (.ref nd)]))
  obtain ⟨T1, X1, e1, st1⟩ := getF X0 hx hZ hown (host := "") (Or.inl (hw _ (List.mem_of_getElem? (i := 55) rfl))) Via.refl e0 F_size_nd (g := (mkF m 2 #[.val (.ref nd), .val (.int ii)] [(.ref nd), (.ref nd)])) rfl rfl (hb hby d17_2)
  refine Go.step st1 ?_
  show Go _ _ _ _ _ _ _ (T1.setTop (mkF m 5 #[.val (.ref nd), .val (.int ii)] [(.int (1 : Int32)), (.ref nd)]))
  refine Go.step (fun t k => XS.iconst X1.here hx rfl (hb hby d17_5) (XS.isub X1.here hx rfl (hb hby d17_6) rfl k)) ?_
  show Go _ _ _ _ _ _ _ (T1.setTop (mkF m 7 #[.val (.ref nd), .val (.int ii)] [(.int (0 : Int32)), (.ref nd)]))
  obtain ⟨T2, h2, X2, e2, W2, st2⟩ := putF X1 hx hZ hown (host := "") (Or.inl (hw _ (List.mem_of_getElem? (i := 55) rfl))) Via.refl e1 F_size_nd E_nd (Or.inl (hw _ (List.mem_of_getElem? (i := 49) rfl))) (hw _ (List.mem_of_getElem? (i := 14) rfl)) (ty := .int) (by decide) rfl rfl (g := (mkF m 7 #[.val (.ref nd), .val (.int ii)] [(.int (0 : Int32)), (.ref nd)])) rfl rfl (hb hby d17_7)
  have ne_kr_nd : kr ≠ nd := (Ne.symm (own_neA E_nd (hw _ (List.mem_of_getElem? (i := 14) rfl)) A_kr))
  have ne_lr_nd : lr ≠ nd := (Ne.symm (own_neR E_nd (hw _ (List.mem_of_getElem? (i := 14) rfl)) R_lr))
  replace F_keys_nd := F_keys_nd.other W2 (Or.inr (slot_ne (Or.inr (hw _ (List.mem_of_getElem? (i := 23) rfl))) (Or.inl (hw _ (List.mem_of_getElem? (i := 49) rfl))) (by decide) (t := (.array .long)) (t' := .int) (by decide) (by decide)))
  replace F_levels_nd := F_levels_nd.other W2 (Or.inr (slot_ne (Or.inr (hw _ (List.mem_of_getElem? (i := 25) rfl))) (Or.inl (hw _ (List.mem_of_getElem? (i := 49) rfl))) (by decide) (t := (.array (.object "com/example/matchstone/matchstone/PriceLevel"))) (t' := .int) (by decide) (by decide)))
  replace F_children_nd := F_children_nd.other W2 (Or.inr (slot_ne (Or.inr (hw _ (List.mem_of_getElem? (i := 27) rfl))) (Or.inl (hw _ (List.mem_of_getElem? (i := 49) rfl))) (by decide) (t := (.array (.object "com/example/matchstone/matchstone/LevelIndex$Node"))) (t' := .int) (by decide) (by decide)))
  replace F_next_nd := F_next_nd.other W2 (Or.inr (slot_ne (Or.inl (hw _ (List.mem_of_getElem? (i := 121) rfl))) (Or.inl (hw _ (List.mem_of_getElem? (i := 49) rfl))) (by decide) (t := (.object "com/example/matchstone/matchstone/LevelIndex$Node")) (t' := .int) (by decide) (by decide)))
  replace F_previous_nd := F_previous_nd.other W2 (Or.inr (slot_ne (Or.inl (hw _ (List.mem_of_getElem? (i := 103) rfl))) (Or.inl (hw _ (List.mem_of_getElem? (i := 49) rfl))) (by decide) (t := (.object "com/example/matchstone/matchstone/LevelIndex$Node")) (t' := .int) (by decide) (by decide)))
  replace E_nd := E_nd.wr W2
  replace A_kr := A_kr.other W2 ne_kr_nd
  replace R_lr := R_lr.other W2 ne_lr_nd
  have Z2 := Nat.le_trans Z0 (Keep.of_wr W2).1
  have N2 := Fr.snoc X2 N0 g_nd
  have K2 := K0.wr W2 (Or.inl (List.mem_of_getElem? (i := 0) rfl))
  replace F_size_nd := F_size_nd.same W2
  refine Go.step st2 ?_
  show Go _ _ _ _ _ _ _ (T2.setTop (mkF m 10 #[.val (.ref nd), .val (.int ii)] []))
  refine Go.step (fun t k => XS.aloadN X2.here hx rfl (hb hby d17_10) rfl rfl k) ?_
  show Go _ _ _ _ _ _ _ (T2.setTop (mkF m 11 #[.val (.ref nd), .val (.int ii)] [(.ref nd)]))
  obtain ⟨T3, X3, e3, st3⟩ := getF X2 hx hZ hown (host := "") (Or.inl (hw _ (List.mem_of_getElem? (i := 22) rfl))) Via.refl e2 F_keys_nd (g := (mkF m 11 #[.val (.ref nd), .val (.int ii)] [(.ref nd)])) rfl rfl (hb hby d17_11)
  refine Go.step st3 ?_
  show Go _ _ _ _ _ _ _ (T3.setTop (mkF m 14 #[.val (.ref nd), .val (.int ii)] [(.ref kr)]))
  refine Go.step (fun t k => XS.iloadN X3.here hx rfl (hb hby d17_14) rfl (XS.iconst X3.here hx rfl (hb hby d17_15) (XS.iadd X3.here hx rfl (hb hby d17_16) rfl (XS.aloadN X3.here hx rfl (hb hby d17_17) rfl rfl k)))) ?_
  show Go _ _ _ _ _ _ _ (T3.setTop (mkF m 18 #[.val (.ref nd), .val (.int ii)] [(.ref nd), (.int (ii + (1 : Int32))), (.ref kr)]))
  obtain ⟨T4, X4, e4, st4⟩ := getF X3 hx hZ hown (host := "") (Or.inl (hw _ (List.mem_of_getElem? (i := 22) rfl))) Via.refl e3 F_keys_nd (g := (mkF m 18 #[.val (.ref nd), .val (.int ii)] [(.ref nd), (.int (ii + (1 : Int32))), (.ref kr)])) rfl rfl (hb hby d17_18)
  refine Go.step st4 ?_
  show Go _ _ _ _ _ _ _ (T4.setTop (mkF m 21 #[.val (.ref nd), .val (.int ii)] [(.ref kr), (.int (ii + (1 : Int32))), (.ref kr)]))
  refine Go.step (fun t k => XS.iloadN X4.here hx rfl (hb hby d17_21) rfl (XS.aloadN X4.here hx rfl (hb hby d17_22) rfl rfl k)) ?_
  show Go _ _ _ _ _ _ _ (T4.setTop (mkF m 23 #[.val (.ref nd), .val (.int ii)] [(.ref nd), (.int ii), (.ref kr), (.int (ii + (1 : Int32))), (.ref kr)]))
  obtain ⟨T5, X5, e5, st5⟩ := getF X4 hx hZ hown (host := "") (Or.inl (hw _ (List.mem_of_getElem? (i := 55) rfl))) Via.refl e4 F_size_nd (g := (mkF m 23 #[.val (.ref nd), .val (.int ii)] [(.ref nd), (.int ii), (.ref kr), (.int (ii + (1 : Int32))), (.ref kr)])) rfl rfl (hb hby d17_23)
  refine Go.step st5 ?_
  show Go _ _ _ _ _ _ _ (T5.setTop (mkF m 26 #[.val (.ref nd), .val (.int ii)] [(.int (0 : Int32)), (.int ii), (.ref kr), (.int (ii + (1 : Int32))), (.ref kr)]))
  refine Go.step (fun t k => XS.iloadN X5.here hx rfl (hb hby d17_26) rfl (XS.isub X5.here hx rfl (hb hby d17_27) rfl k)) ?_
  show Go _ _ _ _ _ _ _ (T5.setTop (mkF m 28 #[.val (.ref nd), .val (.int ii)] [(.int ((0 : Int32) - ii)), (.int ii), (.ref kr), (.int (ii + (1 : Int32))), (.ref kr)]))
  obtain ⟨T6, h6, Lx6, X6, e6, Nn6, K6q, Fx6, st6⟩ := own_cpJ X5 hx hZ hown (hw _ (List.mem_of_getElem? (i := 56) rfl)) (hw _ (List.mem_of_getElem? (i := 59) rfl)) (hw _ (List.mem_of_getElem? (i := 57) rfl)) (hw _ (List.mem_of_getElem? (i := 58) rfl)) e5 A_kr (im + 1) im (0 - im) (own_p1 hi (by omega)) hi (own_mn (n := 0) rfl hi (by omega) (by omega)) (by omega) (by omega) N2 g_kr (f := (mkF m 28 #[.val (.ref nd), .val (.int ii)] [(.int ((0 : Int32) - ii)), (.int ii), (.ref kr), (.int (ii + (1 : Int32))), (.ref kr)])) rfl (by rw [hml]; rfl) rfl (hb hby d17_28) (by decide) (W := 0) (by show 2 * 0 + _ ≤ _; exact Nat.le_of_eq rfl) (by decide)
  replace F_keys_nd := F_keys_nd.keep K6q (ninS (Ne.symm ne_kr_nd) nin0)
  replace F_levels_nd := F_levels_nd.keep K6q (ninS (Ne.symm ne_kr_nd) nin0)
  replace F_children_nd := F_children_nd.keep K6q (ninS (Ne.symm ne_kr_nd) nin0)
  replace F_size_nd := F_size_nd.keep K6q (ninS (Ne.symm ne_kr_nd) nin0)
  replace F_next_nd := F_next_nd.keep K6q (ninS (Ne.symm ne_kr_nd) nin0)
  replace F_previous_nd := F_previous_nd.keep K6q (ninS (Ne.symm ne_kr_nd) nin0)
  replace E_nd := E_nd.keep K6q
  replace R_lr := R_lr.keep K6q (ninS (Ne.symm ne_kr_lr) nin0)
  have Z6 := Nat.le_trans Z2 K6q.1
  have K6' := K2.trans K6q (allS (Or.inl (List.mem_of_getElem? (i := 1) rfl)) all0)
  have A_kr := Fx6
  refine Go.step st6 ?_
  show Go _ _ _ _ _ _ _ (T6.setTop (mkF m 31 #[.val (.ref nd), .val (.int ii)] []))
  refine Go.step (fun t k => XS.aloadN X6.here hx rfl (hb hby d17_31) rfl rfl k) ?_
  show Go _ _ _ _ _ _ _ (T6.setTop (mkF m 32 #[.val (.ref nd), .val (.int ii)] [(.ref nd)]))
  obtain ⟨T7, X7, e7, st7⟩ := getF X6 hx hZ hown (host := "") (Or.inl (hw _ (List.mem_of_getElem? (i := 24) rfl))) Via.refl e6 F_levels_nd (g := (mkF m 32 #[.val (.ref nd), .val (.int ii)] [(.ref nd)])) rfl rfl (hb hby d17_32)
  refine Go.step st7 ?_
  show Go _ _ _ _ _ _ _ (T7.setTop (mkF m 35 #[.val (.ref nd), .val (.int ii)] [(.ref lr)]))
  refine Go.step (fun t k => XS.iloadN X7.here hx rfl (hb hby d17_35) rfl (XS.iconst X7.here hx rfl (hb hby d17_36) (XS.iadd X7.here hx rfl (hb hby d17_37) rfl (XS.aloadN X7.here hx rfl (hb hby d17_38) rfl rfl k)))) ?_
  show Go _ _ _ _ _ _ _ (T7.setTop (mkF m 39 #[.val (.ref nd), .val (.int ii)] [(.ref nd), (.int (ii + (1 : Int32))), (.ref lr)]))
  obtain ⟨T8, X8, e8, st8⟩ := getF X7 hx hZ hown (host := "") (Or.inl (hw _ (List.mem_of_getElem? (i := 24) rfl))) Via.refl e7 F_levels_nd (g := (mkF m 39 #[.val (.ref nd), .val (.int ii)] [(.ref nd), (.int (ii + (1 : Int32))), (.ref lr)])) rfl rfl (hb hby d17_39)
  refine Go.step st8 ?_
  show Go _ _ _ _ _ _ _ (T8.setTop (mkF m 42 #[.val (.ref nd), .val (.int ii)] [(.ref lr), (.int (ii + (1 : Int32))), (.ref lr)]))
  refine Go.step (fun t k => XS.iloadN X8.here hx rfl (hb hby d17_42) rfl (XS.aloadN X8.here hx rfl (hb hby d17_43) rfl rfl k)) ?_
  show Go _ _ _ _ _ _ _ (T8.setTop (mkF m 44 #[.val (.ref nd), .val (.int ii)] [(.ref nd), (.int ii), (.ref lr), (.int (ii + (1 : Int32))), (.ref lr)]))
  obtain ⟨T9, X9, e9, st9⟩ := getF X8 hx hZ hown (host := "") (Or.inl (hw _ (List.mem_of_getElem? (i := 55) rfl))) Via.refl e8 F_size_nd (g := (mkF m 44 #[.val (.ref nd), .val (.int ii)] [(.ref nd), (.int ii), (.ref lr), (.int (ii + (1 : Int32))), (.ref lr)])) rfl rfl (hb hby d17_44)
  refine Go.step st9 ?_
  show Go _ _ _ _ _ _ _ (T9.setTop (mkF m 47 #[.val (.ref nd), .val (.int ii)] [(.int (0 : Int32)), (.int ii), (.ref lr), (.int (ii + (1 : Int32))), (.ref lr)]))
  refine Go.step (fun t k => XS.iloadN X9.here hx rfl (hb hby d17_47) rfl (XS.isub X9.here hx rfl (hb hby d17_48) rfl k)) ?_
  show Go _ _ _ _ _ _ _ (T9.setTop (mkF m 49 #[.val (.ref nd), .val (.int ii)] [(.int ((0 : Int32) - ii)), (.int ii), (.ref lr), (.int (ii + (1 : Int32))), (.ref lr)]))
  obtain ⟨T10, h10, Lx10, X10, e10, Nn10, K10q, Fx10, st10⟩ := own_cpR X9 hx hZ hown (hw _ (List.mem_of_getElem? (i := 56) rfl)) (hw _ (List.mem_of_getElem? (i := 59) rfl)) (hw _ (List.mem_of_getElem? (i := 57) rfl)) (hw _ (List.mem_of_getElem? (i := 58) rfl)) e9 R_lr (im + 1) im (0 - im) (own_p1 hi (by omega)) hi (own_mn (n := 0) rfl hi (by omega) (by omega)) (by omega) (by omega) Nn6 g_lr (f := (mkF m 49 #[.val (.ref nd), .val (.int ii)] [(.int ((0 : Int32) - ii)), (.int ii), (.ref lr), (.int (ii + (1 : Int32))), (.ref lr)])) rfl (by rw [hml]; rfl) rfl (hb hby d17_49) (by decide) (W := 0) (by show 2 * 0 + _ ≤ _; exact Nat.le_of_eq rfl) (by decide)
  replace F_keys_nd := F_keys_nd.keep K10q (ninS (Ne.symm ne_lr_nd) nin0)
  replace F_levels_nd := F_levels_nd.keep K10q (ninS (Ne.symm ne_lr_nd) nin0)
  replace F_children_nd := F_children_nd.keep K10q (ninS (Ne.symm ne_lr_nd) nin0)
  replace F_size_nd := F_size_nd.keep K10q (ninS (Ne.symm ne_lr_nd) nin0)
  replace F_next_nd := F_next_nd.keep K10q (ninS (Ne.symm ne_lr_nd) nin0)
  replace F_previous_nd := F_previous_nd.keep K10q (ninS (Ne.symm ne_lr_nd) nin0)
  replace E_nd := E_nd.keep K10q
  replace A_kr := A_kr.keep K10q (ninS ne_kr_lr nin0)
  have Z10 := Nat.le_trans Z6 K10q.1
  have K10' := K6'.trans K10q (allS (Or.inl (List.mem_of_getElem? (i := 2) rfl)) all0)
  have R_lr := Fx10
  refine Go.step st10 ?_
  show Go _ _ _ _ _ _ _ (T10.setTop (mkF m 52 #[.val (.ref nd), .val (.int ii)] []))
  refine Go.step (fun t k => XS.aloadN X10.here hx rfl (hb hby d17_52) rfl rfl k) ?_
  show Go _ _ _ _ _ _ _ (T10.setTop (mkF m 53 #[.val (.ref nd), .val (.int ii)] [(.ref nd)]))
  obtain ⟨T11, X11, e11, st11⟩ := getF X10 hx hZ hown (host := "") (Or.inl (hw _ (List.mem_of_getElem? (i := 24) rfl))) Via.refl e10 F_levels_nd (g := (mkF m 53 #[.val (.ref nd), .val (.int ii)] [(.ref nd)])) rfl rfl (hb hby d17_53)
  refine Go.step st11 ?_
  show Go _ _ _ _ _ _ _ (T11.setTop (mkF m 56 #[.val (.ref nd), .val (.int ii)] [(.ref lr)]))
  refine Go.step (fun t k => XS.aloadN X11.here hx rfl (hb hby d17_56) rfl rfl k) ?_
  show Go _ _ _ _ _ _ _ (T11.setTop (mkF m 57 #[.val (.ref nd), .val (.int ii)] [(.ref nd), (.ref lr)]))
  obtain ⟨T12, X12, e12, st12⟩ := getF X11 hx hZ hown (host := "") (Or.inl (hw _ (List.mem_of_getElem? (i := 55) rfl))) Via.refl e11 F_size_nd (g := (mkF m 57 #[.val (.ref nd), .val (.int ii)] [(.ref nd), (.ref lr)])) rfl rfl (hb hby d17_57)
  refine Go.step st12 ?_
  show Go _ _ _ _ _ _ _ (T12.setTop (mkF m 60 #[.val (.ref nd), .val (.int ii)] [(.int (0 : Int32)), (.ref lr)]))
  refine Go.step (fun t k => XS.aconstNull X12.here hx rfl (hb hby d17_60) k) ?_
  show Go _ _ _ _ _ _ _ (T12.setTop (mkF m 61 #[.val (.ref nd), .val (.int ii)] [.null, (.int (0 : Int32)), (.ref lr)]))
  obtain ⟨T13, h13, X13, e13, W13, Rx13, st13⟩ := own_stR X12 hx hZ e12 R_lr (Or.inl rfl) 0 rfl (by decide) (f := (mkF m 61 #[.val (.ref nd), .val (.int ii)] [.null, (.int (0 : Int32)), (.ref lr)])) rfl rfl (hb hby d17_61)
  replace F_keys_nd := F_keys_nd.other W13 (Or.inl (Ne.symm ne_lr_nd))
  replace F_levels_nd := F_levels_nd.other W13 (Or.inl (Ne.symm ne_lr_nd))
  replace F_children_nd := F_children_nd.other W13 (Or.inl (Ne.symm ne_lr_nd))
  replace F_size_nd := F_size_nd.other W13 (Or.inl (Ne.symm ne_lr_nd))
  replace F_next_nd := F_next_nd.other W13 (Or.inl (Ne.symm ne_lr_nd))
  replace F_previous_nd := F_previous_nd.other W13 (Or.inl (Ne.symm ne_lr_nd))
  replace E_nd := E_nd.wr W13
  replace A_kr := A_kr.other W13 ne_kr_lr
  have Z13 := Nat.le_trans Z10 (Keep.of_wr W13).1
  have N13 := Fr.snoc X13 Nn10 g_lr
  have K13 := K10'.wr W13 (Or.inl (List.mem_of_getElem? (i := 2) rfl))
  have R_lr := Rx13
  refine Go.step st13 ?_
  show Go _ _ _ _ _ _ _ (T13.setTop (mkF m 62 #[.val (.ref nd), .val (.int ii)] []))
  refine Go.step (fun t k => XS.aloadN X13.here hx rfl (hb hby d17_62) rfl rfl k) ?_
  show Go _ _ _ _ _ _ _ (T13.setTop (mkF m 63 #[.val (.ref nd), .val (.int ii)] [(.ref nd)]))
  obtain ⟨T14, X14, e14, st14⟩ := getF X13 hx hZ hown (host := "") (Or.inl (hw _ (List.mem_of_getElem? (i := 55) rfl))) Via.refl e13 F_size_nd (g := (mkF m 63 #[.val (.ref nd), .val (.int ii)] [(.ref nd)])) rfl rfl (hb hby d17_63)
  refine Go.step st14 ?_
  show Go _ _ _ _ _ _ _ (T14.setTop (mkF m 66 #[.val (.ref nd), .val (.int ii)] [(.int (0 : Int32))]))
  refine Go.step (fun t k => XS.ifNo X14.here hx rfl (hb hby d17_66) rfl ((if0 _ _).trans (teq (by decide : (0 : Int32) = (0 : Int32))).2) k) ?_
  show Go _ _ _ _ _ _ _ (T14.setTop (mkF m 69 #[.val (.ref nd), .val (.int ii)] []))
  refine Go.step (fun t k => XS.aloadN X14.here hx rfl (hb hby d17_69) rfl rfl k) ?_
  show Go _ _ _ _ _ _ _ (T14.setTop (mkF m 70 #[.val (.ref nd), .val (.int ii)] [(.ref nd)]))
  obtain ⟨cq15, q15, q15'⟩ := E_nd.cell
  obtain ⟨_, _, ⟨T15, L15, k15, n15⟩, -, X15, ⟨Lc15, hQ15, l15, y15, z15⟩, st15⟩ := X14.privateBack hx (y := (⟨"com/example/matchstone/matchstone/LevelIndex$Node", "unlinkLeaf", "()V"⟩ : MethodName)) hown (mvT hZ (hw _ (List.mem_of_getElem? (i := 115) rfl))) (mvT hZ (hw _ (List.mem_of_getElem? (i := 116) rfl))) (own_selP hZ (hw _ (List.mem_of_getElem? (i := 14) rfl)) (hw _ (List.mem_of_getElem? (i := 116) rfl)) (hw _ (List.mem_of_getElem? (i := 117) rfl)) (by decide)) (Cond.privateMethod_at (mvP hZ (hw _ (List.mem_of_getElem? (i := 117) rfl)) (args := #[]))) (mvT hZ (hw _ (List.mem_of_getElem? (i := 118) rfl))) (by decide) (backOf (W := 0) (rm19 l Z a0 hw [] nd kr lr h13 n0 Z13 F_keys_nd F_levels_nd F_children_nd F_size_nd F_next_nd F_previous_nd E_nd g_nd) hZ (hw _ (List.mem_of_getElem? (i := 118) rfl)) (hw _ (List.mem_of_getElem? (i := 11) rfl)) (by decide) (by decide)) (g := (mkF m 70 #[.val (.ref nd), .val (.int ii)] [(.ref nd)])) rfl (by rw [hml]; rfl) (Steps.refl _) (a := nd) (by rw [e14]; exact q15) q15' (argsL := []) (rest := []) (lenOf pd_17_0_1 rfl) rfl (by show 2 * 0 + _ ≤ _; exact Nat.le_of_eq rfl) (hb hby d17_70) (fun _ _ => ⟨rfl, e14, (by decide : 0 + 0 ≤ _), (by decide : 0 + 0 ≤ _)⟩)
  dsimp only [Pt.U, Pt.locs, Pt.cells, Pt.slots] at X15 l15 y15 z15 st15 hQ15
  subst l15 y15 z15
  obtain ⟨rfl, N15q, K15q, o15_F_keys_nd, o15_F_levels_nd, o15_F_children_nd, o15_F_size_nd, o15_F_next_nd, o15_F_previous_nd, o15_E_nd⟩ := hQ15
  have N15 := Fr.app N13 N15q
  replace E_nd := E_nd.keep K15q
  replace A_kr := A_kr.keep K15q (ninS ne_kr_nd nin0)
  replace R_lr := R_lr.keep K15q (ninS ne_lr_nd nin0)
  have Z15 := Nat.le_trans Z13 K15q.1
  have K15' := K13.trans K15q (allS (Or.inl (List.mem_of_getElem? (i := 0) rfl)) all0)
  have F_keys_nd := o15_F_keys_nd
  have F_levels_nd := o15_F_levels_nd
  have F_children_nd := o15_F_children_nd
  have F_size_nd := o15_F_size_nd
  have F_next_nd := o15_F_next_nd
  have F_previous_nd := o15_F_previous_nd
  have E_nd := o15_E_nd
  refine Go.step (fun t k => st15.trans k) ?_
  show Go _ _ _ _ _ _ _ (T15.setTop (mkF m 73 #[.val (.ref nd), .val (.int ii)] []))
  refine Go.retV X15 Bd.notSynchronized hx Bd.returns (hb hby d17_73) (by decide) (by decide) ?_
  exact ⟨rfl, N15, K15', F_keys_nd, F_levels_nd, F_children_nd, F_size_nd, F_next_nd, F_previous_nd, E_nd, A_kr, R_lr⟩
theorem d16_0 : decode prog_21_method_11_code 0 = .ok (.aload_n 1, 1) := by decide +kernel
theorem d16_1 : decode prog_21_method_11_code 1 = .ok (.invokevirtual 50, 3) := by decide +kernel
theorem d16_4 : decode prog_21_method_11_code 4 = .ok (.ifCond .eq 50, 3) := by decide +kernel
theorem d16_7 : decode prog_21_method_11_code 7 = .ok (.aload_n 1, 1) := by decide +kernel
theorem d16_8 : decode prog_21_method_11_code 8 = .ok (.getfield 47, 3) := by decide +kernel
theorem d16_11 : decode prog_21_method_11_code 11 = .ok (.astore 4, 2) := by decide +kernel
theorem d16_13 : decode prog_21_method_11_code 13 = .ok (.aload_n 1, 1) := by decide +kernel
theorem d16_14 : decode prog_21_method_11_code 14 = .ok (.aload_n 1, 1) := by decide +kernel
theorem d16_15 : decode prog_21_method_11_code 15 = .ok (.getfield 26, 3) := by decide +kernel
theorem d16_18 : decode prog_21_method_11_code 18 = .ok (.iconst 0, 1) := by decide +kernel
theorem d16_19 : decode prog_21_method_11_code 19 = .ok (.aload_n 1, 1) := by decide +kernel
theorem d16_20 : decode prog_21_method_11_code 20 = .ok (.getfield 30, 3) := by decide +kernel
theorem d16_23 : decode prog_21_method_11_code 23 = .ok (.lload_n 2, 1) := by decide +kernel
theorem d16_24 : decode prog_21_method_11_code 24 = .ok (.invokestatic 34, 3) := by decide +kernel
theorem d16_27 : decode prog_21_method_11_code 27 = .ok (.invokevirtual 86, 3) := by decide +kernel
theorem d16_30 : decode prog_21_method_11_code 30 = .ok (.aload_n 1, 1) := by decide +kernel
theorem d16_31 : decode prog_21_method_11_code 31 = .ok (.invokevirtual 105, 3) := by decide +kernel
theorem d16_34 : decode prog_21_method_11_code 34 = .ok (.ifCond .eq 17, 3) := by decide +kernel
theorem d16_37 : decode prog_21_method_11_code 37 = .ok (.aload_n 1, 1) := by decide +kernel
theorem d16_38 : decode prog_21_method_11_code 38 = .ok (.aload_n 0, 1) := by decide +kernel
theorem d16_39 : decode prog_21_method_11_code 39 = .ok (.getfield 19, 3) := by decide +kernel
theorem d16_42 : decode prog_21_method_11_code 42 = .ok (.if_acmp .ne 9, 3) := by decide +kernel
theorem d16_45 : decode prog_21_method_11_code 45 = .ok (.aload_n 0, 1) := by decide +kernel
theorem d16_46 : decode prog_21_method_11_code 46 = .ok (.aload 4, 2) := by decide +kernel
theorem d16_48 : decode prog_21_method_11_code 48 = .ok (.putfield 19, 3) := by decide +kernel
theorem d16_51 : decode prog_21_method_11_code 51 = .ok (.goto 31, 3) := by decide +kernel
theorem d16_82 : decode prog_21_method_11_code 82 = .ok (.aload_n 1, 1) := by decide +kernel
theorem d16_83 : decode prog_21_method_11_code 83 = .ok (.invokevirtual 105, 3) := by decide +kernel
theorem d16_86 : decode prog_21_method_11_code 86 = .ok (.ireturn, 1) := by decide +kernel
theorem pn_16_1 : plainName "com/example/matchstone/matchstone/LevelIndex" = true := by first | (simp [plainName, overriddenIn]; done) | decide +kernel
theorem pd_16_0_1 : parseMethodDescriptor "()Z" = some ⟨[], some .boolean⟩ := by decide +kernel
theorem pd_16_1_1 : parseMethodDescriptor "([JIIJ)I" = some ⟨[(.array .long), .int, .int, .long], some .int⟩ := by decide +kernel
theorem pd_16_2_1 : parseMethodDescriptor "(I)V" = some ⟨[.int], none⟩ := by decide +kernel
theorem ef_16_1 (m : MethodId) (x0 : Addr) (x1 : Addr) (x2 : Int64) : entryFrame m #[(.ref x0), (.ref x1), (.long x2)] 5 = mkF m 0 #[.val (.ref x0), .val (.ref x1), .val (.long x2), .second, .unset] [] := by first | (simp [entryFrame, mkF, argsToLocals, Value.category]; done) | rfl
def Q16_1 (Z : State) (li : Addr) (nd : Addr) (ky : Int64) (kr : Addr) (lr : Addr) (gk : Nat → Int64) (gl : Nat → Value) (aw : Value) (h0 : Heap) (n0 : Nat) (v : Option Value) (h : Heap) (L : List Loc) : Prop := ∃ im : Nat, v = some (.int (1 : Int32)) ∧ Fr n0 L ∧ Keep h0 h [li, nd, kr, lr] ∧ (im < 1) ∧ (gk im = ky) ∧ Fld Z h li "com/example/matchstone/matchstone/LevelIndex" "root" "Lcom/example/matchstone/matchstone/LevelIndex$Node;" (.ref nd) ∧ Fld Z h li "com/example/matchstone/matchstone/LevelIndex" "last" "Lcom/example/matchstone/matchstone/LevelIndex$Node;" .null ∧ Fld Z h li "com/example/matchstone/matchstone/LevelIndex" "ahead" "Lcom/example/matchstone/matchstone/PriceLevel;" aw ∧ Exa Z h li "com/example/matchstone/matchstone/LevelIndex" ∧ Fld Z h nd "com/example/matchstone/matchstone/LevelIndex$Node" "keys" "[J" (.ref kr) ∧ Fld Z h nd "com/example/matchstone/matchstone/LevelIndex$Node" "levels" "[Lcom/example/matchstone/matchstone/PriceLevel;" (.ref lr) ∧ Fld Z h nd "com/example/matchstone/matchstone/LevelIndex$Node" "children" "[Lcom/example/matchstone/matchstone/LevelIndex$Node;" .null ∧ Fld Z h nd "com/example/matchstone/matchstone/LevelIndex$Node" "size" "I" (.int (0 : Int32)) ∧ Fld Z h nd "com/example/matchstone/matchstone/LevelIndex$Node" "next" "Lcom/example/matchstone/matchstone/LevelIndex$Node;" .null ∧ Fld Z h nd "com/example/matchstone/matchstone/LevelIndex$Node" "previous" "Lcom/example/matchstone/matchstone/LevelIndex$Node;" .null ∧ Exa Z h nd "com/example/matchstone/matchstone/LevelIndex$Node" ∧ AryJ Z h kr 65 (own_sh gk (im + 1) im (0 - im)) ∧ RAr Z h lr "com/example/matchstone/matchstone/PriceLevel" 65 (up (own_sh gl (im + 1) im (0 - im)) 0 .null)
set_option maxRecDepth 65536 in
set_option maxHeartbeats 40000000 in
theorem rm16_1 (l : Launch) (Z : State) (a0 : Array Value) (hw : ∀ d ∈ tables_1, d.before a0 Z = true) (ws : List Jvm.Cond) (li : Addr) (nd : Addr) (ky : Int64) (kr : Addr) (lr : Addr) (gk : Nat → Int64) (gl : Nat → Value) (aw : Value) (h0 : Heap) (n0 : Nat) (Z0 : n0 ≤ h0.size) (F_root_li : Fld Z h0 li "com/example/matchstone/matchstone/LevelIndex" "root" "Lcom/example/matchstone/matchstone/LevelIndex$Node;" (.ref nd)) (F_last_li : Fld Z h0 li "com/example/matchstone/matchstone/LevelIndex" "last" "Lcom/example/matchstone/matchstone/LevelIndex$Node;" (.ref nd)) (F_ahead_li : Fld Z h0 li "com/example/matchstone/matchstone/LevelIndex" "ahead" "Lcom/example/matchstone/matchstone/PriceLevel;" aw) (E_li : Exa Z h0 li "com/example/matchstone/matchstone/LevelIndex") (g_li : n0 ≤ li) (F_keys_nd : Fld Z h0 nd "com/example/matchstone/matchstone/LevelIndex$Node" "keys" "[J" (.ref kr)) (F_levels_nd : Fld Z h0 nd "com/example/matchstone/matchstone/LevelIndex$Node" "levels" "[Lcom/example/matchstone/matchstone/PriceLevel;" (.ref lr)) (F_children_nd : Fld Z h0 nd "com/example/matchstone/matchstone/LevelIndex$Node" "children" "[Lcom/example/matchstone/matchstone/LevelIndex$Node;" .null) (F_size_nd : Fld Z h0 nd "com/example/matchstone/matchstone/LevelIndex$Node" "size" "I" (.int (1 : Int32))) (F_next_nd : Fld Z h0 nd "com/example/matchstone/matchstone/LevelIndex$Node" "next" "Lcom/example/matchstone/matchstone/LevelIndex$Node;" .null) (F_previous_nd : Fld Z h0 nd "com/example/matchstone/matchstone/LevelIndex$Node" "previous" "Lcom/example/matchstone/matchstone/LevelIndex$Node;" .null) (E_nd : Exa Z h0 nd "com/example/matchstone/matchstone/LevelIndex$Node") (A_kr : AryJ Z h0 kr 65 gk) (R_lr : RAr Z h0 lr "com/example/matchstone/matchstone/PriceLevel" 65 gl) (g_nd : n0 ≤ nd) (g_kr : n0 ≤ kr) (g_lr : n0 ≤ lr) (ne_kr_lr : kr ≠ lr) (hs : (own_srt 1 gk)) (hex : (∃ i, i < 1 ∧ gk i = ky)) :
    MetFree l (⟨"com/example/matchstone/matchstone/LevelIndex", "remove", "(Lcom/example/matchstone/matchstone/LevelIndex$Node;J)Z"⟩ : MethodName) (head1 (Jvm.Cond.code (⟨"com/example/matchstone/matchstone/LevelIndex", "remove", "(Lcom/example/matchstone/matchstone/LevelIndex$Node;J)Z"⟩ : MethodName) prog_21_method_11_code 5 (some .boolean) :: ws) ({ frames := 2, cells := 0, slots := 0, locals := 53 } : Room)) (fun a U => a = #[(.ref li), (.ref nd), (.long ky)] ∧ Z.Warmed39 U.vm ∧ U.heap = h0) (fun _ _ _ _ _ => True) (fun _ U o U' => ∃ v L, o = .returned v ∧ Q16_1 Z li nd ky kr lr gk gl aw h0 n0 v U'.heap L ∧ FrameEnd U o U' L ({ frames := 2, cells := 0, slots := 0, locals := 53 } : Room).cells ({ frames := 2, cells := 0, slots := 0, locals := 53 } : Room).slots) := by
  refine MetFree.of_bodySF (plainFor_of_name pn_16_1) hisR ?_
  intro p e s m args below meth c s₁ Bd hml0 hP hK
  obtain ⟨rfl, hZ, hh⟩ := hP
  have hx := Bd.exec
  have hby := Bd.bytes
  have hml : c.maxLocals = 5 := hml0
  have hown : s.vm.findClass "com/example/matchstone/matchstone/LevelIndex" = some m.cls := findClass_of_methodNamed Bd.named
  have hnm := (name_of_methodNamed Bd.named Bd.method).1
  have X0 : Stand p l e ({ frames := 2, cells := 0, slots := 0, locals := 53 } : Room) s m #[(.ref li), (.ref nd), (.long ky)] below meth c s₁ [] 0 0 := Stand.of_body Bd
  have e0 : s₁.heap = h0 := by rw [← hh, Bd.state]; rfl
  have N0 := Fr.nil n0
  have K0 := Keep.refl h0 ([li, nd, kr, lr] : List Addr)
  show Go p e below s (Q16_1 Z li nd ky kr lr gk gl aw h0 n0) ({ frames := 2, cells := 0, slots := 0, locals := 53 } : Room).cells ({ frames := 2, cells := 0, slots := 0, locals := 53 } : Room).slots (s₁.setTop (entryFrame m #[(.ref li), (.ref nd), (.long ky)] 5))
  rw [ef_16_1]
  show Go _ _ _ _ _ _ _ (s₁.setTop (mkF m 0 #[.val (.ref li), .val (.ref nd), .val (.long ky), .second, .unset] []))
  refine Go.step (fun t k => XS.aloadN X0.here hx rfl (hb hby d16_0) rfl rfl k) ?_
  show Go _ _ _ _ _ _ _ (s₁.setTop (mkF m 1 #[.val (.ref li), .val (.ref nd), .val (.long ky), .second, .unset] [(.ref nd)]))
  obtain ⟨cq1, kq1, q1a, q1b, q1c⟩ := isOf hZ e0 E_nd
  obtain ⟨_, _, ⟨T1, L1, k1, n1⟩, -, X1, ⟨Lc1, hQ1, l1, y1, z1⟩, st1⟩ := X0.virtualBack hx (y := (⟨"com/example/matchstone/matchstone/LevelIndex$Node", "isLeaf", "()Z"⟩ : MethodName)) (z := (⟨"com/example/matchstone/matchstone/LevelIndex$Node", "isLeaf", "()Z"⟩ : MethodName)) hown (mvT hZ (hw _ (List.mem_of_getElem? (i := 66) rfl))) (mvT hZ (hw _ (List.mem_of_getElem? (i := 67) rfl))) (notFace_of_selects (args := #[]) (mvT hZ (hw _ (List.mem_of_getElem? (i := 69) rfl)))) (mvT hZ (hw _ (List.mem_of_getElem? (i := 69) rfl))) (mvT hZ (hw _ (List.mem_of_getElem? (i := 68) rfl))) (by decide) (backOf (W := 0) (rm9 l Z a0 hw [] nd lr h0 n0 Z0 F_levels_nd) hZ (hw _ (List.mem_of_getElem? (i := 70) rfl)) (hw _ (List.mem_of_getElem? (i := 11) rfl)) (by decide) (by decide)) q1a q1c (g := (mkF m 1 #[.val (.ref li), .val (.ref nd), .val (.long ky), .second, .unset] [(.ref nd)])) rfl (by rw [hml]; rfl) (Steps.refl _) (argsL := []) (rest := []) (lenOf pd_16_0_1 rfl) rfl (by show 2 * 0 + _ ≤ _; exact Nat.le_of_eq rfl) (hb hby d16_1) (fun _ _ => ⟨rfl, e0, (by decide : 0 + 0 ≤ _), (by decide : 0 + 0 ≤ _)⟩)
  dsimp only [Pt.U, Pt.locs, Pt.cells, Pt.slots] at X1 l1 y1 z1 st1 hQ1
  subst l1 y1 z1
  obtain ⟨rfl, N1q, K1q⟩ := hQ1
  have N1 := Fr.app N0 N1q
  refine Go.step (fun t k => st1.trans k) ?_
  show Go _ _ _ _ _ _ _ (T1.setTop (mkF m 4 #[.val (.ref li), .val (.ref nd), .val (.long ky), .second, .unset] [(.int (1 : Int32))]))
  refine Go.step (fun t k => XS.ifNo X1.here hx rfl (hb hby d16_4) rfl ((if0 _ _).trans (feq (by decide : ¬ (1 : Int32) = (0 : Int32))).1) k) ?_
  show Go _ _ _ _ _ _ _ (T1.setTop (mkF m 7 #[.val (.ref li), .val (.ref nd), .val (.long ky), .second, .unset] []))
  refine Go.step (fun t k => XS.aloadN X1.here hx rfl (hb hby d16_7) rfl rfl k) ?_
  show Go _ _ _ _ _ _ _ (T1.setTop (mkF m 8 #[.val (.ref li), .val (.ref nd), .val (.long ky), .second, .unset] [(.ref nd)]))
  obtain ⟨T2, X2, e2, st2⟩ := own_getR X1 hx hZ hown (hw _ (List.mem_of_getElem? (i := 102) rfl)) K1q F_previous_nd (f := (mkF m 8 #[.val (.ref li), .val (.ref nd), .val (.long ky), .second, .unset] [(.ref nd)])) rfl rfl (hb hby d16_8)
  refine Go.step st2 ?_
  show Go _ _ _ _ _ _ _ (T2.setTop (mkF m 11 #[.val (.ref li), .val (.ref nd), .val (.long ky), .second, .unset] [.null]))
  refine Go.step (fun t k => XS.astore X2.here hx rfl (hb hby d16_11) rfl rfl (l' := #[.val (.ref li), .val (.ref nd), .val (.long ky), .second, .val .null]) rfl (XS.aloadN X2.here hx rfl (hb hby d16_13) rfl rfl (XS.aloadN X2.here hx rfl (hb hby d16_14) rfl rfl k))) ?_
  show Go _ _ _ _ _ _ _ (T2.setTop (mkF m 15 #[.val (.ref li), .val (.ref nd), .val (.long ky), .second, .val .null] [(.ref nd), (.ref nd)]))
  obtain ⟨T3, X3, e3, st3⟩ := own_getR X2 hx hZ hown (hw _ (List.mem_of_getElem? (i := 61) rfl)) e2 F_keys_nd (f := (mkF m 15 #[.val (.ref li), .val (.ref nd), .val (.long ky), .second, .val .null] [(.ref nd), (.ref nd)])) rfl rfl (hb hby d16_15)
  refine Go.step st3 ?_
  show Go _ _ _ _ _ _ _ (T3.setTop (mkF m 18 #[.val (.ref li), .val (.ref nd), .val (.long ky), .second, .val .null] [(.ref kr), (.ref nd)]))
  refine Go.step (fun t k => XS.iconst X3.here hx rfl (hb hby d16_18) (XS.aloadN X3.here hx rfl (hb hby d16_19) rfl rfl k)) ?_
  show Go _ _ _ _ _ _ _ (T3.setTop (mkF m 20 #[.val (.ref li), .val (.ref nd), .val (.long ky), .second, .val .null] [(.ref nd), (.int (0 : Int32)), (.ref kr), (.ref nd)]))
  obtain ⟨T4, X4, e4, st4⟩ := own_getR X3 hx hZ hown (hw _ (List.mem_of_getElem? (i := 48) rfl)) e3 F_size_nd (f := (mkF m 20 #[.val (.ref li), .val (.ref nd), .val (.long ky), .second, .val .null] [(.ref nd), (.int (0 : Int32)), (.ref kr), (.ref nd)])) rfl rfl (hb hby d16_20)
  refine Go.step st4 ?_
  show Go _ _ _ _ _ _ _ (T4.setTop (mkF m 23 #[.val (.ref li), .val (.ref nd), .val (.long ky), .second, .val .null] [(.int (1 : Int32)), (.int (0 : Int32)), (.ref kr), (.ref nd)]))
  refine Go.step (fun t k => XS.lloadN X4.here hx rfl (hb hby d16_23) rfl k) ?_
  show Go _ _ _ _ _ _ _ (T4.setTop (mkF m 24 #[.val (.ref li), .val (.ref nd), .val (.long ky), .second, .val .null] [(.long ky), (.int (1 : Int32)), (.int (0 : Int32)), (.ref kr), (.ref nd)]))
  obtain ⟨_, _, ⟨T5, L5, k5, n5⟩, -, X5, ⟨Lc5, hQ5, l5, y5, z5⟩, st5⟩ := Jvm.LawKit.callS X4 hx (y := (⟨"java/util/Arrays", "binarySearch", "([JIIJ)I"⟩ : MethodName)) hown (mvT hZ (hw _ (List.mem_of_getElem? (i := 71) rfl))) (mvT hZ (hw _ (List.mem_of_getElem? (i := 72) rfl))) (mvT hZ (hw _ (List.mem_of_getElem? (i := 73) rfl))) (mvT hZ (hw _ (List.mem_of_getElem? (i := 74) rfl))) (by decide) (backOf (W := 1) (rm10 l Z a0 hw [] kr (1 : Int32) ky gk 1 h0 n0 Z0 A_kr rfl (by omega) (by omega) (by assumption)) hZ (hw _ (List.mem_of_getElem? (i := 74) rfl)) (hw _ (List.mem_of_getElem? (i := 73) rfl)) (by decide) (by decide)) (g := (mkF m 24 #[.val (.ref li), .val (.ref nd), .val (.long ky), .second, .val .null] [(.long ky), (.int (1 : Int32)), (.int (0 : Int32)), (.ref kr), (.ref nd)])) rfl (by rw [hml]; rfl) (argsL := [(.ref kr), (.int (0 : Int32)), (.int (1 : Int32)), (.long ky)]) (rest := [(.ref nd)]) (lenOf pd_16_1_1 rfl) rfl (by show 2 * 0 + _ ≤ _; exact Nat.le_of_eq rfl) (hb hby d16_24) (fun _ _ => ⟨rfl, e4, (by decide : 0 + 0 ≤ _), (by decide : 0 + 0 ≤ _)⟩)
  dsimp only [Pt.U, Pt.locs, Pt.cells, Pt.slots] at X5 l5 y5 z5 st5 hQ5
  subst l5 y5 z5
  obtain ⟨r_5, rfl, N5q, K5q, o5_hf⟩ := hQ5
  have N5 := Fr.app N1 N5q
  refine Go.step st5 ?_
  show Go _ _ _ _ _ _ _ (T5.setTop (mkF m 27 #[.val (.ref li), .val (.ref nd), .val (.long ky), .second, .val .null] [(.int r_5), (.ref nd)]))
  obtain ⟨im, him, hri, hgi⟩ := own_prs o5_hf hex
  obtain ⟨cq6, kq6, q6a, q6b, q6c⟩ := isOf hZ K5q E_nd
  obtain ⟨_, _, ⟨T6, L6, k6, n6⟩, -, X6, ⟨Lc6, hQ6, l6, y6, z6⟩, st6⟩ := X5.virtualBack hx (y := (⟨"com/example/matchstone/matchstone/LevelIndex$Node", "removeEntry", "(I)V"⟩ : MethodName)) (z := (⟨"com/example/matchstone/matchstone/LevelIndex$Node", "removeEntry", "(I)V"⟩ : MethodName)) hown (mvT hZ (hw _ (List.mem_of_getElem? (i := 104) rfl))) (mvT hZ (hw _ (List.mem_of_getElem? (i := 105) rfl))) (notFace_of_selects (args := #[]) (mvT hZ (hw _ (List.mem_of_getElem? (i := 107) rfl)))) (mvT hZ (hw _ (List.mem_of_getElem? (i := 107) rfl))) (mvT hZ (hw _ (List.mem_of_getElem? (i := 106) rfl))) (by decide) (backOf (W := 0) (rm17_1 l Z a0 hw [] nd r_5 kr lr gk gl im h0 n0 Z0 F_keys_nd F_levels_nd F_children_nd F_size_nd F_next_nd F_previous_nd E_nd A_kr R_lr g_nd g_kr g_lr ne_kr_lr hri him) hZ (hw _ (List.mem_of_getElem? (i := 108) rfl)) (hw _ (List.mem_of_getElem? (i := 11) rfl)) (by decide) (by decide)) q6a q6c (g := (mkF m 27 #[.val (.ref li), .val (.ref nd), .val (.long ky), .second, .val .null] [(.int r_5), (.ref nd)])) rfl (by rw [hml]; rfl) (Steps.refl _) (argsL := [(.int r_5)]) (rest := []) (lenOf pd_16_2_1 rfl) rfl (by show 2 * 0 + _ ≤ _; exact Nat.le_of_eq rfl) (hb hby d16_27) (fun _ _ => ⟨rfl, K5q, (by decide : 0 + 0 ≤ _), (by decide : 0 + 0 ≤ _)⟩)
  dsimp only [Pt.U, Pt.locs, Pt.cells, Pt.slots] at X6 l6 y6 z6 st6 hQ6
  subst l6 y6 z6
  obtain ⟨rfl, N6q, K6q, o6_F_keys_nd, o6_F_levels_nd, o6_F_children_nd, o6_F_size_nd, o6_F_next_nd, o6_F_previous_nd, o6_E_nd, o6_A_kr, o6_R_lr⟩ := hQ6
  have N6 := Fr.app N5 N6q
  have ne_li_nd : li ≠ nd := (ne_exa E_li E_nd (by decide))
  have ne_li_kr : li ≠ kr := (own_neA E_li (hw _ (List.mem_of_getElem? (i := 1) rfl)) A_kr)
  have ne_li_lr : li ≠ lr := (own_neR E_li (hw _ (List.mem_of_getElem? (i := 1) rfl)) R_lr)
  replace F_root_li := F_root_li.keep K6q (ninS ne_li_nd (ninS ne_li_kr (ninS ne_li_lr nin0)))
  replace F_last_li := F_last_li.keep K6q (ninS ne_li_nd (ninS ne_li_kr (ninS ne_li_lr nin0)))
  replace F_ahead_li := F_ahead_li.keep K6q (ninS ne_li_nd (ninS ne_li_kr (ninS ne_li_lr nin0)))
  replace E_li := E_li.keep K6q
  replace E_nd := E_nd.keep K6q
  have Z6 := Nat.le_trans Z0 K6q.1
  have K6' := K0.trans K6q (allS (Or.inl (List.mem_of_getElem? (i := 1) rfl)) (allS (Or.inl (List.mem_of_getElem? (i := 2) rfl)) (allS (Or.inl (List.mem_of_getElem? (i := 3) rfl)) all0)))
  have F_keys_nd := o6_F_keys_nd
  have F_levels_nd := o6_F_levels_nd
  have F_children_nd := o6_F_children_nd
  have F_size_nd := o6_F_size_nd
  have F_next_nd := o6_F_next_nd
  have F_previous_nd := o6_F_previous_nd
  have E_nd := o6_E_nd
  have A_kr := o6_A_kr
  have R_lr := o6_R_lr
  refine Go.step (fun t k => st6.trans k) ?_
  show Go _ _ _ _ _ _ _ (T6.setTop (mkF m 30 #[.val (.ref li), .val (.ref nd), .val (.long ky), .second, .val .null] []))
  refine Go.step (fun t k => XS.aloadN X6.here hx rfl (hb hby d16_30) rfl rfl k) ?_
  show Go _ _ _ _ _ _ _ (T6.setTop (mkF m 31 #[.val (.ref li), .val (.ref nd), .val (.long ky), .second, .val .null] [(.ref nd)]))
  obtain ⟨cq7, kq7, q7a, q7b, q7c⟩ := isOf hZ rfl E_nd
  obtain ⟨_, _, ⟨T7, L7, k7, n7⟩, -, X7, ⟨Lc7, hQ7, l7, y7, z7⟩, st7⟩ := X6.virtualBack hx (y := (⟨"com/example/matchstone/matchstone/LevelIndex$Node", "isEmpty", "()Z"⟩ : MethodName)) (z := (⟨"com/example/matchstone/matchstone/LevelIndex$Node", "isEmpty", "()Z"⟩ : MethodName)) hown (mvT hZ (hw _ (List.mem_of_getElem? (i := 109) rfl))) (mvT hZ (hw _ (List.mem_of_getElem? (i := 110) rfl))) (notFace_of_selects (args := #[]) (mvT hZ (hw _ (List.mem_of_getElem? (i := 112) rfl)))) (mvT hZ (hw _ (List.mem_of_getElem? (i := 112) rfl))) (mvT hZ (hw _ (List.mem_of_getElem? (i := 111) rfl))) (by decide) (backOf (W := 0) (rm18_0 l Z a0 hw [] nd lr T6.heap n0 Z6 F_levels_nd F_size_nd E_nd) hZ (hw _ (List.mem_of_getElem? (i := 113) rfl)) (hw _ (List.mem_of_getElem? (i := 11) rfl)) (by decide) (by decide)) q7a q7c (g := (mkF m 31 #[.val (.ref li), .val (.ref nd), .val (.long ky), .second, .val .null] [(.ref nd)])) rfl (by rw [hml]; rfl) (Steps.refl _) (argsL := []) (rest := []) (lenOf pd_16_0_1 rfl) rfl (by show 2 * 0 + _ ≤ _; exact Nat.le_of_eq rfl) (hb hby d16_31) (fun _ _ => ⟨rfl, rfl, (by decide : 0 + 0 ≤ _), (by decide : 0 + 0 ≤ _)⟩)
  dsimp only [Pt.U, Pt.locs, Pt.cells, Pt.slots] at X7 l7 y7 z7 st7 hQ7
  subst l7 y7 z7
  obtain ⟨rfl, N7q, K7q⟩ := hQ7
  have N7 := Fr.app N6 N7q
  refine Go.step (fun t k => st7.trans k) ?_
  show Go _ _ _ _ _ _ _ (T7.setTop (mkF m 34 #[.val (.ref li), .val (.ref nd), .val (.long ky), .second, .val .null] [(.int (1 : Int32))]))
  refine Go.step (fun t k => XS.ifNo X7.here hx rfl (hb hby d16_34) rfl ((if0 _ _).trans (feq (by decide : ¬ (1 : Int32) = (0 : Int32))).1) k) ?_
  show Go _ _ _ _ _ _ _ (T7.setTop (mkF m 37 #[.val (.ref li), .val (.ref nd), .val (.long ky), .second, .val .null] []))
  refine Go.step (fun t k => XS.aloadN X7.here hx rfl (hb hby d16_37) rfl rfl (XS.aloadN X7.here hx rfl (hb hby d16_38) rfl rfl k)) ?_
  show Go _ _ _ _ _ _ _ (T7.setTop (mkF m 39 #[.val (.ref li), .val (.ref nd), .val (.long ky), .second, .val .null] [(.ref li), (.ref nd)]))
  obtain ⟨T8, X8, e8, st8⟩ := getF X7 hx hZ hown (host := "") (Or.inl (hw _ (List.mem_of_getElem? (i := 30) rfl))) Via.refl K7q F_last_li (g := (mkF m 39 #[.val (.ref li), .val (.ref nd), .val (.long ky), .second, .val .null] [(.ref li), (.ref nd)])) rfl rfl (hb hby d16_39)
  refine Go.step st8 ?_
  show Go _ _ _ _ _ _ _ (T8.setTop (mkF m 42 #[.val (.ref li), .val (.ref nd), .val (.long ky), .second, .val .null] [(.ref nd), (.ref nd)]))
  refine Go.step (fun t k => Jvm.RoadKit.acmp (g := (mkF m 42 #[.val (.ref li), .val (.ref nd), .val (.long ky), .second, .val .null] [(.ref nd), (.ref nd)])) X8 hx rfl rfl rfl (pc0 := 42) (pc' := 45) (same := true) rfl (hb hby d16_42) rfl (decide_eq_true rfl) (by decide) (by decide) k) ?_
  show Go _ _ _ _ _ _ _ (T8.setTop (mkF m 45 #[.val (.ref li), .val (.ref nd), .val (.long ky), .second, .val .null] []))
  refine Go.step (fun t k => XS.aloadN X8.here hx rfl (hb hby d16_45) rfl rfl (XS.aload X8.here hx rfl (hb hby d16_46) rfl rfl k)) ?_
  show Go _ _ _ _ _ _ _ (T8.setTop (mkF m 48 #[.val (.ref li), .val (.ref nd), .val (.long ky), .second, .val .null] [.null, (.ref li)]))
  obtain ⟨T9, h9, X9, e9, W9, st9⟩ := putF X8 hx hZ hown (host := "") (Or.inl (hw _ (List.mem_of_getElem? (i := 30) rfl))) Via.refl e8 F_last_li E_li (Or.inl (hw _ (List.mem_of_getElem? (i := 31) rfl))) (hw _ (List.mem_of_getElem? (i := 1) rfl)) (ty := (.object "com/example/matchstone/matchstone/LevelIndex$Node")) (by decide) rfl rfl (g := (mkF m 48 #[.val (.ref li), .val (.ref nd), .val (.long ky), .second, .val .null] [.null, (.ref li)])) rfl rfl (hb hby d16_48)
  replace F_root_li := F_root_li.other W9 (Or.inr (slot_ne (Or.inl (hw _ (List.mem_of_getElem? (i := 29) rfl))) (Or.inl (hw _ (List.mem_of_getElem? (i := 31) rfl))) (by decide) (t := (.object "com/example/matchstone/matchstone/LevelIndex$Node")) (t' := (.object "com/example/matchstone/matchstone/LevelIndex$Node")) (by decide) (by decide)))
  replace F_ahead_li := F_ahead_li.other W9 (Or.inr (slot_ne (Or.inl (hw _ (List.mem_of_getElem? (i := 83) rfl))) (Or.inl (hw _ (List.mem_of_getElem? (i := 31) rfl))) (by decide) (t := (.object "com/example/matchstone/matchstone/PriceLevel")) (t' := (.object "com/example/matchstone/matchstone/LevelIndex$Node")) (by decide) (by decide)))
  replace E_li := E_li.wr W9
  replace E_nd := E_nd.wr W9
  replace F_keys_nd := F_keys_nd.other W9 (Or.inl (Ne.symm ne_li_nd))
  replace F_levels_nd := F_levels_nd.other W9 (Or.inl (Ne.symm ne_li_nd))
  replace F_children_nd := F_children_nd.other W9 (Or.inl (Ne.symm ne_li_nd))
  replace F_size_nd := F_size_nd.other W9 (Or.inl (Ne.symm ne_li_nd))
  replace F_next_nd := F_next_nd.other W9 (Or.inl (Ne.symm ne_li_nd))
  replace F_previous_nd := F_previous_nd.other W9 (Or.inl (Ne.symm ne_li_nd))
  replace A_kr := A_kr.other W9 (Ne.symm ne_li_kr)
  replace R_lr := R_lr.other W9 (Ne.symm ne_li_lr)
  have Z9 := Nat.le_trans Z6 (Keep.of_wr W9).1
  have N9 := Fr.snoc X9 N7 g_li
  have K9 := K6'.wr W9 (Or.inl (List.mem_of_getElem? (i := 0) rfl))
  replace F_last_li := F_last_li.same W9
  refine Go.step st9 ?_
  show Go _ _ _ _ _ _ _ (T9.setTop (mkF m 51 #[.val (.ref li), .val (.ref nd), .val (.long ky), .second, .val .null] []))
  refine Go.step (fun t k => XS.goto X9.here hx rfl (pc0 := 51) (pc' := 82) rfl (hb hby d16_51) (by decide) (by decide) (XS.aloadN X9.here hx rfl (hb hby d16_82) rfl rfl k)) ?_
  show Go _ _ _ _ _ _ _ (T9.setTop (mkF m 83 #[.val (.ref li), .val (.ref nd), .val (.long ky), .second, .val .null] [(.ref nd)]))
  obtain ⟨cq10, kq10, q10a, q10b, q10c⟩ := isOf hZ e9 E_nd
  obtain ⟨_, _, ⟨T10, L10, k10, n10⟩, -, X10, ⟨Lc10, hQ10, l10, y10, z10⟩, st10⟩ := X9.virtualBack hx (y := (⟨"com/example/matchstone/matchstone/LevelIndex$Node", "isEmpty", "()Z"⟩ : MethodName)) (z := (⟨"com/example/matchstone/matchstone/LevelIndex$Node", "isEmpty", "()Z"⟩ : MethodName)) hown (mvT hZ (hw _ (List.mem_of_getElem? (i := 109) rfl))) (mvT hZ (hw _ (List.mem_of_getElem? (i := 110) rfl))) (notFace_of_selects (args := #[]) (mvT hZ (hw _ (List.mem_of_getElem? (i := 112) rfl)))) (mvT hZ (hw _ (List.mem_of_getElem? (i := 112) rfl))) (mvT hZ (hw _ (List.mem_of_getElem? (i := 111) rfl))) (by decide) (backOf (W := 0) (rm18_0 l Z a0 hw [] nd lr h9 n0 Z9 F_levels_nd F_size_nd E_nd) hZ (hw _ (List.mem_of_getElem? (i := 113) rfl)) (hw _ (List.mem_of_getElem? (i := 11) rfl)) (by decide) (by decide)) q10a q10c (g := (mkF m 83 #[.val (.ref li), .val (.ref nd), .val (.long ky), .second, .val .null] [(.ref nd)])) rfl (by rw [hml]; rfl) (Steps.refl _) (argsL := []) (rest := []) (lenOf pd_16_0_1 rfl) rfl (by show 2 * 0 + _ ≤ _; exact Nat.le_of_eq rfl) (hb hby d16_83) (fun _ _ => ⟨rfl, e9, (by decide : 0 + 0 ≤ _), (by decide : 0 + 0 ≤ _)⟩)
  dsimp only [Pt.U, Pt.locs, Pt.cells, Pt.slots] at X10 l10 y10 z10 st10 hQ10
  subst l10 y10 z10
  obtain ⟨rfl, N10q, K10q⟩ := hQ10
  have N10 := Fr.app N9 N10q
  refine Go.step (fun t k => st10.trans k) ?_
  show Go _ _ _ _ _ _ _ (T10.setTop (mkF m 86 #[.val (.ref li), .val (.ref nd), .val (.long ky), .second, .val .null] [(.int (1 : Int32))]))
  refine Go.retN X10 Bd.notSynchronized hx (t := .boolean) Bd.returns (by simp) (hb hby d16_86) (by decide) (by decide) (1 : Int32) rfl ?_
  rw [K10q]
  exact ⟨im, rfl, N10, K9, him, hgi, F_root_li, F_last_li, F_ahead_li, E_li, F_keys_nd, F_levels_nd, F_children_nd, F_size_nd, F_next_nd, F_previous_nd, E_nd, A_kr, R_lr⟩
theorem d15_0 : decode prog_21_method_9_code 0 = .ok (.aload_n 0, 1) := by decide +kernel
theorem d15_1 : decode prog_21_method_9_code 1 = .ok (.getfield 19, 3) := by decide +kernel
theorem d15_4 : decode prog_21_method_9_code 4 = .ok (.getfield 30, 3) := by decide +kernel
theorem d15_7 : decode prog_21_method_9_code 7 = .ok (.iconst 1, 1) := by decide +kernel
theorem d15_8 : decode prog_21_method_9_code 8 = .ok (.if_icmp .le 42, 3) := by decide +kernel
theorem d15_50 : decode prog_21_method_9_code 50 = .ok (.aload_n 0, 1) := by decide +kernel
theorem d15_51 : decode prog_21_method_9_code 51 = .ok (.aload_n 0, 1) := by decide +kernel
theorem d15_52 : decode prog_21_method_9_code 52 = .ok (.getfield 13, 3) := by decide +kernel
theorem d15_55 : decode prog_21_method_9_code 55 = .ok (.lload_n 1, 1) := by decide +kernel
theorem d15_56 : decode prog_21_method_9_code 56 = .ok (.invokevirtual 90, 3) := by decide +kernel
theorem d15_59 : decode prog_21_method_9_code 59 = .ok (.ifCond .eq 18, 3) := by decide +kernel
theorem d15_62 : decode prog_21_method_9_code 62 = .ok (.aload_n 0, 1) := by decide +kernel
theorem d15_63 : decode prog_21_method_9_code 63 = .ok (.invokestatic 7, 3) := by decide +kernel
theorem d15_66 : decode prog_21_method_9_code 66 = .ok (.putfield 13, 3) := by decide +kernel
theorem d15_69 : decode prog_21_method_9_code 69 = .ok (.aload_n 0, 1) := by decide +kernel
theorem d15_70 : decode prog_21_method_9_code 70 = .ok (.aload_n 0, 1) := by decide +kernel
theorem d15_71 : decode prog_21_method_9_code 71 = .ok (.getfield 13, 3) := by decide +kernel
theorem d15_74 : decode prog_21_method_9_code 74 = .ok (.putfield 19, 3) := by decide +kernel
theorem d15_77 : decode prog_21_method_9_code 77 = .ok (.aload_n 0, 1) := by decide +kernel
theorem d15_78 : decode prog_21_method_9_code 78 = .ok (.getfield 13, 3) := by decide +kernel
theorem d15_81 : decode prog_21_method_9_code 81 = .ok (.invokevirtual 50, 3) := by decide +kernel
theorem d15_84 : decode prog_21_method_9_code 84 = .ok (.ifCond .ne 29, 3) := by decide +kernel
theorem d15_113 : decode prog_21_method_9_code 113 = .ok (.return_, 1) := by decide +kernel
theorem pn_15_1 : plainName "com/example/matchstone/matchstone/LevelIndex" = true := by first | (simp [plainName, overriddenIn]; done) | decide +kernel
theorem pd_15_0_1 : parseMethodDescriptor "(Lcom/example/matchstone/matchstone/LevelIndex$Node;J)Z" = some ⟨[(.object "com/example/matchstone/matchstone/LevelIndex$Node"), .long], some .boolean⟩ := by decide +kernel
theorem pd_15_1_1 : parseMethodDescriptor "()Lcom/example/matchstone/matchstone/LevelIndex$Node;" = some ⟨[], some (.object "com/example/matchstone/matchstone/LevelIndex$Node")⟩ := by decide +kernel
theorem pd_15_2_1 : parseMethodDescriptor "()Z" = some ⟨[], some .boolean⟩ := by decide +kernel
theorem ef_15_1 (m : MethodId) (x0 : Addr) (x1 : Int64) : entryFrame m #[(.ref x0), (.long x1)] 3 = mkF m 0 #[.val (.ref x0), .val (.long x1), .second] [] := by first | (simp [entryFrame, mkF, argsToLocals, Value.category]; done) | rfl
def Q15_1 (Z : State) (li : Addr) (ky : Int64) (nd : Addr) (kr : Addr) (lr : Addr) (gk : Nat → Int64) (gl : Nat → Value) (aw : Value) (h0 : Heap) (n0 : Nat) (v : Option Value) (h : Heap) (L : List Loc) : Prop := ∃ nd2 : Addr, ∃ kr2 : Addr, ∃ lr2 : Addr, v = none ∧ Fr n0 L ∧ Keep h0 h [li, nd, kr, lr] ∧ h0.size ≤ nd2 ∧ h0.size ≤ kr2 ∧ h0.size ≤ lr2 ∧ kr2 ≠ lr2 ∧ Fld Z h li "com/example/matchstone/matchstone/LevelIndex" "root" "Lcom/example/matchstone/matchstone/LevelIndex$Node;" (.ref nd2) ∧ Fld Z h li "com/example/matchstone/matchstone/LevelIndex" "last" "Lcom/example/matchstone/matchstone/LevelIndex$Node;" (.ref nd2) ∧ Fld Z h li "com/example/matchstone/matchstone/LevelIndex" "ahead" "Lcom/example/matchstone/matchstone/PriceLevel;" aw ∧ Exa Z h li "com/example/matchstone/matchstone/LevelIndex" ∧ Fld Z h nd2 "com/example/matchstone/matchstone/LevelIndex$Node" "keys" "[J" (.ref kr2) ∧ Fld Z h nd2 "com/example/matchstone/matchstone/LevelIndex$Node" "levels" "[Lcom/example/matchstone/matchstone/PriceLevel;" (.ref lr2) ∧ Fld Z h nd2 "com/example/matchstone/matchstone/LevelIndex$Node" "children" "[Lcom/example/matchstone/matchstone/LevelIndex$Node;" .null ∧ Fld Z h nd2 "com/example/matchstone/matchstone/LevelIndex$Node" "size" "I" (.int (0 : Int32)) ∧ Fld Z h nd2 "com/example/matchstone/matchstone/LevelIndex$Node" "next" "Lcom/example/matchstone/matchstone/LevelIndex$Node;" .null ∧ Fld Z h nd2 "com/example/matchstone/matchstone/LevelIndex$Node" "previous" "Lcom/example/matchstone/matchstone/LevelIndex$Node;" .null ∧ Exa Z h nd2 "com/example/matchstone/matchstone/LevelIndex$Node" ∧ AryJ Z h kr2 65 (fun _ => (0 : Int64)) ∧ RAr Z h lr2 "com/example/matchstone/matchstone/PriceLevel" 65 (fun _ => .null)
set_option maxRecDepth 65536 in
set_option maxHeartbeats 40000000 in
theorem rm15_1 (l : Launch) (Z : State) (a0 : Array Value) (hw : ∀ d ∈ tables_1, d.before a0 Z = true) (ws : List Jvm.Cond) (li : Addr) (ky : Int64) (nd : Addr) (kr : Addr) (lr : Addr) (gk : Nat → Int64) (gl : Nat → Value) (aw : Value) (h0 : Heap) (n0 : Nat) (Z0 : n0 ≤ h0.size) (F_root_li : Fld Z h0 li "com/example/matchstone/matchstone/LevelIndex" "root" "Lcom/example/matchstone/matchstone/LevelIndex$Node;" (.ref nd)) (F_last_li : Fld Z h0 li "com/example/matchstone/matchstone/LevelIndex" "last" "Lcom/example/matchstone/matchstone/LevelIndex$Node;" (.ref nd)) (F_ahead_li : Fld Z h0 li "com/example/matchstone/matchstone/LevelIndex" "ahead" "Lcom/example/matchstone/matchstone/PriceLevel;" aw) (E_li : Exa Z h0 li "com/example/matchstone/matchstone/LevelIndex") (g_li : n0 ≤ li) (F_keys_nd : Fld Z h0 nd "com/example/matchstone/matchstone/LevelIndex$Node" "keys" "[J" (.ref kr)) (F_levels_nd : Fld Z h0 nd "com/example/matchstone/matchstone/LevelIndex$Node" "levels" "[Lcom/example/matchstone/matchstone/PriceLevel;" (.ref lr)) (F_children_nd : Fld Z h0 nd "com/example/matchstone/matchstone/LevelIndex$Node" "children" "[Lcom/example/matchstone/matchstone/LevelIndex$Node;" .null) (F_size_nd : Fld Z h0 nd "com/example/matchstone/matchstone/LevelIndex$Node" "size" "I" (.int (1 : Int32))) (F_next_nd : Fld Z h0 nd "com/example/matchstone/matchstone/LevelIndex$Node" "next" "Lcom/example/matchstone/matchstone/LevelIndex$Node;" .null) (F_previous_nd : Fld Z h0 nd "com/example/matchstone/matchstone/LevelIndex$Node" "previous" "Lcom/example/matchstone/matchstone/LevelIndex$Node;" .null) (E_nd : Exa Z h0 nd "com/example/matchstone/matchstone/LevelIndex$Node") (A_kr : AryJ Z h0 kr 65 gk) (R_lr : RAr Z h0 lr "com/example/matchstone/matchstone/PriceLevel" 65 gl) (g_nd : n0 ≤ nd) (g_kr : n0 ≤ kr) (g_lr : n0 ≤ lr) (ne_kr_lr : kr ≠ lr) (hs : (own_srt 1 gk)) (hex : (∃ i, i < 1 ∧ gk i = ky)) :
    MetFree l (⟨"com/example/matchstone/matchstone/LevelIndex", "remove", "(J)V"⟩ : MethodName) (head1 (Jvm.Cond.code (⟨"com/example/matchstone/matchstone/LevelIndex", "remove", "(J)V"⟩ : MethodName) prog_21_method_9_code 3 none :: ws) ({ frames := 3, cells := 3, slots := 136, locals := 69 } : Room)) (fun a U => a = #[(.ref li), (.long ky)] ∧ Z.Warmed39 U.vm ∧ U.heap = h0) (fun _ _ _ _ _ => True) (fun _ U o U' => ∃ v L, o = .returned v ∧ Q15_1 Z li ky nd kr lr gk gl aw h0 n0 v U'.heap L ∧ FrameEnd U o U' L ({ frames := 3, cells := 3, slots := 136, locals := 69 } : Room).cells ({ frames := 3, cells := 3, slots := 136, locals := 69 } : Room).slots) := by
  refine MetFree.of_bodySF (plainFor_of_name pn_15_1) hisR ?_
  intro p e s m args below meth c s₁ Bd hml0 hP hK
  obtain ⟨rfl, hZ, hh⟩ := hP
  have hx := Bd.exec
  have hby := Bd.bytes
  have hml : c.maxLocals = 3 := hml0
  have hown : s.vm.findClass "com/example/matchstone/matchstone/LevelIndex" = some m.cls := findClass_of_methodNamed Bd.named
  have hnm := (name_of_methodNamed Bd.named Bd.method).1
  have X0 : Stand p l e ({ frames := 3, cells := 3, slots := 136, locals := 69 } : Room) s m #[(.ref li), (.long ky)] below meth c s₁ [] 0 0 := Stand.of_body Bd
  have e0 : s₁.heap = h0 := by rw [← hh, Bd.state]; rfl
  have N0 := Fr.nil n0
  have K0 := Keep.refl h0 ([li, nd, kr, lr] : List Addr)
  show Go p e below s (Q15_1 Z li ky nd kr lr gk gl aw h0 n0) ({ frames := 3, cells := 3, slots := 136, locals := 69 } : Room).cells ({ frames := 3, cells := 3, slots := 136, locals := 69 } : Room).slots (s₁.setTop (entryFrame m #[(.ref li), (.long ky)] 3))
  rw [ef_15_1]
  show Go _ _ _ _ _ _ _ (s₁.setTop (mkF m 0 #[.val (.ref li), .val (.long ky), .second] []))
  refine Go.step (fun t k => XS.aloadN X0.here hx rfl (hb hby d15_0) rfl rfl k) ?_
  show Go _ _ _ _ _ _ _ (s₁.setTop (mkF m 1 #[.val (.ref li), .val (.long ky), .second] [(.ref li)]))
  obtain ⟨T1, X1, e1, st1⟩ := getF X0 hx hZ hown (host := "") (Or.inl (hw _ (List.mem_of_getElem? (i := 30) rfl))) Via.refl e0 F_last_li (g := (mkF m 1 #[.val (.ref li), .val (.long ky), .second] [(.ref li)])) rfl rfl (hb hby d15_1)
  refine Go.step st1 ?_
  show Go _ _ _ _ _ _ _ (T1.setTop (mkF m 4 #[.val (.ref li), .val (.long ky), .second] [(.ref nd)]))
  obtain ⟨T2, X2, e2, st2⟩ := own_getR X1 hx hZ hown (hw _ (List.mem_of_getElem? (i := 48) rfl)) e1 F_size_nd (f := (mkF m 4 #[.val (.ref li), .val (.long ky), .second] [(.ref nd)])) rfl rfl (hb hby d15_4)
  refine Go.step st2 ?_
  show Go _ _ _ _ _ _ _ (T2.setTop (mkF m 7 #[.val (.ref li), .val (.long ky), .second] [(.int (1 : Int32))]))
  refine Go.step (fun t k => XS.iconst X2.here hx rfl (hb hby d15_7) k) ?_
  show Go _ _ _ _ _ _ _ (T2.setTop (mkF m 8 #[.val (.ref li), .val (.long ky), .second] [(.int (1 : Int32)), (.int (1 : Int32))]))
  refine Go.step (fun t k => XS.icmpYes X2.here hx rfl (pc0 := 8) (pc' := 50) rfl (hb hby d15_8) rfl (flt (by decide : ¬ (1 : Int32) < (1 : Int32))).2.2.2 (by decide) (by decide) k) ?_
  show Go _ _ _ _ _ _ _ (T2.setTop (mkF m 50 #[.val (.ref li), .val (.long ky), .second] []))
  refine Go.step (fun t k => XS.aloadN X2.here hx rfl (hb hby d15_50) rfl rfl (XS.aloadN X2.here hx rfl (hb hby d15_51) rfl rfl k)) ?_
  show Go _ _ _ _ _ _ _ (T2.setTop (mkF m 52 #[.val (.ref li), .val (.long ky), .second] [(.ref li), (.ref li)]))
  obtain ⟨T3, X3, e3, st3⟩ := getF X2 hx hZ hown (host := "") (Or.inl (hw _ (List.mem_of_getElem? (i := 28) rfl))) Via.refl e2 F_root_li (g := (mkF m 52 #[.val (.ref li), .val (.long ky), .second] [(.ref li), (.ref li)])) rfl rfl (hb hby d15_52)
  refine Go.step st3 ?_
  show Go _ _ _ _ _ _ _ (T3.setTop (mkF m 55 #[.val (.ref li), .val (.long ky), .second] [(.ref nd), (.ref li)]))
  refine Go.step (fun t k => XS.lloadN X3.here hx rfl (hb hby d15_55) rfl k) ?_
  show Go _ _ _ _ _ _ _ (T3.setTop (mkF m 56 #[.val (.ref li), .val (.long ky), .second] [(.long ky), (.ref nd), (.ref li)]))
  obtain ⟨cq4, q4, q4'⟩ := E_li.cell
  obtain ⟨_, _, ⟨T4, L4, k4, n4⟩, -, X4, ⟨Lc4, hQ4, l4, y4, z4⟩, st4⟩ := X3.privateBack hx (y := (⟨"com/example/matchstone/matchstone/LevelIndex", "remove", "(Lcom/example/matchstone/matchstone/LevelIndex$Node;J)Z"⟩ : MethodName)) hown (mvT hZ (hw _ (List.mem_of_getElem? (i := 98) rfl))) (mvT hZ (hw _ (List.mem_of_getElem? (i := 99) rfl))) (own_selP hZ (hw _ (List.mem_of_getElem? (i := 1) rfl)) (hw _ (List.mem_of_getElem? (i := 99) rfl)) (hw _ (List.mem_of_getElem? (i := 100) rfl)) (by decide)) (Cond.privateMethod_at (mvP hZ (hw _ (List.mem_of_getElem? (i := 100) rfl)) (args := #[]))) (mvT hZ (hw _ (List.mem_of_getElem? (i := 101) rfl))) (by decide) (backOf (W := 0) (rm16_1 l Z a0 hw [] li nd ky kr lr gk gl aw h0 n0 Z0 F_root_li F_last_li F_ahead_li E_li g_li F_keys_nd F_levels_nd F_children_nd F_size_nd F_next_nd F_previous_nd E_nd A_kr R_lr g_nd g_kr g_lr ne_kr_lr (by assumption) (by assumption)) hZ (hw _ (List.mem_of_getElem? (i := 101) rfl)) (hw _ (List.mem_of_getElem? (i := 2) rfl)) (by decide) (by decide)) (g := (mkF m 56 #[.val (.ref li), .val (.long ky), .second] [(.long ky), (.ref nd), (.ref li)])) rfl (by rw [hml]; rfl) (Steps.refl _) (a := li) (by rw [e3]; exact q4) q4' (argsL := [(.ref nd), (.long ky)]) (rest := []) (lenOf pd_15_0_1 rfl) rfl (by show 2 * 0 + _ ≤ _; exact Nat.le_of_eq rfl) (hb hby d15_56) (fun _ _ => ⟨rfl, e3, (by decide : 0 + 0 ≤ _), (by decide : 0 + 0 ≤ _)⟩)
  dsimp only [Pt.U, Pt.locs, Pt.cells, Pt.slots] at X4 l4 y4 z4 st4 hQ4
  subst l4 y4 z4
  obtain ⟨im_4, rfl, N4q, K4q, o4_him, o4_hgi, o4_F_root_li, o4_F_last_li, o4_F_ahead_li, o4_E_li, o4_F_keys_nd, o4_F_levels_nd, o4_F_children_nd, o4_F_size_nd, o4_F_next_nd, o4_F_previous_nd, o4_E_nd, o4_A_kr, o4_R_lr⟩ := hQ4
  have N4 := Fr.app N0 N4q
  replace E_li := E_li.keep K4q
  replace E_nd := E_nd.keep K4q
  have Z4 := Nat.le_trans Z0 K4q.1
  have K4' := K0.trans K4q (allS (Or.inl (List.mem_of_getElem? (i := 0) rfl)) (allS (Or.inl (List.mem_of_getElem? (i := 1) rfl)) (allS (Or.inl (List.mem_of_getElem? (i := 2) rfl)) (allS (Or.inl (List.mem_of_getElem? (i := 3) rfl)) all0))))
  have F_root_li := o4_F_root_li
  have F_last_li := o4_F_last_li
  have F_ahead_li := o4_F_ahead_li
  have E_li := o4_E_li
  have F_keys_nd := o4_F_keys_nd
  have F_levels_nd := o4_F_levels_nd
  have F_children_nd := o4_F_children_nd
  have F_size_nd := o4_F_size_nd
  have F_next_nd := o4_F_next_nd
  have F_previous_nd := o4_F_previous_nd
  have E_nd := o4_E_nd
  have A_kr := o4_A_kr
  have R_lr := o4_R_lr
  refine Go.step (fun t k => st4.trans k) ?_
  show Go _ _ _ _ _ _ _ (T4.setTop (mkF m 59 #[.val (.ref li), .val (.long ky), .second] [(.int (1 : Int32))]))
  refine Go.step (fun t k => XS.ifNo X4.here hx rfl (hb hby d15_59) rfl ((if0 _ _).trans (feq (by decide : ¬ (1 : Int32) = (0 : Int32))).1) k) ?_
  show Go _ _ _ _ _ _ _ (T4.setTop (mkF m 62 #[.val (.ref li), .val (.long ky), .second] []))
  refine Go.step (fun t k => XS.aloadN X4.here hx rfl (hb hby d15_62) rfl rfl k) ?_
  show Go _ _ _ _ _ _ _ (T4.setTop (mkF m 63 #[.val (.ref li), .val (.long ky), .second] [(.ref li)]))
  obtain ⟨_, _, ⟨T5, L5, k5, n5⟩, -, X5, ⟨Lc5, hQ5, l5, y5, z5⟩, st5⟩ := Jvm.LawKit.callS X4 hx (y := (⟨"com/example/matchstone/matchstone/LevelIndex$Node", "leaf", "()Lcom/example/matchstone/matchstone/LevelIndex$Node;"⟩ : MethodName)) hown (mvT hZ (hw _ (List.mem_of_getElem? (i := 9) rfl))) (mvT hZ (hw _ (List.mem_of_getElem? (i := 10) rfl))) (mvT hZ (hw _ (List.mem_of_getElem? (i := 11) rfl))) (mvT hZ (hw _ (List.mem_of_getElem? (i := 12) rfl))) (by decide) (backOf (W := 1) (rm3 l Z a0 hw []  T4.heap n0 Z4) hZ (hw _ (List.mem_of_getElem? (i := 12) rfl)) (hw _ (List.mem_of_getElem? (i := 11) rfl)) (by decide) (by decide)) (g := (mkF m 63 #[.val (.ref li), .val (.long ky), .second] [(.ref li)])) rfl (by rw [hml]; rfl) (argsL := []) (rest := [(.ref li)]) (lenOf pd_15_1_1 rfl) rfl (by show 2 * 0 + _ ≤ _; exact Nat.le_of_eq rfl) (hb hby d15_63) (fun _ _ => ⟨rfl, rfl, (by decide : 0 + 3 ≤ _), (by decide : 0 + 136 ≤ _)⟩)
  dsimp only [Pt.U, Pt.locs, Pt.cells, Pt.slots] at X5 l5 y5 z5 st5 hQ5
  subst l5 y5 z5
  obtain ⟨nd2, kr2, lr2, rfl, N5q, K5q, o5_nw_nd2, o5_nw_kr2, o5_nw_lr2, o5_ne_kr2_lr2, o5_F_keys_nd2, o5_F_levels_nd2, o5_F_children_nd2, o5_F_size_nd2, o5_F_next_nd2, o5_F_previous_nd2, o5_E_nd2, o5_A_kr2, o5_R_lr2⟩ := hQ5
  have N5 := Fr.app N4 N5q
  have ne_li_nd2 : li ≠ nd2 := Nat.ne_of_lt (Nat.lt_of_lt_of_le E_li.lt o5_nw_nd2)
  have ne_nd_nd2 : nd ≠ nd2 := Nat.ne_of_lt (Nat.lt_of_lt_of_le E_nd.lt o5_nw_nd2)
  have ne_kr_nd2 : kr ≠ nd2 := Nat.ne_of_lt (Nat.lt_of_lt_of_le A_kr.lt o5_nw_nd2)
  have ne_lr_nd2 : lr ≠ nd2 := Nat.ne_of_lt (Nat.lt_of_lt_of_le R_lr.lt o5_nw_nd2)
  have g_nd2 : n0 ≤ nd2 := Nat.le_trans Z4 o5_nw_nd2
  have sz_nd2 : h0.size ≤ nd2 := Nat.le_trans K4'.1 o5_nw_nd2
  have ne_li_kr2 : li ≠ kr2 := Nat.ne_of_lt (Nat.lt_of_lt_of_le E_li.lt o5_nw_kr2)
  have ne_nd_kr2 : nd ≠ kr2 := Nat.ne_of_lt (Nat.lt_of_lt_of_le E_nd.lt o5_nw_kr2)
  have ne_kr_kr2 : kr ≠ kr2 := Nat.ne_of_lt (Nat.lt_of_lt_of_le A_kr.lt o5_nw_kr2)
  have ne_lr_kr2 : lr ≠ kr2 := Nat.ne_of_lt (Nat.lt_of_lt_of_le R_lr.lt o5_nw_kr2)
  have g_kr2 : n0 ≤ kr2 := Nat.le_trans Z4 o5_nw_kr2
  have sz_kr2 : h0.size ≤ kr2 := Nat.le_trans K4'.1 o5_nw_kr2
  have ne_li_lr2 : li ≠ lr2 := Nat.ne_of_lt (Nat.lt_of_lt_of_le E_li.lt o5_nw_lr2)
  have ne_nd_lr2 : nd ≠ lr2 := Nat.ne_of_lt (Nat.lt_of_lt_of_le E_nd.lt o5_nw_lr2)
  have ne_kr_lr2 : kr ≠ lr2 := Nat.ne_of_lt (Nat.lt_of_lt_of_le A_kr.lt o5_nw_lr2)
  have ne_lr_lr2 : lr ≠ lr2 := Nat.ne_of_lt (Nat.lt_of_lt_of_le R_lr.lt o5_nw_lr2)
  have g_lr2 : n0 ≤ lr2 := Nat.le_trans Z4 o5_nw_lr2
  have sz_lr2 : h0.size ≤ lr2 := Nat.le_trans K4'.1 o5_nw_lr2
  replace E_li := E_li.keep K5q
  replace E_nd := E_nd.keep K5q
  replace F_root_li := F_root_li.keep K5q nin0
  replace F_last_li := F_last_li.keep K5q nin0
  replace F_ahead_li := F_ahead_li.keep K5q nin0
  replace F_keys_nd := F_keys_nd.keep K5q nin0
  replace F_levels_nd := F_levels_nd.keep K5q nin0
  replace F_children_nd := F_children_nd.keep K5q nin0
  replace F_size_nd := F_size_nd.keep K5q nin0
  replace F_next_nd := F_next_nd.keep K5q nin0
  replace F_previous_nd := F_previous_nd.keep K5q nin0
  replace A_kr := A_kr.keep K5q nin0
  replace R_lr := R_lr.keep K5q nin0
  have Z5 := Nat.le_trans Z4 K5q.1
  have K5' := K4'.trans K5q all0
  have F_keys_nd2 := o5_F_keys_nd2
  have F_levels_nd2 := o5_F_levels_nd2
  have F_children_nd2 := o5_F_children_nd2
  have F_size_nd2 := o5_F_size_nd2
  have F_next_nd2 := o5_F_next_nd2
  have F_previous_nd2 := o5_F_previous_nd2
  have E_nd2 := o5_E_nd2
  have A_kr2 := o5_A_kr2
  have R_lr2 := o5_R_lr2
  refine Go.step st5 ?_
  show Go _ _ _ _ _ _ _ (T5.setTop (mkF m 66 #[.val (.ref li), .val (.long ky), .second] [(.ref nd2), (.ref li)]))
  obtain ⟨T6, h6, X6, e6, W6, st6⟩ := putF X5 hx hZ hown (host := "") (Or.inl (hw _ (List.mem_of_getElem? (i := 28) rfl))) Via.refl rfl F_root_li E_li (Or.inl (hw _ (List.mem_of_getElem? (i := 29) rfl))) (hw _ (List.mem_of_getElem? (i := 1) rfl)) (ty := (.object "com/example/matchstone/matchstone/LevelIndex$Node")) (by decide) rfl rfl (g := (mkF m 66 #[.val (.ref li), .val (.long ky), .second] [(.ref nd2), (.ref li)])) rfl rfl (hb hby d15_66)
  have ne_nd_li : nd ≠ li := (ne_exa E_nd E_li (by decide))
  have ne_kr_li : kr ≠ li := (Ne.symm (own_neA E_li (hw _ (List.mem_of_getElem? (i := 1) rfl)) A_kr))
  have ne_lr_li : lr ≠ li := (Ne.symm (own_neR E_li (hw _ (List.mem_of_getElem? (i := 1) rfl)) R_lr))
  replace E_li := E_li.wr W6
  replace E_nd := E_nd.wr W6
  replace F_last_li := F_last_li.other W6 (Or.inr (slot_ne (Or.inl (hw _ (List.mem_of_getElem? (i := 31) rfl))) (Or.inl (hw _ (List.mem_of_getElem? (i := 29) rfl))) (by decide) (t := (.object "com/example/matchstone/matchstone/LevelIndex$Node")) (t' := (.object "com/example/matchstone/matchstone/LevelIndex$Node")) (by decide) (by decide)))
  replace F_ahead_li := F_ahead_li.other W6 (Or.inr (slot_ne (Or.inl (hw _ (List.mem_of_getElem? (i := 83) rfl))) (Or.inl (hw _ (List.mem_of_getElem? (i := 29) rfl))) (by decide) (t := (.object "com/example/matchstone/matchstone/PriceLevel")) (t' := (.object "com/example/matchstone/matchstone/LevelIndex$Node")) (by decide) (by decide)))
  replace F_keys_nd := F_keys_nd.other W6 (Or.inl ne_nd_li)
  replace F_levels_nd := F_levels_nd.other W6 (Or.inl ne_nd_li)
  replace F_children_nd := F_children_nd.other W6 (Or.inl ne_nd_li)
  replace F_size_nd := F_size_nd.other W6 (Or.inl ne_nd_li)
  replace F_next_nd := F_next_nd.other W6 (Or.inl ne_nd_li)
  replace F_previous_nd := F_previous_nd.other W6 (Or.inl ne_nd_li)
  replace A_kr := A_kr.other W6 ne_kr_li
  replace R_lr := R_lr.other W6 ne_lr_li
  replace F_keys_nd2 := F_keys_nd2.other W6 (Or.inl (Ne.symm ne_li_nd2))
  replace F_levels_nd2 := F_levels_nd2.other W6 (Or.inl (Ne.symm ne_li_nd2))
  replace F_children_nd2 := F_children_nd2.other W6 (Or.inl (Ne.symm ne_li_nd2))
  replace F_size_nd2 := F_size_nd2.other W6 (Or.inl (Ne.symm ne_li_nd2))
  replace F_next_nd2 := F_next_nd2.other W6 (Or.inl (Ne.symm ne_li_nd2))
  replace F_previous_nd2 := F_previous_nd2.other W6 (Or.inl (Ne.symm ne_li_nd2))
  replace E_nd2 := E_nd2.wr W6
  replace A_kr2 := A_kr2.other W6 (Ne.symm ne_li_kr2)
  replace R_lr2 := R_lr2.other W6 (Ne.symm ne_li_lr2)
  have Z6 := Nat.le_trans Z5 (Keep.of_wr W6).1
  have N6 := Fr.snoc X6 N5 g_li
  have K6 := K5'.wr W6 (Or.inl (List.mem_of_getElem? (i := 0) rfl))
  replace F_root_li := F_root_li.same W6
  refine Go.step st6 ?_
  show Go _ _ _ _ _ _ _ (T6.setTop (mkF m 69 #[.val (.ref li), .val (.long ky), .second] []))
  refine Go.step (fun t k => XS.aloadN X6.here hx rfl (hb hby d15_69) rfl rfl (XS.aloadN X6.here hx rfl (hb hby d15_70) rfl rfl k)) ?_
  show Go _ _ _ _ _ _ _ (T6.setTop (mkF m 71 #[.val (.ref li), .val (.long ky), .second] [(.ref li), (.ref li)]))
  obtain ⟨T7, X7, e7, st7⟩ := getF X6 hx hZ hown (host := "") (Or.inl (hw _ (List.mem_of_getElem? (i := 28) rfl))) Via.refl e6 F_root_li (g := (mkF m 71 #[.val (.ref li), .val (.long ky), .second] [(.ref li), (.ref li)])) rfl rfl (hb hby d15_71)
  refine Go.step st7 ?_
  show Go _ _ _ _ _ _ _ (T7.setTop (mkF m 74 #[.val (.ref li), .val (.long ky), .second] [(.ref nd2), (.ref li)]))
  obtain ⟨T8, h8, X8, e8, W8, st8⟩ := putF X7 hx hZ hown (host := "") (Or.inl (hw _ (List.mem_of_getElem? (i := 30) rfl))) Via.refl e7 F_last_li E_li (Or.inl (hw _ (List.mem_of_getElem? (i := 31) rfl))) (hw _ (List.mem_of_getElem? (i := 1) rfl)) (ty := (.object "com/example/matchstone/matchstone/LevelIndex$Node")) (by decide) rfl rfl (g := (mkF m 74 #[.val (.ref li), .val (.long ky), .second] [(.ref nd2), (.ref li)])) rfl rfl (hb hby d15_74)
  replace E_li := E_li.wr W8
  replace E_nd := E_nd.wr W8
  replace F_root_li := F_root_li.other W8 (Or.inr (slot_ne (Or.inl (hw _ (List.mem_of_getElem? (i := 29) rfl))) (Or.inl (hw _ (List.mem_of_getElem? (i := 31) rfl))) (by decide) (t := (.object "com/example/matchstone/matchstone/LevelIndex$Node")) (t' := (.object "com/example/matchstone/matchstone/LevelIndex$Node")) (by decide) (by decide)))
  replace F_ahead_li := F_ahead_li.other W8 (Or.inr (slot_ne (Or.inl (hw _ (List.mem_of_getElem? (i := 83) rfl))) (Or.inl (hw _ (List.mem_of_getElem? (i := 31) rfl))) (by decide) (t := (.object "com/example/matchstone/matchstone/PriceLevel")) (t' := (.object "com/example/matchstone/matchstone/LevelIndex$Node")) (by decide) (by decide)))
  replace F_keys_nd := F_keys_nd.other W8 (Or.inl ne_nd_li)
  replace F_levels_nd := F_levels_nd.other W8 (Or.inl ne_nd_li)
  replace F_children_nd := F_children_nd.other W8 (Or.inl ne_nd_li)
  replace F_size_nd := F_size_nd.other W8 (Or.inl ne_nd_li)
  replace F_next_nd := F_next_nd.other W8 (Or.inl ne_nd_li)
  replace F_previous_nd := F_previous_nd.other W8 (Or.inl ne_nd_li)
  replace A_kr := A_kr.other W8 ne_kr_li
  replace R_lr := R_lr.other W8 ne_lr_li
  replace F_keys_nd2 := F_keys_nd2.other W8 (Or.inl (Ne.symm ne_li_nd2))
  replace F_levels_nd2 := F_levels_nd2.other W8 (Or.inl (Ne.symm ne_li_nd2))
  replace F_children_nd2 := F_children_nd2.other W8 (Or.inl (Ne.symm ne_li_nd2))
  replace F_size_nd2 := F_size_nd2.other W8 (Or.inl (Ne.symm ne_li_nd2))
  replace F_next_nd2 := F_next_nd2.other W8 (Or.inl (Ne.symm ne_li_nd2))
  replace F_previous_nd2 := F_previous_nd2.other W8 (Or.inl (Ne.symm ne_li_nd2))
  replace E_nd2 := E_nd2.wr W8
  replace A_kr2 := A_kr2.other W8 (Ne.symm ne_li_kr2)
  replace R_lr2 := R_lr2.other W8 (Ne.symm ne_li_lr2)
  have Z8 := Nat.le_trans Z6 (Keep.of_wr W8).1
  have N8 := Fr.snoc X8 N6 g_li
  have K8 := K6.wr W8 (Or.inl (List.mem_of_getElem? (i := 0) rfl))
  replace F_last_li := F_last_li.same W8
  refine Go.step st8 ?_
  show Go _ _ _ _ _ _ _ (T8.setTop (mkF m 77 #[.val (.ref li), .val (.long ky), .second] []))
  refine Go.step (fun t k => XS.aloadN X8.here hx rfl (hb hby d15_77) rfl rfl k) ?_
  show Go _ _ _ _ _ _ _ (T8.setTop (mkF m 78 #[.val (.ref li), .val (.long ky), .second] [(.ref li)]))
  obtain ⟨T9, X9, e9, st9⟩ := getF X8 hx hZ hown (host := "") (Or.inl (hw _ (List.mem_of_getElem? (i := 28) rfl))) Via.refl e8 F_root_li (g := (mkF m 78 #[.val (.ref li), .val (.long ky), .second] [(.ref li)])) rfl rfl (hb hby d15_78)
  refine Go.step st9 ?_
  show Go _ _ _ _ _ _ _ (T9.setTop (mkF m 81 #[.val (.ref li), .val (.long ky), .second] [(.ref nd2)]))
  obtain ⟨cq10, kq10, q10a, q10b, q10c⟩ := isOf hZ e9 E_nd2
  obtain ⟨_, _, ⟨T10, L10, k10, n10⟩, -, X10, ⟨Lc10, hQ10, l10, y10, z10⟩, st10⟩ := X9.virtualBack hx (y := (⟨"com/example/matchstone/matchstone/LevelIndex$Node", "isLeaf", "()Z"⟩ : MethodName)) (z := (⟨"com/example/matchstone/matchstone/LevelIndex$Node", "isLeaf", "()Z"⟩ : MethodName)) hown (mvT hZ (hw _ (List.mem_of_getElem? (i := 66) rfl))) (mvT hZ (hw _ (List.mem_of_getElem? (i := 67) rfl))) (notFace_of_selects (args := #[]) (mvT hZ (hw _ (List.mem_of_getElem? (i := 69) rfl)))) (mvT hZ (hw _ (List.mem_of_getElem? (i := 69) rfl))) (mvT hZ (hw _ (List.mem_of_getElem? (i := 68) rfl))) (by decide) (backOf (W := 0) (rm9 l Z a0 hw [] nd2 lr2 h8 n0 Z8 F_levels_nd2) hZ (hw _ (List.mem_of_getElem? (i := 70) rfl)) (hw _ (List.mem_of_getElem? (i := 11) rfl)) (by decide) (by decide)) q10a q10c (g := (mkF m 81 #[.val (.ref li), .val (.long ky), .second] [(.ref nd2)])) rfl (by rw [hml]; rfl) (Steps.refl _) (argsL := []) (rest := []) (lenOf pd_15_2_1 rfl) rfl (by show 2 * 0 + _ ≤ _; exact Nat.le_of_eq rfl) (hb hby d15_81) (fun _ _ => ⟨rfl, e9, (by decide : 3 + 0 ≤ _), (by decide : 136 + 0 ≤ _)⟩)
  dsimp only [Pt.U, Pt.locs, Pt.cells, Pt.slots] at X10 l10 y10 z10 st10 hQ10
  subst l10 y10 z10
  obtain ⟨rfl, N10q, K10q⟩ := hQ10
  have N10 := Fr.app N8 N10q
  refine Go.step (fun t k => st10.trans k) ?_
  show Go _ _ _ _ _ _ _ (T10.setTop (mkF m 84 #[.val (.ref li), .val (.long ky), .second] [(.int (1 : Int32))]))
  refine Go.step (fun t k => XS.ifYes X10.here hx rfl (pc0 := 84) (pc' := 113) rfl (hb hby d15_84) rfl ((if0 _ _).trans (feq (by decide : ¬ (1 : Int32) = (0 : Int32))).2) (by decide) (by decide) k) ?_
  show Go _ _ _ _ _ _ _ (T10.setTop (mkF m 113 #[.val (.ref li), .val (.long ky), .second] []))
  refine Go.retV X10 Bd.notSynchronized hx Bd.returns (hb hby d15_113) (by decide) (by decide) ?_
  rw [K10q]
  exact ⟨nd2, kr2, lr2, rfl, N10, K8, sz_nd2, sz_kr2, sz_lr2, o5_ne_kr2_lr2, F_root_li, F_last_li, F_ahead_li, E_li, F_keys_nd2, F_levels_nd2, F_children_nd2, F_size_nd2, F_next_nd2, F_previous_nd2, E_nd2, A_kr2, R_lr2⟩
theorem pn_17 : plainName "com/example/matchstone/matchstone/LevelIndex$Node" = true := by first | (simp [plainName, overriddenIn]; done) | decide +kernel
theorem ef_17 (m : MethodId) (x0 : Addr) (x1 : Int32) : entryFrame m #[(.ref x0), (.int x1)] 2 = mkF m 0 #[.val (.ref x0), .val (.int x1)] [] := by first | (simp [entryFrame, mkF, argsToLocals, Value.category]; done) | rfl
def Q17 (Z : State) (nd : Addr) (ii : Int32) (kr : Addr) (lr : Addr) (gk : Nat → Int64) (gl : Nat → Value) (sz : Int32) (mm : Nat) (im : Nat) (h0 : Heap) (n0 : Nat) (v : Option Value) (h : Heap) (L : List Loc) : Prop := v = none ∧ Fr n0 L ∧ Keep h0 h [nd, kr, lr] ∧ Fld Z h nd "com/example/matchstone/matchstone/LevelIndex$Node" "keys" "[J" (.ref kr) ∧ Fld Z h nd "com/example/matchstone/matchstone/LevelIndex$Node" "levels" "[Lcom/example/matchstone/matchstone/PriceLevel;" (.ref lr) ∧ Fld Z h nd "com/example/matchstone/matchstone/LevelIndex$Node" "children" "[Lcom/example/matchstone/matchstone/LevelIndex$Node;" .null ∧ Fld Z h nd "com/example/matchstone/matchstone/LevelIndex$Node" "size" "I" (.int (sz - (1 : Int32))) ∧ Fld Z h nd "com/example/matchstone/matchstone/LevelIndex$Node" "next" "Lcom/example/matchstone/matchstone/LevelIndex$Node;" .null ∧ Fld Z h nd "com/example/matchstone/matchstone/LevelIndex$Node" "previous" "Lcom/example/matchstone/matchstone/LevelIndex$Node;" .null ∧ Exa Z h nd "com/example/matchstone/matchstone/LevelIndex$Node" ∧ AryJ Z h kr 65 (own_sh gk (im + 1) im (mm - im)) ∧ RAr Z h lr "com/example/matchstone/matchstone/PriceLevel" 65 (up (own_sh gl (im + 1) im (mm - im)) mm .null)
set_option maxRecDepth 65536 in
set_option maxHeartbeats 40000000 in
theorem rm17 (l : Launch) (Z : State) (a0 : Array Value) (hw : ∀ d ∈ tables_1, d.before a0 Z = true) (ws : List Jvm.Cond) (nd : Addr) (ii : Int32) (kr : Addr) (lr : Addr) (gk : Nat → Int64) (gl : Nat → Value) (sz : Int32) (mm : Nat) (im : Nat) (h0 : Heap) (n0 : Nat) (Z0 : n0 ≤ h0.size) (F_keys_nd : Fld Z h0 nd "com/example/matchstone/matchstone/LevelIndex$Node" "keys" "[J" (.ref kr)) (F_levels_nd : Fld Z h0 nd "com/example/matchstone/matchstone/LevelIndex$Node" "levels" "[Lcom/example/matchstone/matchstone/PriceLevel;" (.ref lr)) (F_children_nd : Fld Z h0 nd "com/example/matchstone/matchstone/LevelIndex$Node" "children" "[Lcom/example/matchstone/matchstone/LevelIndex$Node;" .null) (F_size_nd : Fld Z h0 nd "com/example/matchstone/matchstone/LevelIndex$Node" "size" "I" (.int sz)) (F_next_nd : Fld Z h0 nd "com/example/matchstone/matchstone/LevelIndex$Node" "next" "Lcom/example/matchstone/matchstone/LevelIndex$Node;" .null) (F_previous_nd : Fld Z h0 nd "com/example/matchstone/matchstone/LevelIndex$Node" "previous" "Lcom/example/matchstone/matchstone/LevelIndex$Node;" .null) (E_nd : Exa Z h0 nd "com/example/matchstone/matchstone/LevelIndex$Node") (A_kr : AryJ Z h0 kr 65 gk) (R_lr : RAr Z h0 lr "com/example/matchstone/matchstone/PriceLevel" 65 gl) (g_nd : n0 ≤ nd) (g_kr : n0 ≤ kr) (g_lr : n0 ≤ lr) (ne_kr_lr : kr ≠ lr) (hz : (sz.toInt = ((mm + 1 : Nat) : Int))) (hm1 : (1 ≤ mm)) (hm : (mm ≤ 2)) (hi : (ii.toInt = (im : Int))) (hin : (im < (mm + 1))) :
    MetFree l (⟨"com/example/matchstone/matchstone/LevelIndex$Node", "removeEntry", "(I)V"⟩ : MethodName) (head1 (Jvm.Cond.code (⟨"com/example/matchstone/matchstone/LevelIndex$Node", "removeEntry", "(I)V"⟩ : MethodName) prog_23_method_7_code 2 none :: ws) ({ frames := 1, cells := 0, slots := 0, locals := 40 } : Room)) (fun a U => a = #[(.ref nd), (.int ii)] ∧ Z.Warmed39 U.vm ∧ U.heap = h0) (fun _ _ _ _ _ => True) (fun _ U o U' => ∃ v L, o = .returned v ∧ Q17 Z nd ii kr lr gk gl sz mm im h0 n0 v U'.heap L ∧ FrameEnd U o U' L ({ frames := 1, cells := 0, slots := 0, locals := 40 } : Room).cells ({ frames := 1, cells := 0, slots := 0, locals := 40 } : Room).slots) := by
  refine MetFree.of_bodySF (plainFor_of_name pn_17) hisR ?_
  intro p e s m args below meth c s₁ Bd hml0 hP hK
  obtain ⟨rfl, hZ, hh⟩ := hP
  have hx := Bd.exec
  have hby := Bd.bytes
  have hml : c.maxLocals = 2 := hml0
  have hown : s.vm.findClass "com/example/matchstone/matchstone/LevelIndex$Node" = some m.cls := findClass_of_methodNamed Bd.named
  have hnm := (name_of_methodNamed Bd.named Bd.method).1
  have X0 : Stand p l e ({ frames := 1, cells := 0, slots := 0, locals := 40 } : Room) s m #[(.ref nd), (.int ii)] below meth c s₁ [] 0 0 := Stand.of_body Bd
  have e0 : s₁.heap = h0 := by rw [← hh, Bd.state]; rfl
  have N0 := Fr.nil n0
  have K0 := Keep.refl h0 ([nd, kr, lr] : List Addr)
  show Go p e below s (Q17 Z nd ii kr lr gk gl sz mm im h0 n0) ({ frames := 1, cells := 0, slots := 0, locals := 40 } : Room).cells ({ frames := 1, cells := 0, slots := 0, locals := 40 } : Room).slots (s₁.setTop (entryFrame m #[(.ref nd), (.int ii)] 2))
  rw [ef_17]
  show Go _ _ _ _ _ _ _ (s₁.setTop (mkF m 0 #[.val (.ref nd), .val (.int ii)] []))
  refine Go.step (fun t k => XS.aloadN X0.here hx rfl (hb hby d17_0) rfl rfl (XS.dup X0.here hx rfl (hb hby d17_1) rfl rfl k)) ?_
  show Go _ _ _ _ _ _ _ (s₁.setTop (mkF m 2 #[.val (.ref nd), .val (.int ii)] [(.ref nd), (.ref nd)]))
  obtain ⟨T1, X1, e1, st1⟩ := getF X0 hx hZ hown (host := "") (Or.inl (hw _ (List.mem_of_getElem? (i := 55) rfl))) Via.refl e0 F_size_nd (g := (mkF m 2 #[.val (.ref nd), .val (.int ii)] [(.ref nd), (.ref nd)])) rfl rfl (hb hby d17_2)
  refine Go.step st1 ?_
  show Go _ _ _ _ _ _ _ (T1.setTop (mkF m 5 #[.val (.ref nd), .val (.int ii)] [(.int sz), (.ref nd)]))
  refine Go.step (fun t k => XS.iconst X1.here hx rfl (hb hby d17_5) (XS.isub X1.here hx rfl (hb hby d17_6) rfl k)) ?_
  show Go _ _ _ _ _ _ _ (T1.setTop (mkF m 7 #[.val (.ref nd), .val (.int ii)] [(.int (sz - (1 : Int32))), (.ref nd)]))
  obtain ⟨T2, h2, X2, e2, W2, st2⟩ := putF X1 hx hZ hown (host := "") (Or.inl (hw _ (List.mem_of_getElem? (i := 55) rfl))) Via.refl e1 F_size_nd E_nd (Or.inl (hw _ (List.mem_of_getElem? (i := 49) rfl))) (hw _ (List.mem_of_getElem? (i := 14) rfl)) (ty := .int) (by decide) rfl rfl (g := (mkF m 7 #[.val (.ref nd), .val (.int ii)] [(.int (sz - (1 : Int32))), (.ref nd)])) rfl rfl (hb hby d17_7)
  have ne_kr_nd : kr ≠ nd := (Ne.symm (own_neA E_nd (hw _ (List.mem_of_getElem? (i := 14) rfl)) A_kr))
  have ne_lr_nd : lr ≠ nd := (Ne.symm (own_neR E_nd (hw _ (List.mem_of_getElem? (i := 14) rfl)) R_lr))
  replace F_keys_nd := F_keys_nd.other W2 (Or.inr (slot_ne (Or.inr (hw _ (List.mem_of_getElem? (i := 23) rfl))) (Or.inl (hw _ (List.mem_of_getElem? (i := 49) rfl))) (by decide) (t := (.array .long)) (t' := .int) (by decide) (by decide)))
  replace F_levels_nd := F_levels_nd.other W2 (Or.inr (slot_ne (Or.inr (hw _ (List.mem_of_getElem? (i := 25) rfl))) (Or.inl (hw _ (List.mem_of_getElem? (i := 49) rfl))) (by decide) (t := (.array (.object "com/example/matchstone/matchstone/PriceLevel"))) (t' := .int) (by decide) (by decide)))
  replace F_children_nd := F_children_nd.other W2 (Or.inr (slot_ne (Or.inr (hw _ (List.mem_of_getElem? (i := 27) rfl))) (Or.inl (hw _ (List.mem_of_getElem? (i := 49) rfl))) (by decide) (t := (.array (.object "com/example/matchstone/matchstone/LevelIndex$Node"))) (t' := .int) (by decide) (by decide)))
  replace F_next_nd := F_next_nd.other W2 (Or.inr (slot_ne (Or.inl (hw _ (List.mem_of_getElem? (i := 121) rfl))) (Or.inl (hw _ (List.mem_of_getElem? (i := 49) rfl))) (by decide) (t := (.object "com/example/matchstone/matchstone/LevelIndex$Node")) (t' := .int) (by decide) (by decide)))
  replace F_previous_nd := F_previous_nd.other W2 (Or.inr (slot_ne (Or.inl (hw _ (List.mem_of_getElem? (i := 103) rfl))) (Or.inl (hw _ (List.mem_of_getElem? (i := 49) rfl))) (by decide) (t := (.object "com/example/matchstone/matchstone/LevelIndex$Node")) (t' := .int) (by decide) (by decide)))
  replace E_nd := E_nd.wr W2
  replace A_kr := A_kr.other W2 ne_kr_nd
  replace R_lr := R_lr.other W2 ne_lr_nd
  have Z2 := Nat.le_trans Z0 (Keep.of_wr W2).1
  have N2 := Fr.snoc X2 N0 g_nd
  have K2 := K0.wr W2 (Or.inl (List.mem_of_getElem? (i := 0) rfl))
  replace F_size_nd := F_size_nd.same W2
  refine Go.step st2 ?_
  show Go _ _ _ _ _ _ _ (T2.setTop (mkF m 10 #[.val (.ref nd), .val (.int ii)] []))
  refine Go.step (fun t k => XS.aloadN X2.here hx rfl (hb hby d17_10) rfl rfl k) ?_
  show Go _ _ _ _ _ _ _ (T2.setTop (mkF m 11 #[.val (.ref nd), .val (.int ii)] [(.ref nd)]))
  obtain ⟨T3, X3, e3, st3⟩ := getF X2 hx hZ hown (host := "") (Or.inl (hw _ (List.mem_of_getElem? (i := 22) rfl))) Via.refl e2 F_keys_nd (g := (mkF m 11 #[.val (.ref nd), .val (.int ii)] [(.ref nd)])) rfl rfl (hb hby d17_11)
  refine Go.step st3 ?_
  show Go _ _ _ _ _ _ _ (T3.setTop (mkF m 14 #[.val (.ref nd), .val (.int ii)] [(.ref kr)]))
  refine Go.step (fun t k => XS.iloadN X3.here hx rfl (hb hby d17_14) rfl (XS.iconst X3.here hx rfl (hb hby d17_15) (XS.iadd X3.here hx rfl (hb hby d17_16) rfl (XS.aloadN X3.here hx rfl (hb hby d17_17) rfl rfl k)))) ?_
  show Go _ _ _ _ _ _ _ (T3.setTop (mkF m 18 #[.val (.ref nd), .val (.int ii)] [(.ref nd), (.int (ii + (1 : Int32))), (.ref kr)]))
  obtain ⟨T4, X4, e4, st4⟩ := getF X3 hx hZ hown (host := "") (Or.inl (hw _ (List.mem_of_getElem? (i := 22) rfl))) Via.refl e3 F_keys_nd (g := (mkF m 18 #[.val (.ref nd), .val (.int ii)] [(.ref nd), (.int (ii + (1 : Int32))), (.ref kr)])) rfl rfl (hb hby d17_18)
  refine Go.step st4 ?_
  show Go _ _ _ _ _ _ _ (T4.setTop (mkF m 21 #[.val (.ref nd), .val (.int ii)] [(.ref kr), (.int (ii + (1 : Int32))), (.ref kr)]))
  refine Go.step (fun t k => XS.iloadN X4.here hx rfl (hb hby d17_21) rfl (XS.aloadN X4.here hx rfl (hb hby d17_22) rfl rfl k)) ?_
  show Go _ _ _ _ _ _ _ (T4.setTop (mkF m 23 #[.val (.ref nd), .val (.int ii)] [(.ref nd), (.int ii), (.ref kr), (.int (ii + (1 : Int32))), (.ref kr)]))
  obtain ⟨T5, X5, e5, st5⟩ := getF X4 hx hZ hown (host := "") (Or.inl (hw _ (List.mem_of_getElem? (i := 55) rfl))) Via.refl e4 F_size_nd (g := (mkF m 23 #[.val (.ref nd), .val (.int ii)] [(.ref nd), (.int ii), (.ref kr), (.int (ii + (1 : Int32))), (.ref kr)])) rfl rfl (hb hby d17_23)
  refine Go.step st5 ?_
  show Go _ _ _ _ _ _ _ (T5.setTop (mkF m 26 #[.val (.ref nd), .val (.int ii)] [(.int (sz - (1 : Int32))), (.int ii), (.ref kr), (.int (ii + (1 : Int32))), (.ref kr)]))
  refine Go.step (fun t k => XS.iloadN X5.here hx rfl (hb hby d17_26) rfl (XS.isub X5.here hx rfl (hb hby d17_27) rfl k)) ?_
  show Go _ _ _ _ _ _ _ (T5.setTop (mkF m 28 #[.val (.ref nd), .val (.int ii)] [(.int ((sz - (1 : Int32)) - ii)), (.int ii), (.ref kr), (.int (ii + (1 : Int32))), (.ref kr)]))
  obtain ⟨T6, h6, Lx6, X6, e6, Nn6, K6q, Fx6, st6⟩ := own_cpJ X5 hx hZ hown (hw _ (List.mem_of_getElem? (i := 56) rfl)) (hw _ (List.mem_of_getElem? (i := 59) rfl)) (hw _ (List.mem_of_getElem? (i := 57) rfl)) (hw _ (List.mem_of_getElem? (i := 58) rfl)) e5 A_kr (im + 1) im (mm - im) (own_p1 hi (by omega)) hi (own_mn (n := mm) (own_zm hz hm) hi (by omega) (by omega)) (by omega) (by omega) N2 g_kr (f := (mkF m 28 #[.val (.ref nd), .val (.int ii)] [(.int ((sz - (1 : Int32)) - ii)), (.int ii), (.ref kr), (.int (ii + (1 : Int32))), (.ref kr)])) rfl (by rw [hml]; rfl) rfl (hb hby d17_28) (by decide) (W := 0) (by show 2 * 0 + _ ≤ _; exact Nat.le_of_eq rfl) (by decide)
  replace F_keys_nd := F_keys_nd.keep K6q (ninS (Ne.symm ne_kr_nd) nin0)
  replace F_levels_nd := F_levels_nd.keep K6q (ninS (Ne.symm ne_kr_nd) nin0)
  replace F_children_nd := F_children_nd.keep K6q (ninS (Ne.symm ne_kr_nd) nin0)
  replace F_size_nd := F_size_nd.keep K6q (ninS (Ne.symm ne_kr_nd) nin0)
  replace F_next_nd := F_next_nd.keep K6q (ninS (Ne.symm ne_kr_nd) nin0)
  replace F_previous_nd := F_previous_nd.keep K6q (ninS (Ne.symm ne_kr_nd) nin0)
  replace E_nd := E_nd.keep K6q
  replace R_lr := R_lr.keep K6q (ninS (Ne.symm ne_kr_lr) nin0)
  have Z6 := Nat.le_trans Z2 K6q.1
  have K6' := K2.trans K6q (allS (Or.inl (List.mem_of_getElem? (i := 1) rfl)) all0)
  have A_kr := Fx6
  refine Go.step st6 ?_
  show Go _ _ _ _ _ _ _ (T6.setTop (mkF m 31 #[.val (.ref nd), .val (.int ii)] []))
  refine Go.step (fun t k => XS.aloadN X6.here hx rfl (hb hby d17_31) rfl rfl k) ?_
  show Go _ _ _ _ _ _ _ (T6.setTop (mkF m 32 #[.val (.ref nd), .val (.int ii)] [(.ref nd)]))
  obtain ⟨T7, X7, e7, st7⟩ := getF X6 hx hZ hown (host := "") (Or.inl (hw _ (List.mem_of_getElem? (i := 24) rfl))) Via.refl e6 F_levels_nd (g := (mkF m 32 #[.val (.ref nd), .val (.int ii)] [(.ref nd)])) rfl rfl (hb hby d17_32)
  refine Go.step st7 ?_
  show Go _ _ _ _ _ _ _ (T7.setTop (mkF m 35 #[.val (.ref nd), .val (.int ii)] [(.ref lr)]))
  refine Go.step (fun t k => XS.iloadN X7.here hx rfl (hb hby d17_35) rfl (XS.iconst X7.here hx rfl (hb hby d17_36) (XS.iadd X7.here hx rfl (hb hby d17_37) rfl (XS.aloadN X7.here hx rfl (hb hby d17_38) rfl rfl k)))) ?_
  show Go _ _ _ _ _ _ _ (T7.setTop (mkF m 39 #[.val (.ref nd), .val (.int ii)] [(.ref nd), (.int (ii + (1 : Int32))), (.ref lr)]))
  obtain ⟨T8, X8, e8, st8⟩ := getF X7 hx hZ hown (host := "") (Or.inl (hw _ (List.mem_of_getElem? (i := 24) rfl))) Via.refl e7 F_levels_nd (g := (mkF m 39 #[.val (.ref nd), .val (.int ii)] [(.ref nd), (.int (ii + (1 : Int32))), (.ref lr)])) rfl rfl (hb hby d17_39)
  refine Go.step st8 ?_
  show Go _ _ _ _ _ _ _ (T8.setTop (mkF m 42 #[.val (.ref nd), .val (.int ii)] [(.ref lr), (.int (ii + (1 : Int32))), (.ref lr)]))
  refine Go.step (fun t k => XS.iloadN X8.here hx rfl (hb hby d17_42) rfl (XS.aloadN X8.here hx rfl (hb hby d17_43) rfl rfl k)) ?_
  show Go _ _ _ _ _ _ _ (T8.setTop (mkF m 44 #[.val (.ref nd), .val (.int ii)] [(.ref nd), (.int ii), (.ref lr), (.int (ii + (1 : Int32))), (.ref lr)]))
  obtain ⟨T9, X9, e9, st9⟩ := getF X8 hx hZ hown (host := "") (Or.inl (hw _ (List.mem_of_getElem? (i := 55) rfl))) Via.refl e8 F_size_nd (g := (mkF m 44 #[.val (.ref nd), .val (.int ii)] [(.ref nd), (.int ii), (.ref lr), (.int (ii + (1 : Int32))), (.ref lr)])) rfl rfl (hb hby d17_44)
  refine Go.step st9 ?_
  show Go _ _ _ _ _ _ _ (T9.setTop (mkF m 47 #[.val (.ref nd), .val (.int ii)] [(.int (sz - (1 : Int32))), (.int ii), (.ref lr), (.int (ii + (1 : Int32))), (.ref lr)]))
  refine Go.step (fun t k => XS.iloadN X9.here hx rfl (hb hby d17_47) rfl (XS.isub X9.here hx rfl (hb hby d17_48) rfl k)) ?_
  show Go _ _ _ _ _ _ _ (T9.setTop (mkF m 49 #[.val (.ref nd), .val (.int ii)] [(.int ((sz - (1 : Int32)) - ii)), (.int ii), (.ref lr), (.int (ii + (1 : Int32))), (.ref lr)]))
  obtain ⟨T10, h10, Lx10, X10, e10, Nn10, K10q, Fx10, st10⟩ := own_cpR X9 hx hZ hown (hw _ (List.mem_of_getElem? (i := 56) rfl)) (hw _ (List.mem_of_getElem? (i := 59) rfl)) (hw _ (List.mem_of_getElem? (i := 57) rfl)) (hw _ (List.mem_of_getElem? (i := 58) rfl)) e9 R_lr (im + 1) im (mm - im) (own_p1 hi (by omega)) hi (own_mn (n := mm) (own_zm hz hm) hi (by omega) (by omega)) (by omega) (by omega) Nn6 g_lr (f := (mkF m 49 #[.val (.ref nd), .val (.int ii)] [(.int ((sz - (1 : Int32)) - ii)), (.int ii), (.ref lr), (.int (ii + (1 : Int32))), (.ref lr)])) rfl (by rw [hml]; rfl) rfl (hb hby d17_49) (by decide) (W := 0) (by show 2 * 0 + _ ≤ _; exact Nat.le_of_eq rfl) (by decide)
  replace F_keys_nd := F_keys_nd.keep K10q (ninS (Ne.symm ne_lr_nd) nin0)
  replace F_levels_nd := F_levels_nd.keep K10q (ninS (Ne.symm ne_lr_nd) nin0)
  replace F_children_nd := F_children_nd.keep K10q (ninS (Ne.symm ne_lr_nd) nin0)
  replace F_size_nd := F_size_nd.keep K10q (ninS (Ne.symm ne_lr_nd) nin0)
  replace F_next_nd := F_next_nd.keep K10q (ninS (Ne.symm ne_lr_nd) nin0)
  replace F_previous_nd := F_previous_nd.keep K10q (ninS (Ne.symm ne_lr_nd) nin0)
  replace E_nd := E_nd.keep K10q
  replace A_kr := A_kr.keep K10q (ninS ne_kr_lr nin0)
  have Z10 := Nat.le_trans Z6 K10q.1
  have K10' := K6'.trans K10q (allS (Or.inl (List.mem_of_getElem? (i := 2) rfl)) all0)
  have R_lr := Fx10
  refine Go.step st10 ?_
  show Go _ _ _ _ _ _ _ (T10.setTop (mkF m 52 #[.val (.ref nd), .val (.int ii)] []))
  refine Go.step (fun t k => XS.aloadN X10.here hx rfl (hb hby d17_52) rfl rfl k) ?_
  show Go _ _ _ _ _ _ _ (T10.setTop (mkF m 53 #[.val (.ref nd), .val (.int ii)] [(.ref nd)]))
  obtain ⟨T11, X11, e11, st11⟩ := getF X10 hx hZ hown (host := "") (Or.inl (hw _ (List.mem_of_getElem? (i := 24) rfl))) Via.refl e10 F_levels_nd (g := (mkF m 53 #[.val (.ref nd), .val (.int ii)] [(.ref nd)])) rfl rfl (hb hby d17_53)
  refine Go.step st11 ?_
  show Go _ _ _ _ _ _ _ (T11.setTop (mkF m 56 #[.val (.ref nd), .val (.int ii)] [(.ref lr)]))
  refine Go.step (fun t k => XS.aloadN X11.here hx rfl (hb hby d17_56) rfl rfl k) ?_
  show Go _ _ _ _ _ _ _ (T11.setTop (mkF m 57 #[.val (.ref nd), .val (.int ii)] [(.ref nd), (.ref lr)]))
  obtain ⟨T12, X12, e12, st12⟩ := getF X11 hx hZ hown (host := "") (Or.inl (hw _ (List.mem_of_getElem? (i := 55) rfl))) Via.refl e11 F_size_nd (g := (mkF m 57 #[.val (.ref nd), .val (.int ii)] [(.ref nd), (.ref lr)])) rfl rfl (hb hby d17_57)
  refine Go.step st12 ?_
  show Go _ _ _ _ _ _ _ (T12.setTop (mkF m 60 #[.val (.ref nd), .val (.int ii)] [(.int (sz - (1 : Int32))), (.ref lr)]))
  refine Go.step (fun t k => XS.aconstNull X12.here hx rfl (hb hby d17_60) k) ?_
  show Go _ _ _ _ _ _ _ (T12.setTop (mkF m 61 #[.val (.ref nd), .val (.int ii)] [.null, (.int (sz - (1 : Int32))), (.ref lr)]))
  obtain ⟨T13, h13, X13, e13, W13, Rx13, st13⟩ := own_stR X12 hx hZ e12 R_lr (Or.inl rfl) mm (own_zm hz hm) (by omega) (f := (mkF m 61 #[.val (.ref nd), .val (.int ii)] [.null, (.int (sz - (1 : Int32))), (.ref lr)])) rfl rfl (hb hby d17_61)
  replace F_keys_nd := F_keys_nd.other W13 (Or.inl (Ne.symm ne_lr_nd))
  replace F_levels_nd := F_levels_nd.other W13 (Or.inl (Ne.symm ne_lr_nd))
  replace F_children_nd := F_children_nd.other W13 (Or.inl (Ne.symm ne_lr_nd))
  replace F_size_nd := F_size_nd.other W13 (Or.inl (Ne.symm ne_lr_nd))
  replace F_next_nd := F_next_nd.other W13 (Or.inl (Ne.symm ne_lr_nd))
  replace F_previous_nd := F_previous_nd.other W13 (Or.inl (Ne.symm ne_lr_nd))
  replace E_nd := E_nd.wr W13
  replace A_kr := A_kr.other W13 ne_kr_lr
  have Z13 := Nat.le_trans Z10 (Keep.of_wr W13).1
  have N13 := Fr.snoc X13 Nn10 g_lr
  have K13 := K10'.wr W13 (Or.inl (List.mem_of_getElem? (i := 2) rfl))
  have R_lr := Rx13
  refine Go.step st13 ?_
  show Go _ _ _ _ _ _ _ (T13.setTop (mkF m 62 #[.val (.ref nd), .val (.int ii)] []))
  refine Go.step (fun t k => XS.aloadN X13.here hx rfl (hb hby d17_62) rfl rfl k) ?_
  show Go _ _ _ _ _ _ _ (T13.setTop (mkF m 63 #[.val (.ref nd), .val (.int ii)] [(.ref nd)]))
  obtain ⟨T14, X14, e14, st14⟩ := getF X13 hx hZ hown (host := "") (Or.inl (hw _ (List.mem_of_getElem? (i := 55) rfl))) Via.refl e13 F_size_nd (g := (mkF m 63 #[.val (.ref nd), .val (.int ii)] [(.ref nd)])) rfl rfl (hb hby d17_63)
  refine Go.step st14 ?_
  show Go _ _ _ _ _ _ _ (T14.setTop (mkF m 66 #[.val (.ref nd), .val (.int ii)] [(.int (sz - (1 : Int32)))]))
  refine Go.step (fun t k => XS.ifYes X14.here hx rfl (pc0 := 66) (pc' := 73) rfl (hb hby d17_66) rfl ((if0 _ _).trans (feq (own_zmne hz hm1 hm : ¬ (sz - (1 : Int32)) = (0 : Int32))).2) (by decide) (by decide) k) ?_
  show Go _ _ _ _ _ _ _ (T14.setTop (mkF m 73 #[.val (.ref nd), .val (.int ii)] []))
  refine Go.retV X14 Bd.notSynchronized hx Bd.returns (hb hby d17_73) (by decide) (by decide) ?_
  rw [e14]
  exact ⟨rfl, N13, K13, F_keys_nd, F_levels_nd, F_children_nd, F_size_nd, F_next_nd, F_previous_nd, E_nd, A_kr, R_lr⟩
theorem pn_16 : plainName "com/example/matchstone/matchstone/LevelIndex" = true := by first | (simp [plainName, overriddenIn]; done) | decide +kernel
theorem pd_16_0 : parseMethodDescriptor "()Z" = some ⟨[], some .boolean⟩ := by decide +kernel
theorem pd_16_1 : parseMethodDescriptor "([JIIJ)I" = some ⟨[(.array .long), .int, .int, .long], some .int⟩ := by decide +kernel
theorem pd_16_2 : parseMethodDescriptor "(I)V" = some ⟨[.int], none⟩ := by decide +kernel
theorem ef_16 (m : MethodId) (x0 : Addr) (x1 : Addr) (x2 : Int64) : entryFrame m #[(.ref x0), (.ref x1), (.long x2)] 5 = mkF m 0 #[.val (.ref x0), .val (.ref x1), .val (.long x2), .second, .unset] [] := by first | (simp [entryFrame, mkF, argsToLocals, Value.category]; done) | rfl
def Q16 (Z : State) (li : Addr) (nd : Addr) (ky : Int64) (kr : Addr) (lr : Addr) (gk : Nat → Int64) (gl : Nat → Value) (sz : Int32) (mm : Nat) (aw : Value) (h0 : Heap) (n0 : Nat) (v : Option Value) (h : Heap) (L : List Loc) : Prop := ∃ im : Nat, v = some (.int (0 : Int32)) ∧ Fr n0 L ∧ Keep h0 h [li, nd, kr, lr] ∧ (im < (mm + 1)) ∧ (gk im = ky) ∧ Fld Z h li "com/example/matchstone/matchstone/LevelIndex" "root" "Lcom/example/matchstone/matchstone/LevelIndex$Node;" (.ref nd) ∧ Fld Z h li "com/example/matchstone/matchstone/LevelIndex" "last" "Lcom/example/matchstone/matchstone/LevelIndex$Node;" (.ref nd) ∧ Fld Z h li "com/example/matchstone/matchstone/LevelIndex" "ahead" "Lcom/example/matchstone/matchstone/PriceLevel;" aw ∧ Exa Z h li "com/example/matchstone/matchstone/LevelIndex" ∧ Fld Z h nd "com/example/matchstone/matchstone/LevelIndex$Node" "keys" "[J" (.ref kr) ∧ Fld Z h nd "com/example/matchstone/matchstone/LevelIndex$Node" "levels" "[Lcom/example/matchstone/matchstone/PriceLevel;" (.ref lr) ∧ Fld Z h nd "com/example/matchstone/matchstone/LevelIndex$Node" "children" "[Lcom/example/matchstone/matchstone/LevelIndex$Node;" .null ∧ Fld Z h nd "com/example/matchstone/matchstone/LevelIndex$Node" "size" "I" (.int (sz - (1 : Int32))) ∧ Fld Z h nd "com/example/matchstone/matchstone/LevelIndex$Node" "next" "Lcom/example/matchstone/matchstone/LevelIndex$Node;" .null ∧ Fld Z h nd "com/example/matchstone/matchstone/LevelIndex$Node" "previous" "Lcom/example/matchstone/matchstone/LevelIndex$Node;" .null ∧ Exa Z h nd "com/example/matchstone/matchstone/LevelIndex$Node" ∧ AryJ Z h kr 65 (own_sh gk (im + 1) im (mm - im)) ∧ RAr Z h lr "com/example/matchstone/matchstone/PriceLevel" 65 (up (own_sh gl (im + 1) im (mm - im)) mm .null)
set_option maxRecDepth 65536 in
set_option maxHeartbeats 40000000 in
theorem rm16 (l : Launch) (Z : State) (a0 : Array Value) (hw : ∀ d ∈ tables_1, d.before a0 Z = true) (ws : List Jvm.Cond) (li : Addr) (nd : Addr) (ky : Int64) (kr : Addr) (lr : Addr) (gk : Nat → Int64) (gl : Nat → Value) (sz : Int32) (mm : Nat) (aw : Value) (h0 : Heap) (n0 : Nat) (Z0 : n0 ≤ h0.size) (F_root_li : Fld Z h0 li "com/example/matchstone/matchstone/LevelIndex" "root" "Lcom/example/matchstone/matchstone/LevelIndex$Node;" (.ref nd)) (F_last_li : Fld Z h0 li "com/example/matchstone/matchstone/LevelIndex" "last" "Lcom/example/matchstone/matchstone/LevelIndex$Node;" (.ref nd)) (F_ahead_li : Fld Z h0 li "com/example/matchstone/matchstone/LevelIndex" "ahead" "Lcom/example/matchstone/matchstone/PriceLevel;" aw) (E_li : Exa Z h0 li "com/example/matchstone/matchstone/LevelIndex") (g_li : n0 ≤ li) (F_keys_nd : Fld Z h0 nd "com/example/matchstone/matchstone/LevelIndex$Node" "keys" "[J" (.ref kr)) (F_levels_nd : Fld Z h0 nd "com/example/matchstone/matchstone/LevelIndex$Node" "levels" "[Lcom/example/matchstone/matchstone/PriceLevel;" (.ref lr)) (F_children_nd : Fld Z h0 nd "com/example/matchstone/matchstone/LevelIndex$Node" "children" "[Lcom/example/matchstone/matchstone/LevelIndex$Node;" .null) (F_size_nd : Fld Z h0 nd "com/example/matchstone/matchstone/LevelIndex$Node" "size" "I" (.int sz)) (F_next_nd : Fld Z h0 nd "com/example/matchstone/matchstone/LevelIndex$Node" "next" "Lcom/example/matchstone/matchstone/LevelIndex$Node;" .null) (F_previous_nd : Fld Z h0 nd "com/example/matchstone/matchstone/LevelIndex$Node" "previous" "Lcom/example/matchstone/matchstone/LevelIndex$Node;" .null) (E_nd : Exa Z h0 nd "com/example/matchstone/matchstone/LevelIndex$Node") (A_kr : AryJ Z h0 kr 65 gk) (R_lr : RAr Z h0 lr "com/example/matchstone/matchstone/PriceLevel" 65 gl) (g_nd : n0 ≤ nd) (g_kr : n0 ≤ kr) (g_lr : n0 ≤ lr) (ne_kr_lr : kr ≠ lr) (hz : (sz.toInt = ((mm + 1 : Nat) : Int))) (hm1 : (1 ≤ mm)) (hm : (mm ≤ 2)) (hs : (own_srt (mm + 1) gk)) (hex : (∃ i, i < (mm + 1) ∧ gk i = ky)) :
    MetFree l (⟨"com/example/matchstone/matchstone/LevelIndex", "remove", "(Lcom/example/matchstone/matchstone/LevelIndex$Node;J)Z"⟩ : MethodName) (head1 (Jvm.Cond.code (⟨"com/example/matchstone/matchstone/LevelIndex", "remove", "(Lcom/example/matchstone/matchstone/LevelIndex$Node;J)Z"⟩ : MethodName) prog_21_method_11_code 5 (some .boolean) :: ws) ({ frames := 2, cells := 0, slots := 0, locals := 53 } : Room)) (fun a U => a = #[(.ref li), (.ref nd), (.long ky)] ∧ Z.Warmed39 U.vm ∧ U.heap = h0) (fun _ _ _ _ _ => True) (fun _ U o U' => ∃ v L, o = .returned v ∧ Q16 Z li nd ky kr lr gk gl sz mm aw h0 n0 v U'.heap L ∧ FrameEnd U o U' L ({ frames := 2, cells := 0, slots := 0, locals := 53 } : Room).cells ({ frames := 2, cells := 0, slots := 0, locals := 53 } : Room).slots) := by
  refine MetFree.of_bodySF (plainFor_of_name pn_16) hisR ?_
  intro p e s m args below meth c s₁ Bd hml0 hP hK
  obtain ⟨rfl, hZ, hh⟩ := hP
  have hx := Bd.exec
  have hby := Bd.bytes
  have hml : c.maxLocals = 5 := hml0
  have hown : s.vm.findClass "com/example/matchstone/matchstone/LevelIndex" = some m.cls := findClass_of_methodNamed Bd.named
  have hnm := (name_of_methodNamed Bd.named Bd.method).1
  have X0 : Stand p l e ({ frames := 2, cells := 0, slots := 0, locals := 53 } : Room) s m #[(.ref li), (.ref nd), (.long ky)] below meth c s₁ [] 0 0 := Stand.of_body Bd
  have e0 : s₁.heap = h0 := by rw [← hh, Bd.state]; rfl
  have N0 := Fr.nil n0
  have K0 := Keep.refl h0 ([li, nd, kr, lr] : List Addr)
  show Go p e below s (Q16 Z li nd ky kr lr gk gl sz mm aw h0 n0) ({ frames := 2, cells := 0, slots := 0, locals := 53 } : Room).cells ({ frames := 2, cells := 0, slots := 0, locals := 53 } : Room).slots (s₁.setTop (entryFrame m #[(.ref li), (.ref nd), (.long ky)] 5))
  rw [ef_16]
  show Go _ _ _ _ _ _ _ (s₁.setTop (mkF m 0 #[.val (.ref li), .val (.ref nd), .val (.long ky), .second, .unset] []))
  refine Go.step (fun t k => XS.aloadN X0.here hx rfl (hb hby d16_0) rfl rfl k) ?_
  show Go _ _ _ _ _ _ _ (s₁.setTop (mkF m 1 #[.val (.ref li), .val (.ref nd), .val (.long ky), .second, .unset] [(.ref nd)]))
  obtain ⟨cq1, kq1, q1a, q1b, q1c⟩ := isOf hZ e0 E_nd
  obtain ⟨_, _, ⟨T1, L1, k1, n1⟩, -, X1, ⟨Lc1, hQ1, l1, y1, z1⟩, st1⟩ := X0.virtualBack hx (y := (⟨"com/example/matchstone/matchstone/LevelIndex$Node", "isLeaf", "()Z"⟩ : MethodName)) (z := (⟨"com/example/matchstone/matchstone/LevelIndex$Node", "isLeaf", "()Z"⟩ : MethodName)) hown (mvT hZ (hw _ (List.mem_of_getElem? (i := 66) rfl))) (mvT hZ (hw _ (List.mem_of_getElem? (i := 67) rfl))) (notFace_of_selects (args := #[]) (mvT hZ (hw _ (List.mem_of_getElem? (i := 69) rfl)))) (mvT hZ (hw _ (List.mem_of_getElem? (i := 69) rfl))) (mvT hZ (hw _ (List.mem_of_getElem? (i := 68) rfl))) (by decide) (backOf (W := 0) (rm9 l Z a0 hw [] nd lr h0 n0 Z0 F_levels_nd) hZ (hw _ (List.mem_of_getElem? (i := 70) rfl)) (hw _ (List.mem_of_getElem? (i := 11) rfl)) (by decide) (by decide)) q1a q1c (g := (mkF m 1 #[.val (.ref li), .val (.ref nd), .val (.long ky), .second, .unset] [(.ref nd)])) rfl (by rw [hml]; rfl) (Steps.refl _) (argsL := []) (rest := []) (lenOf pd_16_0 rfl) rfl (by show 2 * 0 + _ ≤ _; exact Nat.le_of_eq rfl) (hb hby d16_1) (fun _ _ => ⟨rfl, e0, (by decide : 0 + 0 ≤ _), (by decide : 0 + 0 ≤ _)⟩)
  dsimp only [Pt.U, Pt.locs, Pt.cells, Pt.slots] at X1 l1 y1 z1 st1 hQ1
  subst l1 y1 z1
  obtain ⟨rfl, N1q, K1q⟩ := hQ1
  have N1 := Fr.app N0 N1q
  refine Go.step (fun t k => st1.trans k) ?_
  show Go _ _ _ _ _ _ _ (T1.setTop (mkF m 4 #[.val (.ref li), .val (.ref nd), .val (.long ky), .second, .unset] [(.int (1 : Int32))]))
  refine Go.step (fun t k => XS.ifNo X1.here hx rfl (hb hby d16_4) rfl ((if0 _ _).trans (feq (by decide : ¬ (1 : Int32) = (0 : Int32))).1) k) ?_
  show Go _ _ _ _ _ _ _ (T1.setTop (mkF m 7 #[.val (.ref li), .val (.ref nd), .val (.long ky), .second, .unset] []))
  refine Go.step (fun t k => XS.aloadN X1.here hx rfl (hb hby d16_7) rfl rfl k) ?_
  show Go _ _ _ _ _ _ _ (T1.setTop (mkF m 8 #[.val (.ref li), .val (.ref nd), .val (.long ky), .second, .unset] [(.ref nd)]))
  obtain ⟨T2, X2, e2, st2⟩ := own_getR X1 hx hZ hown (hw _ (List.mem_of_getElem? (i := 102) rfl)) K1q F_previous_nd (f := (mkF m 8 #[.val (.ref li), .val (.ref nd), .val (.long ky), .second, .unset] [(.ref nd)])) rfl rfl (hb hby d16_8)
  refine Go.step st2 ?_
  show Go _ _ _ _ _ _ _ (T2.setTop (mkF m 11 #[.val (.ref li), .val (.ref nd), .val (.long ky), .second, .unset] [.null]))
  refine Go.step (fun t k => XS.astore X2.here hx rfl (hb hby d16_11) rfl rfl (l' := #[.val (.ref li), .val (.ref nd), .val (.long ky), .second, .val .null]) rfl (XS.aloadN X2.here hx rfl (hb hby d16_13) rfl rfl (XS.aloadN X2.here hx rfl (hb hby d16_14) rfl rfl k))) ?_
  show Go _ _ _ _ _ _ _ (T2.setTop (mkF m 15 #[.val (.ref li), .val (.ref nd), .val (.long ky), .second, .val .null] [(.ref nd), (.ref nd)]))
  obtain ⟨T3, X3, e3, st3⟩ := own_getR X2 hx hZ hown (hw _ (List.mem_of_getElem? (i := 61) rfl)) e2 F_keys_nd (f := (mkF m 15 #[.val (.ref li), .val (.ref nd), .val (.long ky), .second, .val .null] [(.ref nd), (.ref nd)])) rfl rfl (hb hby d16_15)
  refine Go.step st3 ?_
  show Go _ _ _ _ _ _ _ (T3.setTop (mkF m 18 #[.val (.ref li), .val (.ref nd), .val (.long ky), .second, .val .null] [(.ref kr), (.ref nd)]))
  refine Go.step (fun t k => XS.iconst X3.here hx rfl (hb hby d16_18) (XS.aloadN X3.here hx rfl (hb hby d16_19) rfl rfl k)) ?_
  show Go _ _ _ _ _ _ _ (T3.setTop (mkF m 20 #[.val (.ref li), .val (.ref nd), .val (.long ky), .second, .val .null] [(.ref nd), (.int (0 : Int32)), (.ref kr), (.ref nd)]))
  obtain ⟨T4, X4, e4, st4⟩ := own_getR X3 hx hZ hown (hw _ (List.mem_of_getElem? (i := 48) rfl)) e3 F_size_nd (f := (mkF m 20 #[.val (.ref li), .val (.ref nd), .val (.long ky), .second, .val .null] [(.ref nd), (.int (0 : Int32)), (.ref kr), (.ref nd)])) rfl rfl (hb hby d16_20)
  refine Go.step st4 ?_
  show Go _ _ _ _ _ _ _ (T4.setTop (mkF m 23 #[.val (.ref li), .val (.ref nd), .val (.long ky), .second, .val .null] [(.int sz), (.int (0 : Int32)), (.ref kr), (.ref nd)]))
  refine Go.step (fun t k => XS.lloadN X4.here hx rfl (hb hby d16_23) rfl k) ?_
  show Go _ _ _ _ _ _ _ (T4.setTop (mkF m 24 #[.val (.ref li), .val (.ref nd), .val (.long ky), .second, .val .null] [(.long ky), (.int sz), (.int (0 : Int32)), (.ref kr), (.ref nd)]))
  obtain ⟨_, _, ⟨T5, L5, k5, n5⟩, -, X5, ⟨Lc5, hQ5, l5, y5, z5⟩, st5⟩ := Jvm.LawKit.callS X4 hx (y := (⟨"java/util/Arrays", "binarySearch", "([JIIJ)I"⟩ : MethodName)) hown (mvT hZ (hw _ (List.mem_of_getElem? (i := 71) rfl))) (mvT hZ (hw _ (List.mem_of_getElem? (i := 72) rfl))) (mvT hZ (hw _ (List.mem_of_getElem? (i := 73) rfl))) (mvT hZ (hw _ (List.mem_of_getElem? (i := 74) rfl))) (by decide) (backOf (W := 1) (rm10 l Z a0 hw [] kr sz ky gk (mm + 1) h0 n0 Z0 A_kr hz (by omega) (by omega) (by assumption)) hZ (hw _ (List.mem_of_getElem? (i := 74) rfl)) (hw _ (List.mem_of_getElem? (i := 73) rfl)) (by decide) (by decide)) (g := (mkF m 24 #[.val (.ref li), .val (.ref nd), .val (.long ky), .second, .val .null] [(.long ky), (.int sz), (.int (0 : Int32)), (.ref kr), (.ref nd)])) rfl (by rw [hml]; rfl) (argsL := [(.ref kr), (.int (0 : Int32)), (.int sz), (.long ky)]) (rest := [(.ref nd)]) (lenOf pd_16_1 rfl) rfl (by show 2 * 0 + _ ≤ _; exact Nat.le_of_eq rfl) (hb hby d16_24) (fun _ _ => ⟨rfl, e4, (by decide : 0 + 0 ≤ _), (by decide : 0 + 0 ≤ _)⟩)
  dsimp only [Pt.U, Pt.locs, Pt.cells, Pt.slots] at X5 l5 y5 z5 st5 hQ5
  subst l5 y5 z5
  obtain ⟨r_5, rfl, N5q, K5q, o5_hf⟩ := hQ5
  have N5 := Fr.app N1 N5q
  refine Go.step st5 ?_
  show Go _ _ _ _ _ _ _ (T5.setTop (mkF m 27 #[.val (.ref li), .val (.ref nd), .val (.long ky), .second, .val .null] [(.int r_5), (.ref nd)]))
  obtain ⟨im, him, hri, hgi⟩ := own_prs o5_hf hex
  obtain ⟨cq6, kq6, q6a, q6b, q6c⟩ := isOf hZ K5q E_nd
  obtain ⟨_, _, ⟨T6, L6, k6, n6⟩, -, X6, ⟨Lc6, hQ6, l6, y6, z6⟩, st6⟩ := X5.virtualBack hx (y := (⟨"com/example/matchstone/matchstone/LevelIndex$Node", "removeEntry", "(I)V"⟩ : MethodName)) (z := (⟨"com/example/matchstone/matchstone/LevelIndex$Node", "removeEntry", "(I)V"⟩ : MethodName)) hown (mvT hZ (hw _ (List.mem_of_getElem? (i := 104) rfl))) (mvT hZ (hw _ (List.mem_of_getElem? (i := 105) rfl))) (notFace_of_selects (args := #[]) (mvT hZ (hw _ (List.mem_of_getElem? (i := 107) rfl)))) (mvT hZ (hw _ (List.mem_of_getElem? (i := 107) rfl))) (mvT hZ (hw _ (List.mem_of_getElem? (i := 106) rfl))) (by decide) (backOf (W := 0) (rm17 l Z a0 hw [] nd r_5 kr lr gk gl sz mm im h0 n0 Z0 F_keys_nd F_levels_nd F_children_nd F_size_nd F_next_nd F_previous_nd E_nd A_kr R_lr g_nd g_kr g_lr ne_kr_lr (by assumption) (by assumption) (by assumption) hri him) hZ (hw _ (List.mem_of_getElem? (i := 108) rfl)) (hw _ (List.mem_of_getElem? (i := 11) rfl)) (by decide) (by decide)) q6a q6c (g := (mkF m 27 #[.val (.ref li), .val (.ref nd), .val (.long ky), .second, .val .null] [(.int r_5), (.ref nd)])) rfl (by rw [hml]; rfl) (Steps.refl _) (argsL := [(.int r_5)]) (rest := []) (lenOf pd_16_2 rfl) rfl (by show 2 * 0 + _ ≤ _; exact Nat.le_of_eq rfl) (hb hby d16_27) (fun _ _ => ⟨rfl, K5q, (by decide : 0 + 0 ≤ _), (by decide : 0 + 0 ≤ _)⟩)
  dsimp only [Pt.U, Pt.locs, Pt.cells, Pt.slots] at X6 l6 y6 z6 st6 hQ6
  subst l6 y6 z6
  obtain ⟨rfl, N6q, K6q, o6_F_keys_nd, o6_F_levels_nd, o6_F_children_nd, o6_F_size_nd, o6_F_next_nd, o6_F_previous_nd, o6_E_nd, o6_A_kr, o6_R_lr⟩ := hQ6
  have N6 := Fr.app N5 N6q
  have ne_li_nd : li ≠ nd := (ne_exa E_li E_nd (by decide))
  have ne_li_kr : li ≠ kr := (own_neA E_li (hw _ (List.mem_of_getElem? (i := 1) rfl)) A_kr)
  have ne_li_lr : li ≠ lr := (own_neR E_li (hw _ (List.mem_of_getElem? (i := 1) rfl)) R_lr)
  replace F_root_li := F_root_li.keep K6q (ninS ne_li_nd (ninS ne_li_kr (ninS ne_li_lr nin0)))
  replace F_last_li := F_last_li.keep K6q (ninS ne_li_nd (ninS ne_li_kr (ninS ne_li_lr nin0)))
  replace F_ahead_li := F_ahead_li.keep K6q (ninS ne_li_nd (ninS ne_li_kr (ninS ne_li_lr nin0)))
  replace E_li := E_li.keep K6q
  replace E_nd := E_nd.keep K6q
  have Z6 := Nat.le_trans Z0 K6q.1
  have K6' := K0.trans K6q (allS (Or.inl (List.mem_of_getElem? (i := 1) rfl)) (allS (Or.inl (List.mem_of_getElem? (i := 2) rfl)) (allS (Or.inl (List.mem_of_getElem? (i := 3) rfl)) all0)))
  have F_keys_nd := o6_F_keys_nd
  have F_levels_nd := o6_F_levels_nd
  have F_children_nd := o6_F_children_nd
  have F_size_nd := o6_F_size_nd
  have F_next_nd := o6_F_next_nd
  have F_previous_nd := o6_F_previous_nd
  have E_nd := o6_E_nd
  have A_kr := o6_A_kr
  have R_lr := o6_R_lr
  refine Go.step (fun t k => st6.trans k) ?_
  show Go _ _ _ _ _ _ _ (T6.setTop (mkF m 30 #[.val (.ref li), .val (.ref nd), .val (.long ky), .second, .val .null] []))
  refine Go.step (fun t k => XS.aloadN X6.here hx rfl (hb hby d16_30) rfl rfl k) ?_
  show Go _ _ _ _ _ _ _ (T6.setTop (mkF m 31 #[.val (.ref li), .val (.ref nd), .val (.long ky), .second, .val .null] [(.ref nd)]))
  obtain ⟨cq7, kq7, q7a, q7b, q7c⟩ := isOf hZ rfl E_nd
  obtain ⟨_, _, ⟨T7, L7, k7, n7⟩, -, X7, ⟨Lc7, hQ7, l7, y7, z7⟩, st7⟩ := X6.virtualBack hx (y := (⟨"com/example/matchstone/matchstone/LevelIndex$Node", "isEmpty", "()Z"⟩ : MethodName)) (z := (⟨"com/example/matchstone/matchstone/LevelIndex$Node", "isEmpty", "()Z"⟩ : MethodName)) hown (mvT hZ (hw _ (List.mem_of_getElem? (i := 109) rfl))) (mvT hZ (hw _ (List.mem_of_getElem? (i := 110) rfl))) (notFace_of_selects (args := #[]) (mvT hZ (hw _ (List.mem_of_getElem? (i := 112) rfl)))) (mvT hZ (hw _ (List.mem_of_getElem? (i := 112) rfl))) (mvT hZ (hw _ (List.mem_of_getElem? (i := 111) rfl))) (by decide) (backOf (W := 0) (rm18 l Z a0 hw [] nd lr (sz - (1 : Int32)) T6.heap n0 Z6 F_levels_nd F_size_nd E_nd (own_zmne hz hm1 hm)) hZ (hw _ (List.mem_of_getElem? (i := 113) rfl)) (hw _ (List.mem_of_getElem? (i := 11) rfl)) (by decide) (by decide)) q7a q7c (g := (mkF m 31 #[.val (.ref li), .val (.ref nd), .val (.long ky), .second, .val .null] [(.ref nd)])) rfl (by rw [hml]; rfl) (Steps.refl _) (argsL := []) (rest := []) (lenOf pd_16_0 rfl) rfl (by show 2 * 0 + _ ≤ _; exact Nat.le_of_eq rfl) (hb hby d16_31) (fun _ _ => ⟨rfl, rfl, (by decide : 0 + 0 ≤ _), (by decide : 0 + 0 ≤ _)⟩)
  dsimp only [Pt.U, Pt.locs, Pt.cells, Pt.slots] at X7 l7 y7 z7 st7 hQ7
  subst l7 y7 z7
  obtain ⟨rfl, N7q, K7q⟩ := hQ7
  have N7 := Fr.app N6 N7q
  refine Go.step (fun t k => st7.trans k) ?_
  show Go _ _ _ _ _ _ _ (T7.setTop (mkF m 34 #[.val (.ref li), .val (.ref nd), .val (.long ky), .second, .val .null] [(.int (0 : Int32))]))
  refine Go.step (fun t k => XS.ifYes X7.here hx rfl (pc0 := 34) (pc' := 51) rfl (hb hby d16_34) rfl ((if0 _ _).trans (teq (by decide : (0 : Int32) = (0 : Int32))).1) (by decide) (by decide) k) ?_
  show Go _ _ _ _ _ _ _ (T7.setTop (mkF m 51 #[.val (.ref li), .val (.ref nd), .val (.long ky), .second, .val .null] []))
  refine Go.step (fun t k => XS.goto X7.here hx rfl (pc0 := 51) (pc' := 82) rfl (hb hby d16_51) (by decide) (by decide) (XS.aloadN X7.here hx rfl (hb hby d16_82) rfl rfl k)) ?_
  show Go _ _ _ _ _ _ _ (T7.setTop (mkF m 83 #[.val (.ref li), .val (.ref nd), .val (.long ky), .second, .val .null] [(.ref nd)]))
  obtain ⟨cq8, kq8, q8a, q8b, q8c⟩ := isOf hZ K7q E_nd
  obtain ⟨_, _, ⟨T8, L8, k8, n8⟩, -, X8, ⟨Lc8, hQ8, l8, y8, z8⟩, st8⟩ := X7.virtualBack hx (y := (⟨"com/example/matchstone/matchstone/LevelIndex$Node", "isEmpty", "()Z"⟩ : MethodName)) (z := (⟨"com/example/matchstone/matchstone/LevelIndex$Node", "isEmpty", "()Z"⟩ : MethodName)) hown (mvT hZ (hw _ (List.mem_of_getElem? (i := 109) rfl))) (mvT hZ (hw _ (List.mem_of_getElem? (i := 110) rfl))) (notFace_of_selects (args := #[]) (mvT hZ (hw _ (List.mem_of_getElem? (i := 112) rfl)))) (mvT hZ (hw _ (List.mem_of_getElem? (i := 112) rfl))) (mvT hZ (hw _ (List.mem_of_getElem? (i := 111) rfl))) (by decide) (backOf (W := 0) (rm18 l Z a0 hw [] nd lr (sz - (1 : Int32)) T6.heap n0 Z6 F_levels_nd F_size_nd E_nd (own_zmne hz hm1 hm)) hZ (hw _ (List.mem_of_getElem? (i := 113) rfl)) (hw _ (List.mem_of_getElem? (i := 11) rfl)) (by decide) (by decide)) q8a q8c (g := (mkF m 83 #[.val (.ref li), .val (.ref nd), .val (.long ky), .second, .val .null] [(.ref nd)])) rfl (by rw [hml]; rfl) (Steps.refl _) (argsL := []) (rest := []) (lenOf pd_16_0 rfl) rfl (by show 2 * 0 + _ ≤ _; exact Nat.le_of_eq rfl) (hb hby d16_83) (fun _ _ => ⟨rfl, K7q, (by decide : 0 + 0 ≤ _), (by decide : 0 + 0 ≤ _)⟩)
  dsimp only [Pt.U, Pt.locs, Pt.cells, Pt.slots] at X8 l8 y8 z8 st8 hQ8
  subst l8 y8 z8
  obtain ⟨rfl, N8q, K8q⟩ := hQ8
  have N8 := Fr.app N7 N8q
  refine Go.step (fun t k => st8.trans k) ?_
  show Go _ _ _ _ _ _ _ (T8.setTop (mkF m 86 #[.val (.ref li), .val (.ref nd), .val (.long ky), .second, .val .null] [(.int (0 : Int32))]))
  refine Go.retN X8 Bd.notSynchronized hx (t := .boolean) Bd.returns (by simp) (hb hby d16_86) (by decide) (by decide) (0 : Int32) rfl ?_
  rw [K8q]
  exact ⟨im, rfl, N8, K6', him, hgi, F_root_li, F_last_li, F_ahead_li, E_li, F_keys_nd, F_levels_nd, F_children_nd, F_size_nd, F_next_nd, F_previous_nd, E_nd, A_kr, R_lr⟩
theorem d15_11 : decode prog_21_method_9_code 11 = .ok (.lload_n 1, 1) := by decide +kernel
theorem d15_12 : decode prog_21_method_9_code 12 = .ok (.aload_n 0, 1) := by decide +kernel
theorem d15_13 : decode prog_21_method_9_code 13 = .ok (.getfield 19, 3) := by decide +kernel
theorem d15_16 : decode prog_21_method_9_code 16 = .ok (.getfield 26, 3) := by decide +kernel
theorem d15_19 : decode prog_21_method_9_code 19 = .ok (.aload_n 0, 1) := by decide +kernel
theorem d15_20 : decode prog_21_method_9_code 20 = .ok (.getfield 19, 3) := by decide +kernel
theorem d15_23 : decode prog_21_method_9_code 23 = .ok (.getfield 30, 3) := by decide +kernel
theorem d15_26 : decode prog_21_method_9_code 26 = .ok (.iconst 1, 1) := by decide +kernel
theorem d15_27 : decode prog_21_method_9_code 27 = .ok (.isub, 1) := by decide +kernel
theorem d15_28 : decode prog_21_method_9_code 28 = .ok (.laload, 1) := by decide +kernel
theorem d15_29 : decode prog_21_method_9_code 29 = .ok (.lcmp, 1) := by decide +kernel
theorem d15_30 : decode prog_21_method_9_code 30 = .ok (.ifCond .ne 20, 3) := by decide +kernel
theorem d15_33 : decode prog_21_method_9_code 33 = .ok (.aload_n 0, 1) := by decide +kernel
theorem d15_34 : decode prog_21_method_9_code 34 = .ok (.getfield 19, 3) := by decide +kernel
theorem d15_37 : decode prog_21_method_9_code 37 = .ok (.aload_n 0, 1) := by decide +kernel
theorem d15_38 : decode prog_21_method_9_code 38 = .ok (.getfield 19, 3) := by decide +kernel
theorem d15_41 : decode prog_21_method_9_code 41 = .ok (.getfield 30, 3) := by decide +kernel
theorem d15_44 : decode prog_21_method_9_code 44 = .ok (.iconst 1, 1) := by decide +kernel
theorem d15_45 : decode prog_21_method_9_code 45 = .ok (.isub, 1) := by decide +kernel
theorem d15_46 : decode prog_21_method_9_code 46 = .ok (.invokevirtual 86, 3) := by decide +kernel
theorem d15_49 : decode prog_21_method_9_code 49 = .ok (.return_, 1) := by decide +kernel
theorem pn_15 : plainName "com/example/matchstone/matchstone/LevelIndex" = true := by first | (simp [plainName, overriddenIn]; done) | decide +kernel
theorem pd_15_0 : parseMethodDescriptor "(I)V" = some ⟨[.int], none⟩ := by decide +kernel
theorem pd_15_1 : parseMethodDescriptor "(Lcom/example/matchstone/matchstone/LevelIndex$Node;J)Z" = some ⟨[(.object "com/example/matchstone/matchstone/LevelIndex$Node"), .long], some .boolean⟩ := by decide +kernel
theorem pd_15_2 : parseMethodDescriptor "()Z" = some ⟨[], some .boolean⟩ := by decide +kernel
theorem ef_15 (m : MethodId) (x0 : Addr) (x1 : Int64) : entryFrame m #[(.ref x0), (.long x1)] 3 = mkF m 0 #[.val (.ref x0), .val (.long x1), .second] [] := by first | (simp [entryFrame, mkF, argsToLocals, Value.category]; done) | rfl
def Q15 (Z : State) (li : Addr) (ky : Int64) (nd : Addr) (kr : Addr) (lr : Addr) (gk : Nat → Int64) (gl : Nat → Value) (sz : Int32) (mm : Nat) (aw : Value) (h0 : Heap) (n0 : Nat) (v : Option Value) (h : Heap) (L : List Loc) : Prop := ∃ im : Nat, ∃ gk2 : Nat → Int64, ∃ gl2 : Nat → Value, v = none ∧ Fr n0 L ∧ Keep h0 h [li, nd, kr, lr] ∧ (im < (mm + 1)) ∧ (gk im = ky) ∧ (gk2 = (own_sh gk (im + 1) im (mm - im))) ∧ (gl2 = (up (own_sh gl (im + 1) im (mm - im)) mm .null)) ∧ Fld Z h li "com/example/matchstone/matchstone/LevelIndex" "root" "Lcom/example/matchstone/matchstone/LevelIndex$Node;" (.ref nd) ∧ Fld Z h li "com/example/matchstone/matchstone/LevelIndex" "last" "Lcom/example/matchstone/matchstone/LevelIndex$Node;" (.ref nd) ∧ Fld Z h li "com/example/matchstone/matchstone/LevelIndex" "ahead" "Lcom/example/matchstone/matchstone/PriceLevel;" aw ∧ Exa Z h li "com/example/matchstone/matchstone/LevelIndex" ∧ Fld Z h nd "com/example/matchstone/matchstone/LevelIndex$Node" "keys" "[J" (.ref kr) ∧ Fld Z h nd "com/example/matchstone/matchstone/LevelIndex$Node" "levels" "[Lcom/example/matchstone/matchstone/PriceLevel;" (.ref lr) ∧ Fld Z h nd "com/example/matchstone/matchstone/LevelIndex$Node" "children" "[Lcom/example/matchstone/matchstone/LevelIndex$Node;" .null ∧ Fld Z h nd "com/example/matchstone/matchstone/LevelIndex$Node" "size" "I" (.int (sz - (1 : Int32))) ∧ Fld Z h nd "com/example/matchstone/matchstone/LevelIndex$Node" "next" "Lcom/example/matchstone/matchstone/LevelIndex$Node;" .null ∧ Fld Z h nd "com/example/matchstone/matchstone/LevelIndex$Node" "previous" "Lcom/example/matchstone/matchstone/LevelIndex$Node;" .null ∧ Exa Z h nd "com/example/matchstone/matchstone/LevelIndex$Node" ∧ AryJ Z h kr 65 gk2 ∧ RAr Z h lr "com/example/matchstone/matchstone/PriceLevel" 65 gl2
set_option maxRecDepth 65536 in
set_option maxHeartbeats 40000000 in
theorem rm15 (l : Launch) (Z : State) (a0 : Array Value) (hw : ∀ d ∈ tables_1, d.before a0 Z = true) (ws : List Jvm.Cond) (li : Addr) (ky : Int64) (nd : Addr) (kr : Addr) (lr : Addr) (gk : Nat → Int64) (gl : Nat → Value) (sz : Int32) (mm : Nat) (aw : Value) (h0 : Heap) (n0 : Nat) (Z0 : n0 ≤ h0.size) (F_root_li : Fld Z h0 li "com/example/matchstone/matchstone/LevelIndex" "root" "Lcom/example/matchstone/matchstone/LevelIndex$Node;" (.ref nd)) (F_last_li : Fld Z h0 li "com/example/matchstone/matchstone/LevelIndex" "last" "Lcom/example/matchstone/matchstone/LevelIndex$Node;" (.ref nd)) (F_ahead_li : Fld Z h0 li "com/example/matchstone/matchstone/LevelIndex" "ahead" "Lcom/example/matchstone/matchstone/PriceLevel;" aw) (E_li : Exa Z h0 li "com/example/matchstone/matchstone/LevelIndex") (g_li : n0 ≤ li) (F_keys_nd : Fld Z h0 nd "com/example/matchstone/matchstone/LevelIndex$Node" "keys" "[J" (.ref kr)) (F_levels_nd : Fld Z h0 nd "com/example/matchstone/matchstone/LevelIndex$Node" "levels" "[Lcom/example/matchstone/matchstone/PriceLevel;" (.ref lr)) (F_children_nd : Fld Z h0 nd "com/example/matchstone/matchstone/LevelIndex$Node" "children" "[Lcom/example/matchstone/matchstone/LevelIndex$Node;" .null) (F_size_nd : Fld Z h0 nd "com/example/matchstone/matchstone/LevelIndex$Node" "size" "I" (.int sz)) (F_next_nd : Fld Z h0 nd "com/example/matchstone/matchstone/LevelIndex$Node" "next" "Lcom/example/matchstone/matchstone/LevelIndex$Node;" .null) (F_previous_nd : Fld Z h0 nd "com/example/matchstone/matchstone/LevelIndex$Node" "previous" "Lcom/example/matchstone/matchstone/LevelIndex$Node;" .null) (E_nd : Exa Z h0 nd "com/example/matchstone/matchstone/LevelIndex$Node") (A_kr : AryJ Z h0 kr 65 gk) (R_lr : RAr Z h0 lr "com/example/matchstone/matchstone/PriceLevel" 65 gl) (g_nd : n0 ≤ nd) (g_kr : n0 ≤ kr) (g_lr : n0 ≤ lr) (ne_kr_lr : kr ≠ lr) (hz : (sz.toInt = ((mm + 1 : Nat) : Int))) (hm1 : (1 ≤ mm)) (hm : (mm ≤ 2)) (hs : (own_srt (mm + 1) gk)) (hex : (∃ i, i < (mm + 1) ∧ gk i = ky)) :
    MetFree l (⟨"com/example/matchstone/matchstone/LevelIndex", "remove", "(J)V"⟩ : MethodName) (head1 (Jvm.Cond.code (⟨"com/example/matchstone/matchstone/LevelIndex", "remove", "(J)V"⟩ : MethodName) prog_21_method_9_code 3 none :: ws) ({ frames := 3, cells := 0, slots := 0, locals := 69 } : Room)) (fun a U => a = #[(.ref li), (.long ky)] ∧ Z.Warmed39 U.vm ∧ U.heap = h0) (fun _ _ _ _ _ => True) (fun _ U o U' => ∃ v L, o = .returned v ∧ Q15 Z li ky nd kr lr gk gl sz mm aw h0 n0 v U'.heap L ∧ FrameEnd U o U' L ({ frames := 3, cells := 0, slots := 0, locals := 69 } : Room).cells ({ frames := 3, cells := 0, slots := 0, locals := 69 } : Room).slots) := by
  refine MetFree.of_bodySF (plainFor_of_name pn_15) hisR ?_
  intro p e s m args below meth c s₁ Bd hml0 hP hK
  obtain ⟨rfl, hZ, hh⟩ := hP
  have hx := Bd.exec
  have hby := Bd.bytes
  have hml : c.maxLocals = 3 := hml0
  have hown : s.vm.findClass "com/example/matchstone/matchstone/LevelIndex" = some m.cls := findClass_of_methodNamed Bd.named
  have hnm := (name_of_methodNamed Bd.named Bd.method).1
  have X0 : Stand p l e ({ frames := 3, cells := 0, slots := 0, locals := 69 } : Room) s m #[(.ref li), (.long ky)] below meth c s₁ [] 0 0 := Stand.of_body Bd
  have e0 : s₁.heap = h0 := by rw [← hh, Bd.state]; rfl
  have N0 := Fr.nil n0
  have K0 := Keep.refl h0 ([li, nd, kr, lr] : List Addr)
  show Go p e below s (Q15 Z li ky nd kr lr gk gl sz mm aw h0 n0) ({ frames := 3, cells := 0, slots := 0, locals := 69 } : Room).cells ({ frames := 3, cells := 0, slots := 0, locals := 69 } : Room).slots (s₁.setTop (entryFrame m #[(.ref li), (.long ky)] 3))
  rw [ef_15]
  show Go _ _ _ _ _ _ _ (s₁.setTop (mkF m 0 #[.val (.ref li), .val (.long ky), .second] []))
  refine Go.step (fun t k => XS.aloadN X0.here hx rfl (hb hby d15_0) rfl rfl k) ?_
  show Go _ _ _ _ _ _ _ (s₁.setTop (mkF m 1 #[.val (.ref li), .val (.long ky), .second] [(.ref li)]))
  obtain ⟨T1, X1, e1, st1⟩ := getF X0 hx hZ hown (host := "") (Or.inl (hw _ (List.mem_of_getElem? (i := 30) rfl))) Via.refl e0 F_last_li (g := (mkF m 1 #[.val (.ref li), .val (.long ky), .second] [(.ref li)])) rfl rfl (hb hby d15_1)
  refine Go.step st1 ?_
  show Go _ _ _ _ _ _ _ (T1.setTop (mkF m 4 #[.val (.ref li), .val (.long ky), .second] [(.ref nd)]))
  obtain ⟨T2, X2, e2, st2⟩ := own_getR X1 hx hZ hown (hw _ (List.mem_of_getElem? (i := 48) rfl)) e1 F_size_nd (f := (mkF m 4 #[.val (.ref li), .val (.long ky), .second] [(.ref nd)])) rfl rfl (hb hby d15_4)
  refine Go.step st2 ?_
  show Go _ _ _ _ _ _ _ (T2.setTop (mkF m 7 #[.val (.ref li), .val (.long ky), .second] [(.int sz)]))
  refine Go.step (fun t k => XS.iconst X2.here hx rfl (hb hby d15_7) k) ?_
  show Go _ _ _ _ _ _ _ (T2.setTop (mkF m 8 #[.val (.ref li), .val (.long ky), .second] [(.int (1 : Int32)), (.int sz)]))
  refine Go.step (fun t k => XS.icmpNo X2.here hx rfl (hb hby d15_8) rfl (tlt (own_z1lt hz hm1 : (1 : Int32) < sz)).2.2.2 k) ?_
  show Go _ _ _ _ _ _ _ (T2.setTop (mkF m 11 #[.val (.ref li), .val (.long ky), .second] []))
  refine Go.step (fun t k => XS.lloadN X2.here hx rfl (hb hby d15_11) rfl (XS.aloadN X2.here hx rfl (hb hby d15_12) rfl rfl k)) ?_
  show Go _ _ _ _ _ _ _ (T2.setTop (mkF m 13 #[.val (.ref li), .val (.long ky), .second] [(.ref li), (.long ky)]))
  obtain ⟨T3, X3, e3, st3⟩ := getF X2 hx hZ hown (host := "") (Or.inl (hw _ (List.mem_of_getElem? (i := 30) rfl))) Via.refl e2 F_last_li (g := (mkF m 13 #[.val (.ref li), .val (.long ky), .second] [(.ref li), (.long ky)])) rfl rfl (hb hby d15_13)
  refine Go.step st3 ?_
  show Go _ _ _ _ _ _ _ (T3.setTop (mkF m 16 #[.val (.ref li), .val (.long ky), .second] [(.ref nd), (.long ky)]))
  obtain ⟨T4, X4, e4, st4⟩ := own_getR X3 hx hZ hown (hw _ (List.mem_of_getElem? (i := 61) rfl)) e3 F_keys_nd (f := (mkF m 16 #[.val (.ref li), .val (.long ky), .second] [(.ref nd), (.long ky)])) rfl rfl (hb hby d15_16)
  refine Go.step st4 ?_
  show Go _ _ _ _ _ _ _ (T4.setTop (mkF m 19 #[.val (.ref li), .val (.long ky), .second] [(.ref kr), (.long ky)]))
  refine Go.step (fun t k => XS.aloadN X4.here hx rfl (hb hby d15_19) rfl rfl k) ?_
  show Go _ _ _ _ _ _ _ (T4.setTop (mkF m 20 #[.val (.ref li), .val (.long ky), .second] [(.ref li), (.ref kr), (.long ky)]))
  obtain ⟨T5, X5, e5, st5⟩ := getF X4 hx hZ hown (host := "") (Or.inl (hw _ (List.mem_of_getElem? (i := 30) rfl))) Via.refl e4 F_last_li (g := (mkF m 20 #[.val (.ref li), .val (.long ky), .second] [(.ref li), (.ref kr), (.long ky)])) rfl rfl (hb hby d15_20)
  refine Go.step st5 ?_
  show Go _ _ _ _ _ _ _ (T5.setTop (mkF m 23 #[.val (.ref li), .val (.long ky), .second] [(.ref nd), (.ref kr), (.long ky)]))
  obtain ⟨T6, X6, e6, st6⟩ := own_getR X5 hx hZ hown (hw _ (List.mem_of_getElem? (i := 48) rfl)) e5 F_size_nd (f := (mkF m 23 #[.val (.ref li), .val (.long ky), .second] [(.ref nd), (.ref kr), (.long ky)])) rfl rfl (hb hby d15_23)
  refine Go.step st6 ?_
  show Go _ _ _ _ _ _ _ (T6.setTop (mkF m 26 #[.val (.ref li), .val (.long ky), .second] [(.int sz), (.ref kr), (.long ky)]))
  refine Go.step (fun t k => XS.iconst X6.here hx rfl (hb hby d15_26) (XS.isub X6.here hx rfl (hb hby d15_27) rfl k)) ?_
  show Go _ _ _ _ _ _ _ (T6.setTop (mkF m 28 #[.val (.ref li), .val (.long ky), .second] [(.int (sz - (1 : Int32))), (.ref kr), (.long ky)]))
  refine Go.step (own_ld X6 hx hZ e6 A_kr (j := (sz - (1 : Int32))) mm (own_zm hz hm) (by omega) (v := (.long (gk mm))) rfl (Or.inr (Or.inl ⟨rfl, rfl⟩)) (f := (mkF m 28 #[.val (.ref li), .val (.long ky), .second] [(.int (sz - (1 : Int32))), (.ref kr), (.long ky)])) rfl rfl (hb hby d15_28)) ?_
  show Go _ _ _ _ _ _ _ (T6.setTop (mkF m 29 #[.val (.ref li), .val (.long ky), .second] [(.long (gk mm)), (.long ky)]))
  refine Go.step (fun t k => XS.lcmp X6.here hx rfl (hb hby d15_29) rfl k) ?_
  show Go _ _ _ _ _ _ _ (T6.setTop (mkF m 30 #[.val (.ref li), .val (.long ky), .second] [(.int (lcmpW ky (gk mm)))]))
  by_cases hc30_8 : ky = (gk mm)
  · refine Go.step (fun t k => XS.ifNo X6.here hx rfl (hb hby d15_30) rfl ((if0 _ _).trans (teq (own_lweq hc30_8)).2) k) ?_
    show Go _ _ _ _ _ _ _ (T6.setTop (mkF m 33 #[.val (.ref li), .val (.long ky), .second] []))
    refine Go.step (fun t k => XS.aloadN X6.here hx rfl (hb hby d15_33) rfl rfl k) ?_
    show Go _ _ _ _ _ _ _ (T6.setTop (mkF m 34 #[.val (.ref li), .val (.long ky), .second] [(.ref li)]))
    obtain ⟨T9, X9, e9, st9⟩ := getF X6 hx hZ hown (host := "") (Or.inl (hw _ (List.mem_of_getElem? (i := 30) rfl))) Via.refl e6 F_last_li (g := (mkF m 34 #[.val (.ref li), .val (.long ky), .second] [(.ref li)])) rfl rfl (hb hby d15_34)
    refine Go.step st9 ?_
    show Go _ _ _ _ _ _ _ (T9.setTop (mkF m 37 #[.val (.ref li), .val (.long ky), .second] [(.ref nd)]))
    refine Go.step (fun t k => XS.aloadN X9.here hx rfl (hb hby d15_37) rfl rfl k) ?_
    show Go _ _ _ _ _ _ _ (T9.setTop (mkF m 38 #[.val (.ref li), .val (.long ky), .second] [(.ref li), (.ref nd)]))
    obtain ⟨T10, X10, e10, st10⟩ := getF X9 hx hZ hown (host := "") (Or.inl (hw _ (List.mem_of_getElem? (i := 30) rfl))) Via.refl e9 F_last_li (g := (mkF m 38 #[.val (.ref li), .val (.long ky), .second] [(.ref li), (.ref nd)])) rfl rfl (hb hby d15_38)
    refine Go.step st10 ?_
    show Go _ _ _ _ _ _ _ (T10.setTop (mkF m 41 #[.val (.ref li), .val (.long ky), .second] [(.ref nd), (.ref nd)]))
    obtain ⟨T11, X11, e11, st11⟩ := own_getR X10 hx hZ hown (hw _ (List.mem_of_getElem? (i := 48) rfl)) e10 F_size_nd (f := (mkF m 41 #[.val (.ref li), .val (.long ky), .second] [(.ref nd), (.ref nd)])) rfl rfl (hb hby d15_41)
    refine Go.step st11 ?_
    show Go _ _ _ _ _ _ _ (T11.setTop (mkF m 44 #[.val (.ref li), .val (.long ky), .second] [(.int sz), (.ref nd)]))
    refine Go.step (fun t k => XS.iconst X11.here hx rfl (hb hby d15_44) (XS.isub X11.here hx rfl (hb hby d15_45) rfl k)) ?_
    show Go _ _ _ _ _ _ _ (T11.setTop (mkF m 46 #[.val (.ref li), .val (.long ky), .second] [(.int (sz - (1 : Int32))), (.ref nd)]))
    obtain ⟨cq12, kq12, q12a, q12b, q12c⟩ := isOf hZ e11 E_nd
    obtain ⟨_, _, ⟨T12, L12, k12, n12⟩, -, X12, ⟨Lc12, hQ12, l12, y12, z12⟩, st12⟩ := X11.virtualBack hx (y := (⟨"com/example/matchstone/matchstone/LevelIndex$Node", "removeEntry", "(I)V"⟩ : MethodName)) (z := (⟨"com/example/matchstone/matchstone/LevelIndex$Node", "removeEntry", "(I)V"⟩ : MethodName)) hown (mvT hZ (hw _ (List.mem_of_getElem? (i := 104) rfl))) (mvT hZ (hw _ (List.mem_of_getElem? (i := 105) rfl))) (notFace_of_selects (args := #[]) (mvT hZ (hw _ (List.mem_of_getElem? (i := 107) rfl)))) (mvT hZ (hw _ (List.mem_of_getElem? (i := 107) rfl))) (mvT hZ (hw _ (List.mem_of_getElem? (i := 106) rfl))) (by decide) (backOf (W := 0) (rm17 l Z a0 hw [] nd (sz - (1 : Int32)) kr lr gk gl sz mm mm h0 n0 Z0 F_keys_nd F_levels_nd F_children_nd F_size_nd F_next_nd F_previous_nd E_nd A_kr R_lr g_nd g_kr g_lr ne_kr_lr (by assumption) (by assumption) (by assumption) (own_zm hz hm) (by omega)) hZ (hw _ (List.mem_of_getElem? (i := 108) rfl)) (hw _ (List.mem_of_getElem? (i := 11) rfl)) (by decide) (by decide)) q12a q12c (g := (mkF m 46 #[.val (.ref li), .val (.long ky), .second] [(.int (sz - (1 : Int32))), (.ref nd)])) rfl (by rw [hml]; rfl) (Steps.refl _) (argsL := [(.int (sz - (1 : Int32)))]) (rest := []) (lenOf pd_15_0 rfl) rfl (by show 2 * 0 + _ ≤ _; exact Nat.le_of_eq rfl) (hb hby d15_46) (fun _ _ => ⟨rfl, e11, (by decide : 0 + 0 ≤ _), (by decide : 0 + 0 ≤ _)⟩)
    dsimp only [Pt.U, Pt.locs, Pt.cells, Pt.slots] at X12 l12 y12 z12 st12 hQ12
    subst l12 y12 z12
    obtain ⟨rfl, N12q, K12q, o12_F_keys_nd, o12_F_levels_nd, o12_F_children_nd, o12_F_size_nd, o12_F_next_nd, o12_F_previous_nd, o12_E_nd, o12_A_kr, o12_R_lr⟩ := hQ12
    have N12 := Fr.app N0 N12q
    have ne_li_nd : li ≠ nd := (ne_exa E_li E_nd (by decide))
    have ne_li_kr : li ≠ kr := (own_neA E_li (hw _ (List.mem_of_getElem? (i := 1) rfl)) A_kr)
    have ne_li_lr : li ≠ lr := (own_neR E_li (hw _ (List.mem_of_getElem? (i := 1) rfl)) R_lr)
    replace F_root_li := F_root_li.keep K12q (ninS ne_li_nd (ninS ne_li_kr (ninS ne_li_lr nin0)))
    replace F_last_li := F_last_li.keep K12q (ninS ne_li_nd (ninS ne_li_kr (ninS ne_li_lr nin0)))
    replace F_ahead_li := F_ahead_li.keep K12q (ninS ne_li_nd (ninS ne_li_kr (ninS ne_li_lr nin0)))
    replace E_li := E_li.keep K12q
    replace E_nd := E_nd.keep K12q
    have Z12 := Nat.le_trans Z0 K12q.1
    have K12' := K0.trans K12q (allS (Or.inl (List.mem_of_getElem? (i := 1) rfl)) (allS (Or.inl (List.mem_of_getElem? (i := 2) rfl)) (allS (Or.inl (List.mem_of_getElem? (i := 3) rfl)) all0)))
    have F_keys_nd := o12_F_keys_nd
    have F_levels_nd := o12_F_levels_nd
    have F_children_nd := o12_F_children_nd
    have F_size_nd := o12_F_size_nd
    have F_next_nd := o12_F_next_nd
    have F_previous_nd := o12_F_previous_nd
    have E_nd := o12_E_nd
    have A_kr := o12_A_kr
    have R_lr := o12_R_lr
    refine Go.step (fun t k => st12.trans k) ?_
    show Go _ _ _ _ _ _ _ (T12.setTop (mkF m 49 #[.val (.ref li), .val (.long ky), .second] []))
    refine Go.retV X12 Bd.notSynchronized hx Bd.returns (hb hby d15_49) (by decide) (by decide) ?_
    exact ⟨mm, (own_sh gk (mm + 1) mm (mm - mm)), (up (own_sh gl (mm + 1) mm (mm - mm)) mm .null), rfl, N12, K12', (by omega), hc30_8.symm, rfl, rfl, F_root_li, F_last_li, F_ahead_li, E_li, F_keys_nd, F_levels_nd, F_children_nd, F_size_nd, F_next_nd, F_previous_nd, E_nd, A_kr, R_lr⟩
  · refine Go.step (fun t k => XS.ifYes X6.here hx rfl (pc0 := 30) (pc' := 50) rfl (hb hby d15_30) rfl ((if0 _ _).trans (feq (own_nlweq hc30_8)).2) (by decide) (by decide) k) ?_
    show Go _ _ _ _ _ _ _ (T6.setTop (mkF m 50 #[.val (.ref li), .val (.long ky), .second] []))
    refine Go.step (fun t k => XS.aloadN X6.here hx rfl (hb hby d15_50) rfl rfl (XS.aloadN X6.here hx rfl (hb hby d15_51) rfl rfl k)) ?_
    show Go _ _ _ _ _ _ _ (T6.setTop (mkF m 52 #[.val (.ref li), .val (.long ky), .second] [(.ref li), (.ref li)]))
    obtain ⟨T13, X13, e13, st13⟩ := getF X6 hx hZ hown (host := "") (Or.inl (hw _ (List.mem_of_getElem? (i := 28) rfl))) Via.refl e6 F_root_li (g := (mkF m 52 #[.val (.ref li), .val (.long ky), .second] [(.ref li), (.ref li)])) rfl rfl (hb hby d15_52)
    refine Go.step st13 ?_
    show Go _ _ _ _ _ _ _ (T13.setTop (mkF m 55 #[.val (.ref li), .val (.long ky), .second] [(.ref nd), (.ref li)]))
    refine Go.step (fun t k => XS.lloadN X13.here hx rfl (hb hby d15_55) rfl k) ?_
    show Go _ _ _ _ _ _ _ (T13.setTop (mkF m 56 #[.val (.ref li), .val (.long ky), .second] [(.long ky), (.ref nd), (.ref li)]))
    obtain ⟨cq14, q14, q14'⟩ := E_li.cell
    obtain ⟨_, _, ⟨T14, L14, k14, n14⟩, -, X14, ⟨Lc14, hQ14, l14, y14, z14⟩, st14⟩ := X13.privateBack hx (y := (⟨"com/example/matchstone/matchstone/LevelIndex", "remove", "(Lcom/example/matchstone/matchstone/LevelIndex$Node;J)Z"⟩ : MethodName)) hown (mvT hZ (hw _ (List.mem_of_getElem? (i := 98) rfl))) (mvT hZ (hw _ (List.mem_of_getElem? (i := 99) rfl))) (own_selP hZ (hw _ (List.mem_of_getElem? (i := 1) rfl)) (hw _ (List.mem_of_getElem? (i := 99) rfl)) (hw _ (List.mem_of_getElem? (i := 100) rfl)) (by decide)) (Cond.privateMethod_at (mvP hZ (hw _ (List.mem_of_getElem? (i := 100) rfl)) (args := #[]))) (mvT hZ (hw _ (List.mem_of_getElem? (i := 101) rfl))) (by decide) (backOf (W := 0) (rm16 l Z a0 hw [] li nd ky kr lr gk gl sz mm aw h0 n0 Z0 F_root_li F_last_li F_ahead_li E_li g_li F_keys_nd F_levels_nd F_children_nd F_size_nd F_next_nd F_previous_nd E_nd A_kr R_lr g_nd g_kr g_lr ne_kr_lr (by assumption) (by assumption) (by assumption) (by assumption) (by assumption)) hZ (hw _ (List.mem_of_getElem? (i := 101) rfl)) (hw _ (List.mem_of_getElem? (i := 2) rfl)) (by decide) (by decide)) (g := (mkF m 56 #[.val (.ref li), .val (.long ky), .second] [(.long ky), (.ref nd), (.ref li)])) rfl (by rw [hml]; rfl) (Steps.refl _) (a := li) (by rw [e13]; exact q14) q14' (argsL := [(.ref nd), (.long ky)]) (rest := []) (lenOf pd_15_1 rfl) rfl (by show 2 * 0 + _ ≤ _; exact Nat.le_of_eq rfl) (hb hby d15_56) (fun _ _ => ⟨rfl, e13, (by decide : 0 + 0 ≤ _), (by decide : 0 + 0 ≤ _)⟩)
    dsimp only [Pt.U, Pt.locs, Pt.cells, Pt.slots] at X14 l14 y14 z14 st14 hQ14
    subst l14 y14 z14
    obtain ⟨im_14, rfl, N14q, K14q, o14_him, o14_hgi, o14_F_root_li, o14_F_last_li, o14_F_ahead_li, o14_E_li, o14_F_keys_nd, o14_F_levels_nd, o14_F_children_nd, o14_F_size_nd, o14_F_next_nd, o14_F_previous_nd, o14_E_nd, o14_A_kr, o14_R_lr⟩ := hQ14
    have N14 := Fr.app N0 N14q
    replace E_li := E_li.keep K14q
    replace E_nd := E_nd.keep K14q
    have Z14 := Nat.le_trans Z0 K14q.1
    have K14' := K0.trans K14q (allS (Or.inl (List.mem_of_getElem? (i := 0) rfl)) (allS (Or.inl (List.mem_of_getElem? (i := 1) rfl)) (allS (Or.inl (List.mem_of_getElem? (i := 2) rfl)) (allS (Or.inl (List.mem_of_getElem? (i := 3) rfl)) all0))))
    have F_root_li := o14_F_root_li
    have F_last_li := o14_F_last_li
    have F_ahead_li := o14_F_ahead_li
    have E_li := o14_E_li
    have F_keys_nd := o14_F_keys_nd
    have F_levels_nd := o14_F_levels_nd
    have F_children_nd := o14_F_children_nd
    have F_size_nd := o14_F_size_nd
    have F_next_nd := o14_F_next_nd
    have F_previous_nd := o14_F_previous_nd
    have E_nd := o14_E_nd
    have A_kr := o14_A_kr
    have R_lr := o14_R_lr
    refine Go.step (fun t k => st14.trans k) ?_
    show Go _ _ _ _ _ _ _ (T14.setTop (mkF m 59 #[.val (.ref li), .val (.long ky), .second] [(.int (0 : Int32))]))
    refine Go.step (fun t k => XS.ifYes X14.here hx rfl (pc0 := 59) (pc' := 77) rfl (hb hby d15_59) rfl ((if0 _ _).trans (teq (by decide : (0 : Int32) = (0 : Int32))).1) (by decide) (by decide) k) ?_
    show Go _ _ _ _ _ _ _ (T14.setTop (mkF m 77 #[.val (.ref li), .val (.long ky), .second] []))
    refine Go.step (fun t k => XS.aloadN X14.here hx rfl (hb hby d15_77) rfl rfl k) ?_
    show Go _ _ _ _ _ _ _ (T14.setTop (mkF m 78 #[.val (.ref li), .val (.long ky), .second] [(.ref li)]))
    obtain ⟨T15, X15, e15, st15⟩ := getF X14 hx hZ hown (host := "") (Or.inl (hw _ (List.mem_of_getElem? (i := 28) rfl))) Via.refl rfl F_root_li (g := (mkF m 78 #[.val (.ref li), .val (.long ky), .second] [(.ref li)])) rfl rfl (hb hby d15_78)
    refine Go.step st15 ?_
    show Go _ _ _ _ _ _ _ (T15.setTop (mkF m 81 #[.val (.ref li), .val (.long ky), .second] [(.ref nd)]))
    obtain ⟨cq16, kq16, q16a, q16b, q16c⟩ := isOf hZ e15 E_nd
    obtain ⟨_, _, ⟨T16, L16, k16, n16⟩, -, X16, ⟨Lc16, hQ16, l16, y16, z16⟩, st16⟩ := X15.virtualBack hx (y := (⟨"com/example/matchstone/matchstone/LevelIndex$Node", "isLeaf", "()Z"⟩ : MethodName)) (z := (⟨"com/example/matchstone/matchstone/LevelIndex$Node", "isLeaf", "()Z"⟩ : MethodName)) hown (mvT hZ (hw _ (List.mem_of_getElem? (i := 66) rfl))) (mvT hZ (hw _ (List.mem_of_getElem? (i := 67) rfl))) (notFace_of_selects (args := #[]) (mvT hZ (hw _ (List.mem_of_getElem? (i := 69) rfl)))) (mvT hZ (hw _ (List.mem_of_getElem? (i := 69) rfl))) (mvT hZ (hw _ (List.mem_of_getElem? (i := 68) rfl))) (by decide) (backOf (W := 0) (rm9 l Z a0 hw [] nd lr T14.heap n0 Z14 F_levels_nd) hZ (hw _ (List.mem_of_getElem? (i := 70) rfl)) (hw _ (List.mem_of_getElem? (i := 11) rfl)) (by decide) (by decide)) q16a q16c (g := (mkF m 81 #[.val (.ref li), .val (.long ky), .second] [(.ref nd)])) rfl (by rw [hml]; rfl) (Steps.refl _) (argsL := []) (rest := []) (lenOf pd_15_2 rfl) rfl (by show 2 * 0 + _ ≤ _; exact Nat.le_of_eq rfl) (hb hby d15_81) (fun _ _ => ⟨rfl, e15, (by decide : 0 + 0 ≤ _), (by decide : 0 + 0 ≤ _)⟩)
    dsimp only [Pt.U, Pt.locs, Pt.cells, Pt.slots] at X16 l16 y16 z16 st16 hQ16
    subst l16 y16 z16
    obtain ⟨rfl, N16q, K16q⟩ := hQ16
    have N16 := Fr.app N14 N16q
    refine Go.step (fun t k => st16.trans k) ?_
    show Go _ _ _ _ _ _ _ (T16.setTop (mkF m 84 #[.val (.ref li), .val (.long ky), .second] [(.int (1 : Int32))]))
    refine Go.step (fun t k => XS.ifYes X16.here hx rfl (pc0 := 84) (pc' := 113) rfl (hb hby d15_84) rfl ((if0 _ _).trans (feq (by decide : ¬ (1 : Int32) = (0 : Int32))).2) (by decide) (by decide) k) ?_
    show Go _ _ _ _ _ _ _ (T16.setTop (mkF m 113 #[.val (.ref li), .val (.long ky), .second] []))
    refine Go.retV X16 Bd.notSynchronized hx Bd.returns (hb hby d15_113) (by decide) (by decide) ?_
    rw [K16q]
    exact ⟨im_14, (own_sh gk (im_14 + 1) im_14 (mm - im_14)), (up (own_sh gl (im_14 + 1) im_14 (mm - im_14)) mm .null), rfl, N16, K14', o14_him, o14_hgi, rfl, rfl, F_root_li, F_last_li, F_ahead_li, E_li, F_keys_nd, F_levels_nd, F_children_nd, F_size_nd, F_next_nd, F_previous_nd, E_nd, A_kr, R_lr⟩
theorem d13_0 : decode prog_21_method_3_code 0 = .ok (.aload_n 0, 1) := by decide +kernel
theorem d13_1 : decode prog_21_method_3_code 1 = .ok (.getfield 19, 3) := by decide +kernel
theorem d13_4 : decode prog_21_method_3_code 4 = .ok (.getfield 30, 3) := by decide +kernel
theorem d13_7 : decode prog_21_method_3_code 7 = .ok (.ifCond .ne 7, 3) := by decide +kernel
theorem d13_10 : decode prog_21_method_3_code 10 = .ok (.aconst_null, 1) := by decide +kernel
theorem d13_11 : decode prog_21_method_3_code 11 = .ok (.goto 20, 3) := by decide +kernel
theorem d13_31 : decode prog_21_method_3_code 31 = .ok (.areturn, 1) := by decide +kernel
theorem pn_13_0 : plainName "com/example/matchstone/matchstone/LevelIndex" = true := by first | (simp [plainName, overriddenIn]; done) | decide +kernel
theorem ef_13_0 (m : MethodId) (x0 : Addr) : entryFrame m #[(.ref x0)] 1 = mkF m 0 #[.val (.ref x0)] [] := by first | (simp [entryFrame, mkF, argsToLocals, Value.category]; done) | rfl
def Q13_0 (Z : State) (li : Addr) (nd : Addr) (lr : Addr) (gl : Nat → Value) (h0 : Heap) (n0 : Nat) (v : Option Value) (h : Heap) (L : List Loc) : Prop := v = some .null ∧ Fr n0 L ∧ h = h0
set_option maxRecDepth 65536 in
set_option maxHeartbeats 40000000 in
theorem rm13_0 (l : Launch) (Z : State) (a0 : Array Value) (hw : ∀ d ∈ tables_1, d.before a0 Z = true) (ws : List Jvm.Cond) (li : Addr) (nd : Addr) (lr : Addr) (gl : Nat → Value) (h0 : Heap) (n0 : Nat) (Z0 : n0 ≤ h0.size) (F_last_li : Fld Z h0 li "com/example/matchstone/matchstone/LevelIndex" "last" "Lcom/example/matchstone/matchstone/LevelIndex$Node;" (.ref nd)) (F_levels_nd : Fld Z h0 nd "com/example/matchstone/matchstone/LevelIndex$Node" "levels" "[Lcom/example/matchstone/matchstone/PriceLevel;" (.ref lr)) (F_size_nd : Fld Z h0 nd "com/example/matchstone/matchstone/LevelIndex$Node" "size" "I" (.int (0 : Int32))) (R_lr : RAr Z h0 lr "com/example/matchstone/matchstone/PriceLevel" 65 gl) :
    MetFree l (⟨"com/example/matchstone/matchstone/LevelIndex", "best", "()Lcom/example/matchstone/matchstone/PriceLevel;"⟩ : MethodName) (head1 (Jvm.Cond.code (⟨"com/example/matchstone/matchstone/LevelIndex", "best", "()Lcom/example/matchstone/matchstone/PriceLevel;"⟩ : MethodName) prog_21_method_3_code 1 (some (.object "com/example/matchstone/matchstone/PriceLevel")) :: ws) ({ frames := 0, cells := 0, slots := 0, locals := 0 } : Room)) (fun a U => a = #[(.ref li)] ∧ Z.Warmed39 U.vm ∧ U.heap = h0) (fun _ _ _ _ _ => True) (fun _ U o U' => ∃ v L, o = .returned v ∧ Q13_0 Z li nd lr gl h0 n0 v U'.heap L ∧ FrameEnd U o U' L ({ frames := 0, cells := 0, slots := 0, locals := 0 } : Room).cells ({ frames := 0, cells := 0, slots := 0, locals := 0 } : Room).slots) := by
  refine MetFree.of_bodySF (plainFor_of_name pn_13_0) hisR ?_
  intro p e s m args below meth c s₁ Bd hml0 hP hK
  obtain ⟨rfl, hZ, hh⟩ := hP
  have hx := Bd.exec
  have hby := Bd.bytes
  have hml : c.maxLocals = 1 := hml0
  have hown : s.vm.findClass "com/example/matchstone/matchstone/LevelIndex" = some m.cls := findClass_of_methodNamed Bd.named
  have hnm := (name_of_methodNamed Bd.named Bd.method).1
  have X0 : Stand p l e ({ frames := 0, cells := 0, slots := 0, locals := 0 } : Room) s m #[(.ref li)] below meth c s₁ [] 0 0 := Stand.of_body Bd
  have e0 : s₁.heap = h0 := by rw [← hh, Bd.state]; rfl
  have N0 := Fr.nil n0
  show Go p e below s (Q13_0 Z li nd lr gl h0 n0) ({ frames := 0, cells := 0, slots := 0, locals := 0 } : Room).cells ({ frames := 0, cells := 0, slots := 0, locals := 0 } : Room).slots (s₁.setTop (entryFrame m #[(.ref li)] 1))
  rw [ef_13_0]
  show Go _ _ _ _ _ _ _ (s₁.setTop (mkF m 0 #[.val (.ref li)] []))
  refine Go.step (fun t k => XS.aloadN X0.here hx rfl (hb hby d13_0) rfl rfl k) ?_
  show Go _ _ _ _ _ _ _ (s₁.setTop (mkF m 1 #[.val (.ref li)] [(.ref li)]))
  obtain ⟨T1, X1, e1, st1⟩ := getF X0 hx hZ hown (host := "") (Or.inl (hw _ (List.mem_of_getElem? (i := 30) rfl))) Via.refl e0 F_last_li (g := (mkF m 1 #[.val (.ref li)] [(.ref li)])) rfl rfl (hb hby d13_1)
  refine Go.step st1 ?_
  show Go _ _ _ _ _ _ _ (T1.setTop (mkF m 4 #[.val (.ref li)] [(.ref nd)]))
  obtain ⟨T2, X2, e2, st2⟩ := own_getR X1 hx hZ hown (hw _ (List.mem_of_getElem? (i := 48) rfl)) e1 F_size_nd (f := (mkF m 4 #[.val (.ref li)] [(.ref nd)])) rfl rfl (hb hby d13_4)
  refine Go.step st2 ?_
  show Go _ _ _ _ _ _ _ (T2.setTop (mkF m 7 #[.val (.ref li)] [(.int (0 : Int32))]))
  refine Go.step (fun t k => XS.ifNo X2.here hx rfl (hb hby d13_7) rfl ((if0 _ _).trans (teq (by decide : (0 : Int32) = (0 : Int32))).2) k) ?_
  show Go _ _ _ _ _ _ _ (T2.setTop (mkF m 10 #[.val (.ref li)] []))
  refine Go.step (fun t k => XS.aconstNull X2.here hx rfl (hb hby d13_10) k) ?_
  show Go _ _ _ _ _ _ _ (T2.setTop (mkF m 11 #[.val (.ref li)] [.null]))
  refine Go.step (fun t k => XS.goto X2.here hx rfl (pc0 := 11) (pc' := 31) rfl (hb hby d13_11) (by decide) (by decide) k) ?_
  show Go _ _ _ _ _ _ _ (T2.setTop (mkF m 31 #[.val (.ref li)] [.null]))
  refine Go.retA X2 Bd.notSynchronized hx Bd.returns rfl rfl rfl (hb hby d13_31) (by decide) (by decide) ?_
  rw [e2]
  exact ⟨rfl, N0, rfl⟩
theorem d13_14 : decode prog_21_method_3_code 14 = .ok (.aload_n 0, 1) := by decide +kernel
theorem d13_15 : decode prog_21_method_3_code 15 = .ok (.getfield 19, 3) := by decide +kernel
theorem d13_18 : decode prog_21_method_3_code 18 = .ok (.getfield 40, 3) := by decide +kernel
theorem d13_21 : decode prog_21_method_3_code 21 = .ok (.aload_n 0, 1) := by decide +kernel
theorem d13_22 : decode prog_21_method_3_code 22 = .ok (.getfield 19, 3) := by decide +kernel
theorem d13_25 : decode prog_21_method_3_code 25 = .ok (.getfield 30, 3) := by decide +kernel
theorem d13_28 : decode prog_21_method_3_code 28 = .ok (.iconst 1, 1) := by decide +kernel
theorem d13_29 : decode prog_21_method_3_code 29 = .ok (.isub, 1) := by decide +kernel
theorem d13_30 : decode prog_21_method_3_code 30 = .ok (.aaload, 1) := by decide +kernel
theorem pn_13 : plainName "com/example/matchstone/matchstone/LevelIndex" = true := by first | (simp [plainName, overriddenIn]; done) | decide +kernel
theorem ef_13 (m : MethodId) (x0 : Addr) : entryFrame m #[(.ref x0)] 1 = mkF m 0 #[.val (.ref x0)] [] := by first | (simp [entryFrame, mkF, argsToLocals, Value.category]; done) | rfl
def Q13 (Z : State) (li : Addr) (nd : Addr) (lr : Addr) (gl : Nat → Value) (sz : Int32) (mm : Nat) (h0 : Heap) (n0 : Nat) (v : Option Value) (h : Heap) (L : List Loc) : Prop := v = some (gl mm) ∧ Fr n0 L ∧ h = h0
set_option maxRecDepth 65536 in
set_option maxHeartbeats 40000000 in
theorem rm13 (l : Launch) (Z : State) (a0 : Array Value) (hw : ∀ d ∈ tables_1, d.before a0 Z = true) (ws : List Jvm.Cond) (li : Addr) (nd : Addr) (lr : Addr) (gl : Nat → Value) (sz : Int32) (mm : Nat) (h0 : Heap) (n0 : Nat) (Z0 : n0 ≤ h0.size) (F_last_li : Fld Z h0 li "com/example/matchstone/matchstone/LevelIndex" "last" "Lcom/example/matchstone/matchstone/LevelIndex$Node;" (.ref nd)) (F_levels_nd : Fld Z h0 nd "com/example/matchstone/matchstone/LevelIndex$Node" "levels" "[Lcom/example/matchstone/matchstone/PriceLevel;" (.ref lr)) (F_size_nd : Fld Z h0 nd "com/example/matchstone/matchstone/LevelIndex$Node" "size" "I" (.int sz)) (R_lr : RAr Z h0 lr "com/example/matchstone/matchstone/PriceLevel" 65 gl) (hz : (sz.toInt = ((mm + 1 : Nat) : Int))) (hm : (mm ≤ 2)) :
    MetFree l (⟨"com/example/matchstone/matchstone/LevelIndex", "best", "()Lcom/example/matchstone/matchstone/PriceLevel;"⟩ : MethodName) (head1 (Jvm.Cond.code (⟨"com/example/matchstone/matchstone/LevelIndex", "best", "()Lcom/example/matchstone/matchstone/PriceLevel;"⟩ : MethodName) prog_21_method_3_code 1 (some (.object "com/example/matchstone/matchstone/PriceLevel")) :: ws) ({ frames := 0, cells := 0, slots := 0, locals := 0 } : Room)) (fun a U => a = #[(.ref li)] ∧ Z.Warmed39 U.vm ∧ U.heap = h0) (fun _ _ _ _ _ => True) (fun _ U o U' => ∃ v L, o = .returned v ∧ Q13 Z li nd lr gl sz mm h0 n0 v U'.heap L ∧ FrameEnd U o U' L ({ frames := 0, cells := 0, slots := 0, locals := 0 } : Room).cells ({ frames := 0, cells := 0, slots := 0, locals := 0 } : Room).slots) := by
  refine MetFree.of_bodySF (plainFor_of_name pn_13) hisR ?_
  intro p e s m args below meth c s₁ Bd hml0 hP hK
  obtain ⟨rfl, hZ, hh⟩ := hP
  have hx := Bd.exec
  have hby := Bd.bytes
  have hml : c.maxLocals = 1 := hml0
  have hown : s.vm.findClass "com/example/matchstone/matchstone/LevelIndex" = some m.cls := findClass_of_methodNamed Bd.named
  have hnm := (name_of_methodNamed Bd.named Bd.method).1
  have X0 : Stand p l e ({ frames := 0, cells := 0, slots := 0, locals := 0 } : Room) s m #[(.ref li)] below meth c s₁ [] 0 0 := Stand.of_body Bd
  have e0 : s₁.heap = h0 := by rw [← hh, Bd.state]; rfl
  have N0 := Fr.nil n0
  show Go p e below s (Q13 Z li nd lr gl sz mm h0 n0) ({ frames := 0, cells := 0, slots := 0, locals := 0 } : Room).cells ({ frames := 0, cells := 0, slots := 0, locals := 0 } : Room).slots (s₁.setTop (entryFrame m #[(.ref li)] 1))
  rw [ef_13]
  show Go _ _ _ _ _ _ _ (s₁.setTop (mkF m 0 #[.val (.ref li)] []))
  refine Go.step (fun t k => XS.aloadN X0.here hx rfl (hb hby d13_0) rfl rfl k) ?_
  show Go _ _ _ _ _ _ _ (s₁.setTop (mkF m 1 #[.val (.ref li)] [(.ref li)]))
  obtain ⟨T1, X1, e1, st1⟩ := getF X0 hx hZ hown (host := "") (Or.inl (hw _ (List.mem_of_getElem? (i := 30) rfl))) Via.refl e0 F_last_li (g := (mkF m 1 #[.val (.ref li)] [(.ref li)])) rfl rfl (hb hby d13_1)
  refine Go.step st1 ?_
  show Go _ _ _ _ _ _ _ (T1.setTop (mkF m 4 #[.val (.ref li)] [(.ref nd)]))
  obtain ⟨T2, X2, e2, st2⟩ := own_getR X1 hx hZ hown (hw _ (List.mem_of_getElem? (i := 48) rfl)) e1 F_size_nd (f := (mkF m 4 #[.val (.ref li)] [(.ref nd)])) rfl rfl (hb hby d13_4)
  refine Go.step st2 ?_
  show Go _ _ _ _ _ _ _ (T2.setTop (mkF m 7 #[.val (.ref li)] [(.int sz)]))
  refine Go.step (fun t k => XS.ifYes X2.here hx rfl (pc0 := 7) (pc' := 14) rfl (hb hby d13_7) rfl ((if0 _ _).trans (feq (own_znz hz : ¬ sz = (0 : Int32))).2) (by decide) (by decide) k) ?_
  show Go _ _ _ _ _ _ _ (T2.setTop (mkF m 14 #[.val (.ref li)] []))
  refine Go.step (fun t k => XS.aloadN X2.here hx rfl (hb hby d13_14) rfl rfl k) ?_
  show Go _ _ _ _ _ _ _ (T2.setTop (mkF m 15 #[.val (.ref li)] [(.ref li)]))
  obtain ⟨T3, X3, e3, st3⟩ := getF X2 hx hZ hown (host := "") (Or.inl (hw _ (List.mem_of_getElem? (i := 30) rfl))) Via.refl e2 F_last_li (g := (mkF m 15 #[.val (.ref li)] [(.ref li)])) rfl rfl (hb hby d13_15)
  refine Go.step st3 ?_
  show Go _ _ _ _ _ _ _ (T3.setTop (mkF m 18 #[.val (.ref li)] [(.ref nd)]))
  obtain ⟨T4, X4, e4, st4⟩ := own_getR X3 hx hZ hown (hw _ (List.mem_of_getElem? (i := 81) rfl)) e3 F_levels_nd (f := (mkF m 18 #[.val (.ref li)] [(.ref nd)])) rfl rfl (hb hby d13_18)
  refine Go.step st4 ?_
  show Go _ _ _ _ _ _ _ (T4.setTop (mkF m 21 #[.val (.ref li)] [(.ref lr)]))
  refine Go.step (fun t k => XS.aloadN X4.here hx rfl (hb hby d13_21) rfl rfl k) ?_
  show Go _ _ _ _ _ _ _ (T4.setTop (mkF m 22 #[.val (.ref li)] [(.ref li), (.ref lr)]))
  obtain ⟨T5, X5, e5, st5⟩ := getF X4 hx hZ hown (host := "") (Or.inl (hw _ (List.mem_of_getElem? (i := 30) rfl))) Via.refl e4 F_last_li (g := (mkF m 22 #[.val (.ref li)] [(.ref li), (.ref lr)])) rfl rfl (hb hby d13_22)
  refine Go.step st5 ?_
  show Go _ _ _ _ _ _ _ (T5.setTop (mkF m 25 #[.val (.ref li)] [(.ref nd), (.ref lr)]))
  obtain ⟨T6, X6, e6, st6⟩ := own_getR X5 hx hZ hown (hw _ (List.mem_of_getElem? (i := 48) rfl)) e5 F_size_nd (f := (mkF m 25 #[.val (.ref li)] [(.ref nd), (.ref lr)])) rfl rfl (hb hby d13_25)
  refine Go.step st6 ?_
  show Go _ _ _ _ _ _ _ (T6.setTop (mkF m 28 #[.val (.ref li)] [(.int sz), (.ref lr)]))
  refine Go.step (fun t k => XS.iconst X6.here hx rfl (hb hby d13_28) (XS.isub X6.here hx rfl (hb hby d13_29) rfl k)) ?_
  show Go _ _ _ _ _ _ _ (T6.setTop (mkF m 30 #[.val (.ref li)] [(.int (sz - (1 : Int32))), (.ref lr)]))
  refine Go.step (own_ldR X6 hx hZ e6 R_lr (j := (sz - (1 : Int32))) mm (own_zm hz hm) (by omega) (f := (mkF m 30 #[.val (.ref li)] [(.int (sz - (1 : Int32))), (.ref lr)])) rfl rfl (hb hby d13_30)) ?_
  show Go _ _ _ _ _ _ _ (T6.setTop (mkF m 31 #[.val (.ref li)] [(gl mm)]))
  refine Go.retA X6 Bd.notSynchronized hx Bd.returns rfl rfl (RAr.ref R_lr (by omega)) (hb hby d13_31) (by decide) (by decide) ?_
  rw [e6]
  exact ⟨rfl, N0, rfl⟩
theorem d14_0 : decode method_2_code 0 = .ok (.aconst_null, 1) := by decide +kernel
theorem d14_1 : decode method_2_code 1 = .ok (.astore 12, 2) := by decide +kernel
theorem d14_3 : decode method_2_code 3 = .ok (.lconst 0, 1) := by decide +kernel
theorem d14_4 : decode method_2_code 4 = .ok (.lstore 13, 2) := by decide +kernel
theorem d14_6 : decode method_2_code 6 = .ok (.iload_n 0, 1) := by decide +kernel
theorem d14_7 : decode method_2_code 7 = .ok (.ifCond .eq 9, 3) := by decide +kernel
theorem d14_10 : decode method_2_code 10 = .ok (.aload_n 3, 1) := by decide +kernel
theorem d14_11 : decode method_2_code 11 = .ok (.astore 12, 2) := by decide +kernel
theorem d14_13 : decode method_2_code 13 = .ok (.lload_n 1, 1) := by decide +kernel
theorem d14_14 : decode method_2_code 14 = .ok (.lstore 13, 2) := by decide +kernel
theorem d14_16 : decode method_2_code 16 = .ok (.iload 4, 2) := by decide +kernel
theorem d14_18 : decode method_2_code 18 = .ok (.ifCond .eq 24, 3) := by decide +kernel
theorem d14_21 : decode method_2_code 21 = .ok (.aload 12, 2) := by decide +kernel
theorem d14_23 : decode method_2_code 23 = .ok (.ifnull 11, 3) := by decide +kernel
theorem d14_26 : decode method_2_code 26 = .ok (.lload 5, 2) := by decide +kernel
theorem d14_28 : decode method_2_code 28 = .ok (.lload 13, 2) := by decide +kernel
theorem d14_30 : decode method_2_code 30 = .ok (.lcmp, 1) := by decide +kernel
theorem d14_31 : decode method_2_code 31 = .ok (.ifCond .le 11, 3) := by decide +kernel
theorem d14_34 : decode method_2_code 34 = .ok (.aload 7, 2) := by decide +kernel
theorem d14_36 : decode method_2_code 36 = .ok (.astore 12, 2) := by decide +kernel
theorem d14_38 : decode method_2_code 38 = .ok (.lload 5, 2) := by decide +kernel
theorem d14_40 : decode method_2_code 40 = .ok (.lstore 13, 2) := by decide +kernel
theorem d14_42 : decode method_2_code 42 = .ok (.iload 8, 2) := by decide +kernel
theorem d14_44 : decode method_2_code 44 = .ok (.ifCond .eq 24, 3) := by decide +kernel
theorem d14_47 : decode method_2_code 47 = .ok (.aload 12, 2) := by decide +kernel
theorem d14_49 : decode method_2_code 49 = .ok (.ifnull 11, 3) := by decide +kernel
theorem d14_52 : decode method_2_code 52 = .ok (.lload 9, 2) := by decide +kernel
theorem d14_54 : decode method_2_code 54 = .ok (.lload 13, 2) := by decide +kernel
theorem d14_56 : decode method_2_code 56 = .ok (.lcmp, 1) := by decide +kernel
theorem d14_57 : decode method_2_code 57 = .ok (.ifCond .le 11, 3) := by decide +kernel
theorem d14_60 : decode method_2_code 60 = .ok (.aload 11, 2) := by decide +kernel
theorem d14_62 : decode method_2_code 62 = .ok (.astore 12, 2) := by decide +kernel
theorem d14_64 : decode method_2_code 64 = .ok (.lload 9, 2) := by decide +kernel
theorem d14_66 : decode method_2_code 66 = .ok (.lstore 13, 2) := by decide +kernel
theorem d14_68 : decode method_2_code 68 = .ok (.aload 12, 2) := by decide +kernel
theorem d14_70 : decode method_2_code 70 = .ok (.areturn, 1) := by decide +kernel
theorem pn_14 : plainName "com/example/matchstone/matchstone/LevelIndexBestPinLaw" = true := by first | (simp [plainName, overriddenIn]; done) | decide +kernel
theorem ef_14 (m : MethodId) (x0 : Int32) (x1 : Int64) (x2 : Addr) (x3 : Int32) (x4 : Int64) (x5 : Addr) (x6 : Int32) (x7 : Int64) (x8 : Addr) : entryFrame m #[(.int x0), (.long x1), (.ref x2), (.int x3), (.long x4), (.ref x5), (.int x6), (.long x7), (.ref x8)] 15 = mkF m 0 #[.val (.int x0), .val (.long x1), .second, .val (.ref x2), .val (.int x3), .val (.long x4), .second, .val (.ref x5), .val (.int x6), .val (.long x7), .second, .val (.ref x8), .unset, .unset, .unset] [] := by first | (simp [entryFrame, mkF, argsToLocals, Value.category]; done) | rfl
def Q14 (Z : State) (pa : Int32) (xa : Int64) (qa : Addr) (pb : Int32) (xb : Int64) (qb : Addr) (pc : Int32) (xc : Int64) (qc : Addr) (ba : Bool) (bb : Bool) (bc : Bool) (h0 : Heap) (n0 : Nat) (v : Option Value) (h : Heap) (L : List Loc) : Prop := ∃ vv : Value, v = some vv ∧ Fr n0 L ∧ h = h0 ∧ (vv.isRef = true) ∧ (own_X ba bb bc xa xb xc qa qb qc vv)
set_option maxRecDepth 65536 in
set_option maxHeartbeats 40000000 in
theorem rm14 (l : Launch) (Z : State) (a0 : Array Value) (hw : ∀ d ∈ tables_1, d.before a0 Z = true) (ws : List Jvm.Cond) (pa : Int32) (xa : Int64) (qa : Addr) (pb : Int32) (xb : Int64) (qb : Addr) (pc : Int32) (xc : Int64) (qc : Addr) (ba : Bool) (bb : Bool) (bc : Bool) (h0 : Heap) (n0 : Nat) (Z0 : n0 ≤ h0.size) (hpa : ((ba = false ∧ pa = (0 : Int32)) ∨ (ba = true ∧ pa = (1 : Int32)))) (hpb : ((bb = false ∧ pb = (0 : Int32)) ∨ (bb = true ∧ pb = (1 : Int32)))) (hpc : ((bc = false ∧ pc = (0 : Int32)) ∨ (bc = true ∧ pc = (1 : Int32)))) :
    MetFree l (⟨"com/example/matchstone/matchstone/LevelIndexBestPinLaw", "expected", "(ZJLcom/example/matchstone/matchstone/PriceLevel;ZJLcom/example/matchstone/matchstone/PriceLevel;ZJLcom/example/matchstone/matchstone/PriceLevel;)Lcom/example/matchstone/matchstone/PriceLevel;"⟩ : MethodName) (head1 (Jvm.Cond.code (⟨"com/example/matchstone/matchstone/LevelIndexBestPinLaw", "expected", "(ZJLcom/example/matchstone/matchstone/PriceLevel;ZJLcom/example/matchstone/matchstone/PriceLevel;ZJLcom/example/matchstone/matchstone/PriceLevel;)Lcom/example/matchstone/matchstone/PriceLevel;"⟩ : MethodName) method_2_code 15 (some (.object "com/example/matchstone/matchstone/PriceLevel")) :: ws) ({ frames := 0, cells := 0, slots := 0, locals := 0 } : Room)) (fun a U => a = #[(.int pa), (.long xa), (.ref qa), (.int pb), (.long xb), (.ref qb), (.int pc), (.long xc), (.ref qc)] ∧ Z.Warmed39 U.vm ∧ U.heap = h0) (fun _ _ _ _ _ => True) (fun _ U o U' => ∃ v L, o = .returned v ∧ Q14 Z pa xa qa pb xb qb pc xc qc ba bb bc h0 n0 v U'.heap L ∧ FrameEnd U o U' L ({ frames := 0, cells := 0, slots := 0, locals := 0 } : Room).cells ({ frames := 0, cells := 0, slots := 0, locals := 0 } : Room).slots) := by
  refine MetFree.of_bodySF (plainFor_of_name pn_14) hisR ?_
  intro p e s m args below meth c s₁ Bd hml0 hP hK
  obtain ⟨rfl, hZ, hh⟩ := hP
  have hx := Bd.exec
  have hby := Bd.bytes
  have hml : c.maxLocals = 15 := hml0
  have hown : s.vm.findClass "com/example/matchstone/matchstone/LevelIndexBestPinLaw" = some m.cls := findClass_of_methodNamed Bd.named
  have hnm := (name_of_methodNamed Bd.named Bd.method).1
  have X0 : Stand p l e ({ frames := 0, cells := 0, slots := 0, locals := 0 } : Room) s m #[(.int pa), (.long xa), (.ref qa), (.int pb), (.long xb), (.ref qb), (.int pc), (.long xc), (.ref qc)] below meth c s₁ [] 0 0 := Stand.of_body Bd
  have e0 : s₁.heap = h0 := by rw [← hh, Bd.state]; rfl
  have N0 := Fr.nil n0
  show Go p e below s (Q14 Z pa xa qa pb xb qb pc xc qc ba bb bc h0 n0) ({ frames := 0, cells := 0, slots := 0, locals := 0 } : Room).cells ({ frames := 0, cells := 0, slots := 0, locals := 0 } : Room).slots (s₁.setTop (entryFrame m #[(.int pa), (.long xa), (.ref qa), (.int pb), (.long xb), (.ref qb), (.int pc), (.long xc), (.ref qc)] 15))
  rw [ef_14]
  show Go _ _ _ _ _ _ _ (s₁.setTop (mkF m 0 #[.val (.int pa), .val (.long xa), .second, .val (.ref qa), .val (.int pb), .val (.long xb), .second, .val (.ref qb), .val (.int pc), .val (.long xc), .second, .val (.ref qc), .unset, .unset, .unset] []))
  refine Go.step (fun t k => XS.aconstNull X0.here hx rfl (hb hby d14_0) (XS.astore X0.here hx rfl (hb hby d14_1) rfl rfl (l' := #[.val (.int pa), .val (.long xa), .second, .val (.ref qa), .val (.int pb), .val (.long xb), .second, .val (.ref qb), .val (.int pc), .val (.long xc), .second, .val (.ref qc), .val .null, .unset, .unset]) rfl (XS.lconst X0.here hx rfl (hb hby d14_3) (XS.lstore X0.here hx rfl (hb hby d14_4) rfl (l' := #[.val (.int pa), .val (.long xa), .second, .val (.ref qa), .val (.int pb), .val (.long xb), .second, .val (.ref qb), .val (.int pc), .val (.long xc), .second, .val (.ref qc), .val .null, .val (.long (0 : Int64)), .second]) rfl k)))) ?_
  show Go _ _ _ _ _ _ _ (s₁.setTop (mkF m 6 #[.val (.int pa), .val (.long xa), .second, .val (.ref qa), .val (.int pb), .val (.long xb), .second, .val (.ref qb), .val (.int pc), .val (.long xc), .second, .val (.ref qc), .val .null, .val (.long (0 : Int64)), .second] []))
  rcases hpa with ⟨rfl, rfl⟩ | ⟨rfl, rfl⟩
  · show Go _ _ _ _ _ _ _ (s₁.setTop (mkF m 6 #[.val (.int (0 : Int32)), .val (.long xa), .second, .val (.ref qa), .val (.int pb), .val (.long xb), .second, .val (.ref qb), .val (.int pc), .val (.long xc), .second, .val (.ref qc), .val .null, .val (.long (0 : Int64)), .second] []))
    refine Go.step (fun t k => XS.iloadN X0.here hx rfl (hb hby d14_6) rfl k) ?_
    show Go _ _ _ _ _ _ _ (s₁.setTop (mkF m 7 #[.val (.int (0 : Int32)), .val (.long xa), .second, .val (.ref qa), .val (.int pb), .val (.long xb), .second, .val (.ref qb), .val (.int pc), .val (.long xc), .second, .val (.ref qc), .val .null, .val (.long (0 : Int64)), .second] [(.int (0 : Int32))]))
    refine Go.step (fun t k => XS.ifYes X0.here hx rfl (pc0 := 7) (pc' := 16) rfl (hb hby d14_7) rfl ((if0 _ _).trans (teq (by decide : (0 : Int32) = (0 : Int32))).1) (by decide) (by decide) k) ?_
    show Go _ _ _ _ _ _ _ (s₁.setTop (mkF m 16 #[.val (.int (0 : Int32)), .val (.long xa), .second, .val (.ref qa), .val (.int pb), .val (.long xb), .second, .val (.ref qb), .val (.int pc), .val (.long xc), .second, .val (.ref qc), .val .null, .val (.long (0 : Int64)), .second] []))
    rcases hpb with ⟨rfl, rfl⟩ | ⟨rfl, rfl⟩
    · show Go _ _ _ _ _ _ _ (s₁.setTop (mkF m 16 #[.val (.int (0 : Int32)), .val (.long xa), .second, .val (.ref qa), .val (.int (0 : Int32)), .val (.long xb), .second, .val (.ref qb), .val (.int pc), .val (.long xc), .second, .val (.ref qc), .val .null, .val (.long (0 : Int64)), .second] []))
      refine Go.step (fun t k => XS.iload X0.here hx rfl (hb hby d14_16) rfl k) ?_
      show Go _ _ _ _ _ _ _ (s₁.setTop (mkF m 18 #[.val (.int (0 : Int32)), .val (.long xa), .second, .val (.ref qa), .val (.int (0 : Int32)), .val (.long xb), .second, .val (.ref qb), .val (.int pc), .val (.long xc), .second, .val (.ref qc), .val .null, .val (.long (0 : Int64)), .second] [(.int (0 : Int32))]))
      refine Go.step (fun t k => XS.ifYes X0.here hx rfl (pc0 := 18) (pc' := 42) rfl (hb hby d14_18) rfl ((if0 _ _).trans (teq (by decide : (0 : Int32) = (0 : Int32))).1) (by decide) (by decide) k) ?_
      show Go _ _ _ _ _ _ _ (s₁.setTop (mkF m 42 #[.val (.int (0 : Int32)), .val (.long xa), .second, .val (.ref qa), .val (.int (0 : Int32)), .val (.long xb), .second, .val (.ref qb), .val (.int pc), .val (.long xc), .second, .val (.ref qc), .val .null, .val (.long (0 : Int64)), .second] []))
      rcases hpc with ⟨rfl, rfl⟩ | ⟨rfl, rfl⟩
      · show Go _ _ _ _ _ _ _ (s₁.setTop (mkF m 42 #[.val (.int (0 : Int32)), .val (.long xa), .second, .val (.ref qa), .val (.int (0 : Int32)), .val (.long xb), .second, .val (.ref qb), .val (.int (0 : Int32)), .val (.long xc), .second, .val (.ref qc), .val .null, .val (.long (0 : Int64)), .second] []))
        refine Go.step (fun t k => XS.iload X0.here hx rfl (hb hby d14_42) rfl k) ?_
        show Go _ _ _ _ _ _ _ (s₁.setTop (mkF m 44 #[.val (.int (0 : Int32)), .val (.long xa), .second, .val (.ref qa), .val (.int (0 : Int32)), .val (.long xb), .second, .val (.ref qb), .val (.int (0 : Int32)), .val (.long xc), .second, .val (.ref qc), .val .null, .val (.long (0 : Int64)), .second] [(.int (0 : Int32))]))
        refine Go.step (fun t k => XS.ifYes X0.here hx rfl (pc0 := 44) (pc' := 68) rfl (hb hby d14_44) rfl ((if0 _ _).trans (teq (by decide : (0 : Int32) = (0 : Int32))).1) (by decide) (by decide) k) ?_
        show Go _ _ _ _ _ _ _ (s₁.setTop (mkF m 68 #[.val (.int (0 : Int32)), .val (.long xa), .second, .val (.ref qa), .val (.int (0 : Int32)), .val (.long xb), .second, .val (.ref qb), .val (.int (0 : Int32)), .val (.long xc), .second, .val (.ref qc), .val .null, .val (.long (0 : Int64)), .second] []))
        refine Go.step (fun t k => XS.aload X0.here hx rfl (hb hby d14_68) rfl rfl k) ?_
        show Go _ _ _ _ _ _ _ (s₁.setTop (mkF m 70 #[.val (.int (0 : Int32)), .val (.long xa), .second, .val (.ref qa), .val (.int (0 : Int32)), .val (.long xb), .second, .val (.ref qb), .val (.int (0 : Int32)), .val (.long xc), .second, .val (.ref qc), .val .null, .val (.long (0 : Int64)), .second] [.null]))
        refine Go.retA X0 Bd.notSynchronized hx Bd.returns rfl rfl rfl (hb hby d14_70) (by decide) (by decide) ?_
        rw [e0]
        exact ⟨.null, rfl, N0, rfl, rfl, (Or.inl ⟨rfl, rfl, rfl, rfl⟩)⟩
      · show Go _ _ _ _ _ _ _ (s₁.setTop (mkF m 42 #[.val (.int (0 : Int32)), .val (.long xa), .second, .val (.ref qa), .val (.int (0 : Int32)), .val (.long xb), .second, .val (.ref qb), .val (.int (1 : Int32)), .val (.long xc), .second, .val (.ref qc), .val .null, .val (.long (0 : Int64)), .second] []))
        refine Go.step (fun t k => XS.iload X0.here hx rfl (hb hby d14_42) rfl k) ?_
        show Go _ _ _ _ _ _ _ (s₁.setTop (mkF m 44 #[.val (.int (0 : Int32)), .val (.long xa), .second, .val (.ref qa), .val (.int (0 : Int32)), .val (.long xb), .second, .val (.ref qb), .val (.int (1 : Int32)), .val (.long xc), .second, .val (.ref qc), .val .null, .val (.long (0 : Int64)), .second] [(.int (1 : Int32))]))
        refine Go.step (fun t k => XS.ifNo X0.here hx rfl (hb hby d14_44) rfl ((if0 _ _).trans (feq (by decide : ¬ (1 : Int32) = (0 : Int32))).1) k) ?_
        show Go _ _ _ _ _ _ _ (s₁.setTop (mkF m 47 #[.val (.int (0 : Int32)), .val (.long xa), .second, .val (.ref qa), .val (.int (0 : Int32)), .val (.long xb), .second, .val (.ref qb), .val (.int (1 : Int32)), .val (.long xc), .second, .val (.ref qc), .val .null, .val (.long (0 : Int64)), .second] []))
        refine Go.step (fun t k => XS.aload X0.here hx rfl (hb hby d14_47) rfl rfl k) ?_
        show Go _ _ _ _ _ _ _ (s₁.setTop (mkF m 49 #[.val (.int (0 : Int32)), .val (.long xa), .second, .val (.ref qa), .val (.int (0 : Int32)), .val (.long xb), .second, .val (.ref qb), .val (.int (1 : Int32)), .val (.long xc), .second, .val (.ref qc), .val .null, .val (.long (0 : Int64)), .second] [.null]))
        refine Go.step (fun t k => XS.ifnullYes X0.here hx rfl (pc0 := 49) (pc' := 60) rfl (hb hby d14_49) rfl (by decide) (by decide) k) ?_
        show Go _ _ _ _ _ _ _ (s₁.setTop (mkF m 60 #[.val (.int (0 : Int32)), .val (.long xa), .second, .val (.ref qa), .val (.int (0 : Int32)), .val (.long xb), .second, .val (.ref qb), .val (.int (1 : Int32)), .val (.long xc), .second, .val (.ref qc), .val .null, .val (.long (0 : Int64)), .second] []))
        refine Go.step (fun t k => XS.aload X0.here hx rfl (hb hby d14_60) rfl rfl (XS.astore X0.here hx rfl (hb hby d14_62) rfl rfl (l' := #[.val (.int (0 : Int32)), .val (.long xa), .second, .val (.ref qa), .val (.int (0 : Int32)), .val (.long xb), .second, .val (.ref qb), .val (.int (1 : Int32)), .val (.long xc), .second, .val (.ref qc), .val (.ref qc), .val (.long (0 : Int64)), .second]) rfl (XS.lload X0.here hx rfl (hb hby d14_64) rfl (XS.lstore X0.here hx rfl (hb hby d14_66) rfl (l' := #[.val (.int (0 : Int32)), .val (.long xa), .second, .val (.ref qa), .val (.int (0 : Int32)), .val (.long xb), .second, .val (.ref qb), .val (.int (1 : Int32)), .val (.long xc), .second, .val (.ref qc), .val (.ref qc), .val (.long xc), .second]) rfl (XS.aload X0.here hx rfl (hb hby d14_68) rfl rfl k))))) ?_
        show Go _ _ _ _ _ _ _ (s₁.setTop (mkF m 70 #[.val (.int (0 : Int32)), .val (.long xa), .second, .val (.ref qa), .val (.int (0 : Int32)), .val (.long xb), .second, .val (.ref qb), .val (.int (1 : Int32)), .val (.long xc), .second, .val (.ref qc), .val (.ref qc), .val (.long xc), .second] [(.ref qc)]))
        refine Go.retA X0 Bd.notSynchronized hx Bd.returns rfl rfl rfl (hb hby d14_70) (by decide) (by decide) ?_
        rw [e0]
        exact ⟨(.ref qc), rfl, N0, rfl, rfl, (Or.inr (own_GP (km := xc) (Or.inr (Or.inr ⟨rfl, rfl, rfl⟩)) (fun q => absurd q (by decide)) (fun q => absurd q (by decide)) (fun _ => by omega)))⟩
    · show Go _ _ _ _ _ _ _ (s₁.setTop (mkF m 16 #[.val (.int (0 : Int32)), .val (.long xa), .second, .val (.ref qa), .val (.int (1 : Int32)), .val (.long xb), .second, .val (.ref qb), .val (.int pc), .val (.long xc), .second, .val (.ref qc), .val .null, .val (.long (0 : Int64)), .second] []))
      refine Go.step (fun t k => XS.iload X0.here hx rfl (hb hby d14_16) rfl k) ?_
      show Go _ _ _ _ _ _ _ (s₁.setTop (mkF m 18 #[.val (.int (0 : Int32)), .val (.long xa), .second, .val (.ref qa), .val (.int (1 : Int32)), .val (.long xb), .second, .val (.ref qb), .val (.int pc), .val (.long xc), .second, .val (.ref qc), .val .null, .val (.long (0 : Int64)), .second] [(.int (1 : Int32))]))
      refine Go.step (fun t k => XS.ifNo X0.here hx rfl (hb hby d14_18) rfl ((if0 _ _).trans (feq (by decide : ¬ (1 : Int32) = (0 : Int32))).1) k) ?_
      show Go _ _ _ _ _ _ _ (s₁.setTop (mkF m 21 #[.val (.int (0 : Int32)), .val (.long xa), .second, .val (.ref qa), .val (.int (1 : Int32)), .val (.long xb), .second, .val (.ref qb), .val (.int pc), .val (.long xc), .second, .val (.ref qc), .val .null, .val (.long (0 : Int64)), .second] []))
      refine Go.step (fun t k => XS.aload X0.here hx rfl (hb hby d14_21) rfl rfl k) ?_
      show Go _ _ _ _ _ _ _ (s₁.setTop (mkF m 23 #[.val (.int (0 : Int32)), .val (.long xa), .second, .val (.ref qa), .val (.int (1 : Int32)), .val (.long xb), .second, .val (.ref qb), .val (.int pc), .val (.long xc), .second, .val (.ref qc), .val .null, .val (.long (0 : Int64)), .second] [.null]))
      refine Go.step (fun t k => XS.ifnullYes X0.here hx rfl (pc0 := 23) (pc' := 34) rfl (hb hby d14_23) rfl (by decide) (by decide) k) ?_
      show Go _ _ _ _ _ _ _ (s₁.setTop (mkF m 34 #[.val (.int (0 : Int32)), .val (.long xa), .second, .val (.ref qa), .val (.int (1 : Int32)), .val (.long xb), .second, .val (.ref qb), .val (.int pc), .val (.long xc), .second, .val (.ref qc), .val .null, .val (.long (0 : Int64)), .second] []))
      refine Go.step (fun t k => XS.aload X0.here hx rfl (hb hby d14_34) rfl rfl (XS.astore X0.here hx rfl (hb hby d14_36) rfl rfl (l' := #[.val (.int (0 : Int32)), .val (.long xa), .second, .val (.ref qa), .val (.int (1 : Int32)), .val (.long xb), .second, .val (.ref qb), .val (.int pc), .val (.long xc), .second, .val (.ref qc), .val (.ref qb), .val (.long (0 : Int64)), .second]) rfl (XS.lload X0.here hx rfl (hb hby d14_38) rfl (XS.lstore X0.here hx rfl (hb hby d14_40) rfl (l' := #[.val (.int (0 : Int32)), .val (.long xa), .second, .val (.ref qa), .val (.int (1 : Int32)), .val (.long xb), .second, .val (.ref qb), .val (.int pc), .val (.long xc), .second, .val (.ref qc), .val (.ref qb), .val (.long xb), .second]) rfl k)))) ?_
      show Go _ _ _ _ _ _ _ (s₁.setTop (mkF m 42 #[.val (.int (0 : Int32)), .val (.long xa), .second, .val (.ref qa), .val (.int (1 : Int32)), .val (.long xb), .second, .val (.ref qb), .val (.int pc), .val (.long xc), .second, .val (.ref qc), .val (.ref qb), .val (.long xb), .second] []))
      rcases hpc with ⟨rfl, rfl⟩ | ⟨rfl, rfl⟩
      · show Go _ _ _ _ _ _ _ (s₁.setTop (mkF m 42 #[.val (.int (0 : Int32)), .val (.long xa), .second, .val (.ref qa), .val (.int (1 : Int32)), .val (.long xb), .second, .val (.ref qb), .val (.int (0 : Int32)), .val (.long xc), .second, .val (.ref qc), .val (.ref qb), .val (.long xb), .second] []))
        refine Go.step (fun t k => XS.iload X0.here hx rfl (hb hby d14_42) rfl k) ?_
        show Go _ _ _ _ _ _ _ (s₁.setTop (mkF m 44 #[.val (.int (0 : Int32)), .val (.long xa), .second, .val (.ref qa), .val (.int (1 : Int32)), .val (.long xb), .second, .val (.ref qb), .val (.int (0 : Int32)), .val (.long xc), .second, .val (.ref qc), .val (.ref qb), .val (.long xb), .second] [(.int (0 : Int32))]))
        refine Go.step (fun t k => XS.ifYes X0.here hx rfl (pc0 := 44) (pc' := 68) rfl (hb hby d14_44) rfl ((if0 _ _).trans (teq (by decide : (0 : Int32) = (0 : Int32))).1) (by decide) (by decide) k) ?_
        show Go _ _ _ _ _ _ _ (s₁.setTop (mkF m 68 #[.val (.int (0 : Int32)), .val (.long xa), .second, .val (.ref qa), .val (.int (1 : Int32)), .val (.long xb), .second, .val (.ref qb), .val (.int (0 : Int32)), .val (.long xc), .second, .val (.ref qc), .val (.ref qb), .val (.long xb), .second] []))
        refine Go.step (fun t k => XS.aload X0.here hx rfl (hb hby d14_68) rfl rfl k) ?_
        show Go _ _ _ _ _ _ _ (s₁.setTop (mkF m 70 #[.val (.int (0 : Int32)), .val (.long xa), .second, .val (.ref qa), .val (.int (1 : Int32)), .val (.long xb), .second, .val (.ref qb), .val (.int (0 : Int32)), .val (.long xc), .second, .val (.ref qc), .val (.ref qb), .val (.long xb), .second] [(.ref qb)]))
        refine Go.retA X0 Bd.notSynchronized hx Bd.returns rfl rfl rfl (hb hby d14_70) (by decide) (by decide) ?_
        rw [e0]
        exact ⟨(.ref qb), rfl, N0, rfl, rfl, (Or.inr (own_GP (km := xb) (Or.inr (Or.inl ⟨rfl, rfl, rfl⟩)) (fun q => absurd q (by decide)) (fun _ => by omega) (fun q => absurd q (by decide))))⟩
      · show Go _ _ _ _ _ _ _ (s₁.setTop (mkF m 42 #[.val (.int (0 : Int32)), .val (.long xa), .second, .val (.ref qa), .val (.int (1 : Int32)), .val (.long xb), .second, .val (.ref qb), .val (.int (1 : Int32)), .val (.long xc), .second, .val (.ref qc), .val (.ref qb), .val (.long xb), .second] []))
        refine Go.step (fun t k => XS.iload X0.here hx rfl (hb hby d14_42) rfl k) ?_
        show Go _ _ _ _ _ _ _ (s₁.setTop (mkF m 44 #[.val (.int (0 : Int32)), .val (.long xa), .second, .val (.ref qa), .val (.int (1 : Int32)), .val (.long xb), .second, .val (.ref qb), .val (.int (1 : Int32)), .val (.long xc), .second, .val (.ref qc), .val (.ref qb), .val (.long xb), .second] [(.int (1 : Int32))]))
        refine Go.step (fun t k => XS.ifNo X0.here hx rfl (hb hby d14_44) rfl ((if0 _ _).trans (feq (by decide : ¬ (1 : Int32) = (0 : Int32))).1) k) ?_
        show Go _ _ _ _ _ _ _ (s₁.setTop (mkF m 47 #[.val (.int (0 : Int32)), .val (.long xa), .second, .val (.ref qa), .val (.int (1 : Int32)), .val (.long xb), .second, .val (.ref qb), .val (.int (1 : Int32)), .val (.long xc), .second, .val (.ref qc), .val (.ref qb), .val (.long xb), .second] []))
        refine Go.step (fun t k => XS.aload X0.here hx rfl (hb hby d14_47) rfl rfl k) ?_
        show Go _ _ _ _ _ _ _ (s₁.setTop (mkF m 49 #[.val (.int (0 : Int32)), .val (.long xa), .second, .val (.ref qa), .val (.int (1 : Int32)), .val (.long xb), .second, .val (.ref qb), .val (.int (1 : Int32)), .val (.long xc), .second, .val (.ref qc), .val (.ref qb), .val (.long xb), .second] [(.ref qb)]))
        refine Go.step (fun t k => XS.ifnullNo X0.here hx rfl (hb hby d14_49) rfl k) ?_
        show Go _ _ _ _ _ _ _ (s₁.setTop (mkF m 52 #[.val (.int (0 : Int32)), .val (.long xa), .second, .val (.ref qa), .val (.int (1 : Int32)), .val (.long xb), .second, .val (.ref qb), .val (.int (1 : Int32)), .val (.long xc), .second, .val (.ref qc), .val (.ref qb), .val (.long xb), .second] []))
        refine Go.step (fun t k => XS.lload X0.here hx rfl (hb hby d14_52) rfl (XS.lload X0.here hx rfl (hb hby d14_54) rfl (XS.lcmp X0.here hx rfl (hb hby d14_56) rfl k))) ?_
        show Go _ _ _ _ _ _ _ (s₁.setTop (mkF m 57 #[.val (.int (0 : Int32)), .val (.long xa), .second, .val (.ref qa), .val (.int (1 : Int32)), .val (.long xb), .second, .val (.ref qb), .val (.int (1 : Int32)), .val (.long xc), .second, .val (.ref qc), .val (.ref qb), .val (.long xb), .second] [(.int (lcmpW xc xb))]))
        by_cases hc57_1 : xb < xc
        · refine Go.step (fun t k => XS.ifNo X0.here hx rfl (hb hby d14_57) rfl ((if0 _ _).trans (tlt (own_lwgt hc57_1)).2.2.2) k) ?_
          show Go _ _ _ _ _ _ _ (s₁.setTop (mkF m 60 #[.val (.int (0 : Int32)), .val (.long xa), .second, .val (.ref qa), .val (.int (1 : Int32)), .val (.long xb), .second, .val (.ref qb), .val (.int (1 : Int32)), .val (.long xc), .second, .val (.ref qc), .val (.ref qb), .val (.long xb), .second] []))
          refine Go.step (fun t k => XS.aload X0.here hx rfl (hb hby d14_60) rfl rfl (XS.astore X0.here hx rfl (hb hby d14_62) rfl rfl (l' := #[.val (.int (0 : Int32)), .val (.long xa), .second, .val (.ref qa), .val (.int (1 : Int32)), .val (.long xb), .second, .val (.ref qb), .val (.int (1 : Int32)), .val (.long xc), .second, .val (.ref qc), .val (.ref qc), .val (.long xb), .second]) rfl (XS.lload X0.here hx rfl (hb hby d14_64) rfl (XS.lstore X0.here hx rfl (hb hby d14_66) rfl (l' := #[.val (.int (0 : Int32)), .val (.long xa), .second, .val (.ref qa), .val (.int (1 : Int32)), .val (.long xb), .second, .val (.ref qb), .val (.int (1 : Int32)), .val (.long xc), .second, .val (.ref qc), .val (.ref qc), .val (.long xc), .second]) rfl (XS.aload X0.here hx rfl (hb hby d14_68) rfl rfl k))))) ?_
          show Go _ _ _ _ _ _ _ (s₁.setTop (mkF m 70 #[.val (.int (0 : Int32)), .val (.long xa), .second, .val (.ref qa), .val (.int (1 : Int32)), .val (.long xb), .second, .val (.ref qb), .val (.int (1 : Int32)), .val (.long xc), .second, .val (.ref qc), .val (.ref qc), .val (.long xc), .second] [(.ref qc)]))
          refine Go.retA X0 Bd.notSynchronized hx Bd.returns rfl rfl rfl (hb hby d14_70) (by decide) (by decide) ?_
          rw [e0]
          have ihc57_1 := own_ltL hc57_1
          exact ⟨(.ref qc), rfl, N0, rfl, rfl, (Or.inr (own_GP (km := xc) (Or.inr (Or.inr ⟨rfl, rfl, rfl⟩)) (fun q => absurd q (by decide)) (fun _ => by omega) (fun _ => by omega)))⟩
        · refine Go.step (fun t k => XS.ifYes X0.here hx rfl (pc0 := 57) (pc' := 68) rfl (hb hby d14_57) rfl ((if0 _ _).trans (flt (own_nlwgt hc57_1)).2.2.2) (by decide) (by decide) k) ?_
          show Go _ _ _ _ _ _ _ (s₁.setTop (mkF m 68 #[.val (.int (0 : Int32)), .val (.long xa), .second, .val (.ref qa), .val (.int (1 : Int32)), .val (.long xb), .second, .val (.ref qb), .val (.int (1 : Int32)), .val (.long xc), .second, .val (.ref qc), .val (.ref qb), .val (.long xb), .second] []))
          refine Go.step (fun t k => XS.aload X0.here hx rfl (hb hby d14_68) rfl rfl k) ?_
          show Go _ _ _ _ _ _ _ (s₁.setTop (mkF m 70 #[.val (.int (0 : Int32)), .val (.long xa), .second, .val (.ref qa), .val (.int (1 : Int32)), .val (.long xb), .second, .val (.ref qb), .val (.int (1 : Int32)), .val (.long xc), .second, .val (.ref qc), .val (.ref qb), .val (.long xb), .second] [(.ref qb)]))
          refine Go.retA X0 Bd.notSynchronized hx Bd.returns rfl rfl rfl (hb hby d14_70) (by decide) (by decide) ?_
          rw [e0]
          have ihc57_1 := own_nltL hc57_1
          exact ⟨(.ref qb), rfl, N0, rfl, rfl, (Or.inr (own_GP (km := xb) (Or.inr (Or.inl ⟨rfl, rfl, rfl⟩)) (fun q => absurd q (by decide)) (fun _ => by omega) (fun _ => by omega)))⟩
  · show Go _ _ _ _ _ _ _ (s₁.setTop (mkF m 6 #[.val (.int (1 : Int32)), .val (.long xa), .second, .val (.ref qa), .val (.int pb), .val (.long xb), .second, .val (.ref qb), .val (.int pc), .val (.long xc), .second, .val (.ref qc), .val .null, .val (.long (0 : Int64)), .second] []))
    refine Go.step (fun t k => XS.iloadN X0.here hx rfl (hb hby d14_6) rfl k) ?_
    show Go _ _ _ _ _ _ _ (s₁.setTop (mkF m 7 #[.val (.int (1 : Int32)), .val (.long xa), .second, .val (.ref qa), .val (.int pb), .val (.long xb), .second, .val (.ref qb), .val (.int pc), .val (.long xc), .second, .val (.ref qc), .val .null, .val (.long (0 : Int64)), .second] [(.int (1 : Int32))]))
    refine Go.step (fun t k => XS.ifNo X0.here hx rfl (hb hby d14_7) rfl ((if0 _ _).trans (feq (by decide : ¬ (1 : Int32) = (0 : Int32))).1) k) ?_
    show Go _ _ _ _ _ _ _ (s₁.setTop (mkF m 10 #[.val (.int (1 : Int32)), .val (.long xa), .second, .val (.ref qa), .val (.int pb), .val (.long xb), .second, .val (.ref qb), .val (.int pc), .val (.long xc), .second, .val (.ref qc), .val .null, .val (.long (0 : Int64)), .second] []))
    refine Go.step (fun t k => XS.aloadN X0.here hx rfl (hb hby d14_10) rfl rfl (XS.astore X0.here hx rfl (hb hby d14_11) rfl rfl (l' := #[.val (.int (1 : Int32)), .val (.long xa), .second, .val (.ref qa), .val (.int pb), .val (.long xb), .second, .val (.ref qb), .val (.int pc), .val (.long xc), .second, .val (.ref qc), .val (.ref qa), .val (.long (0 : Int64)), .second]) rfl (XS.lloadN X0.here hx rfl (hb hby d14_13) rfl (XS.lstore X0.here hx rfl (hb hby d14_14) rfl (l' := #[.val (.int (1 : Int32)), .val (.long xa), .second, .val (.ref qa), .val (.int pb), .val (.long xb), .second, .val (.ref qb), .val (.int pc), .val (.long xc), .second, .val (.ref qc), .val (.ref qa), .val (.long xa), .second]) rfl k)))) ?_
    show Go _ _ _ _ _ _ _ (s₁.setTop (mkF m 16 #[.val (.int (1 : Int32)), .val (.long xa), .second, .val (.ref qa), .val (.int pb), .val (.long xb), .second, .val (.ref qb), .val (.int pc), .val (.long xc), .second, .val (.ref qc), .val (.ref qa), .val (.long xa), .second] []))
    rcases hpb with ⟨rfl, rfl⟩ | ⟨rfl, rfl⟩
    · show Go _ _ _ _ _ _ _ (s₁.setTop (mkF m 16 #[.val (.int (1 : Int32)), .val (.long xa), .second, .val (.ref qa), .val (.int (0 : Int32)), .val (.long xb), .second, .val (.ref qb), .val (.int pc), .val (.long xc), .second, .val (.ref qc), .val (.ref qa), .val (.long xa), .second] []))
      refine Go.step (fun t k => XS.iload X0.here hx rfl (hb hby d14_16) rfl k) ?_
      show Go _ _ _ _ _ _ _ (s₁.setTop (mkF m 18 #[.val (.int (1 : Int32)), .val (.long xa), .second, .val (.ref qa), .val (.int (0 : Int32)), .val (.long xb), .second, .val (.ref qb), .val (.int pc), .val (.long xc), .second, .val (.ref qc), .val (.ref qa), .val (.long xa), .second] [(.int (0 : Int32))]))
      refine Go.step (fun t k => XS.ifYes X0.here hx rfl (pc0 := 18) (pc' := 42) rfl (hb hby d14_18) rfl ((if0 _ _).trans (teq (by decide : (0 : Int32) = (0 : Int32))).1) (by decide) (by decide) k) ?_
      show Go _ _ _ _ _ _ _ (s₁.setTop (mkF m 42 #[.val (.int (1 : Int32)), .val (.long xa), .second, .val (.ref qa), .val (.int (0 : Int32)), .val (.long xb), .second, .val (.ref qb), .val (.int pc), .val (.long xc), .second, .val (.ref qc), .val (.ref qa), .val (.long xa), .second] []))
      rcases hpc with ⟨rfl, rfl⟩ | ⟨rfl, rfl⟩
      · show Go _ _ _ _ _ _ _ (s₁.setTop (mkF m 42 #[.val (.int (1 : Int32)), .val (.long xa), .second, .val (.ref qa), .val (.int (0 : Int32)), .val (.long xb), .second, .val (.ref qb), .val (.int (0 : Int32)), .val (.long xc), .second, .val (.ref qc), .val (.ref qa), .val (.long xa), .second] []))
        refine Go.step (fun t k => XS.iload X0.here hx rfl (hb hby d14_42) rfl k) ?_
        show Go _ _ _ _ _ _ _ (s₁.setTop (mkF m 44 #[.val (.int (1 : Int32)), .val (.long xa), .second, .val (.ref qa), .val (.int (0 : Int32)), .val (.long xb), .second, .val (.ref qb), .val (.int (0 : Int32)), .val (.long xc), .second, .val (.ref qc), .val (.ref qa), .val (.long xa), .second] [(.int (0 : Int32))]))
        refine Go.step (fun t k => XS.ifYes X0.here hx rfl (pc0 := 44) (pc' := 68) rfl (hb hby d14_44) rfl ((if0 _ _).trans (teq (by decide : (0 : Int32) = (0 : Int32))).1) (by decide) (by decide) k) ?_
        show Go _ _ _ _ _ _ _ (s₁.setTop (mkF m 68 #[.val (.int (1 : Int32)), .val (.long xa), .second, .val (.ref qa), .val (.int (0 : Int32)), .val (.long xb), .second, .val (.ref qb), .val (.int (0 : Int32)), .val (.long xc), .second, .val (.ref qc), .val (.ref qa), .val (.long xa), .second] []))
        refine Go.step (fun t k => XS.aload X0.here hx rfl (hb hby d14_68) rfl rfl k) ?_
        show Go _ _ _ _ _ _ _ (s₁.setTop (mkF m 70 #[.val (.int (1 : Int32)), .val (.long xa), .second, .val (.ref qa), .val (.int (0 : Int32)), .val (.long xb), .second, .val (.ref qb), .val (.int (0 : Int32)), .val (.long xc), .second, .val (.ref qc), .val (.ref qa), .val (.long xa), .second] [(.ref qa)]))
        refine Go.retA X0 Bd.notSynchronized hx Bd.returns rfl rfl rfl (hb hby d14_70) (by decide) (by decide) ?_
        rw [e0]
        exact ⟨(.ref qa), rfl, N0, rfl, rfl, (Or.inr (own_GP (km := xa) (Or.inl ⟨rfl, rfl, rfl⟩) (fun _ => by omega) (fun q => absurd q (by decide)) (fun q => absurd q (by decide))))⟩
      · show Go _ _ _ _ _ _ _ (s₁.setTop (mkF m 42 #[.val (.int (1 : Int32)), .val (.long xa), .second, .val (.ref qa), .val (.int (0 : Int32)), .val (.long xb), .second, .val (.ref qb), .val (.int (1 : Int32)), .val (.long xc), .second, .val (.ref qc), .val (.ref qa), .val (.long xa), .second] []))
        refine Go.step (fun t k => XS.iload X0.here hx rfl (hb hby d14_42) rfl k) ?_
        show Go _ _ _ _ _ _ _ (s₁.setTop (mkF m 44 #[.val (.int (1 : Int32)), .val (.long xa), .second, .val (.ref qa), .val (.int (0 : Int32)), .val (.long xb), .second, .val (.ref qb), .val (.int (1 : Int32)), .val (.long xc), .second, .val (.ref qc), .val (.ref qa), .val (.long xa), .second] [(.int (1 : Int32))]))
        refine Go.step (fun t k => XS.ifNo X0.here hx rfl (hb hby d14_44) rfl ((if0 _ _).trans (feq (by decide : ¬ (1 : Int32) = (0 : Int32))).1) k) ?_
        show Go _ _ _ _ _ _ _ (s₁.setTop (mkF m 47 #[.val (.int (1 : Int32)), .val (.long xa), .second, .val (.ref qa), .val (.int (0 : Int32)), .val (.long xb), .second, .val (.ref qb), .val (.int (1 : Int32)), .val (.long xc), .second, .val (.ref qc), .val (.ref qa), .val (.long xa), .second] []))
        refine Go.step (fun t k => XS.aload X0.here hx rfl (hb hby d14_47) rfl rfl k) ?_
        show Go _ _ _ _ _ _ _ (s₁.setTop (mkF m 49 #[.val (.int (1 : Int32)), .val (.long xa), .second, .val (.ref qa), .val (.int (0 : Int32)), .val (.long xb), .second, .val (.ref qb), .val (.int (1 : Int32)), .val (.long xc), .second, .val (.ref qc), .val (.ref qa), .val (.long xa), .second] [(.ref qa)]))
        refine Go.step (fun t k => XS.ifnullNo X0.here hx rfl (hb hby d14_49) rfl k) ?_
        show Go _ _ _ _ _ _ _ (s₁.setTop (mkF m 52 #[.val (.int (1 : Int32)), .val (.long xa), .second, .val (.ref qa), .val (.int (0 : Int32)), .val (.long xb), .second, .val (.ref qb), .val (.int (1 : Int32)), .val (.long xc), .second, .val (.ref qc), .val (.ref qa), .val (.long xa), .second] []))
        refine Go.step (fun t k => XS.lload X0.here hx rfl (hb hby d14_52) rfl (XS.lload X0.here hx rfl (hb hby d14_54) rfl (XS.lcmp X0.here hx rfl (hb hby d14_56) rfl k))) ?_
        show Go _ _ _ _ _ _ _ (s₁.setTop (mkF m 57 #[.val (.int (1 : Int32)), .val (.long xa), .second, .val (.ref qa), .val (.int (0 : Int32)), .val (.long xb), .second, .val (.ref qb), .val (.int (1 : Int32)), .val (.long xc), .second, .val (.ref qc), .val (.ref qa), .val (.long xa), .second] [(.int (lcmpW xc xa))]))
        by_cases hc57_2 : xa < xc
        · refine Go.step (fun t k => XS.ifNo X0.here hx rfl (hb hby d14_57) rfl ((if0 _ _).trans (tlt (own_lwgt hc57_2)).2.2.2) k) ?_
          show Go _ _ _ _ _ _ _ (s₁.setTop (mkF m 60 #[.val (.int (1 : Int32)), .val (.long xa), .second, .val (.ref qa), .val (.int (0 : Int32)), .val (.long xb), .second, .val (.ref qb), .val (.int (1 : Int32)), .val (.long xc), .second, .val (.ref qc), .val (.ref qa), .val (.long xa), .second] []))
          refine Go.step (fun t k => XS.aload X0.here hx rfl (hb hby d14_60) rfl rfl (XS.astore X0.here hx rfl (hb hby d14_62) rfl rfl (l' := #[.val (.int (1 : Int32)), .val (.long xa), .second, .val (.ref qa), .val (.int (0 : Int32)), .val (.long xb), .second, .val (.ref qb), .val (.int (1 : Int32)), .val (.long xc), .second, .val (.ref qc), .val (.ref qc), .val (.long xa), .second]) rfl (XS.lload X0.here hx rfl (hb hby d14_64) rfl (XS.lstore X0.here hx rfl (hb hby d14_66) rfl (l' := #[.val (.int (1 : Int32)), .val (.long xa), .second, .val (.ref qa), .val (.int (0 : Int32)), .val (.long xb), .second, .val (.ref qb), .val (.int (1 : Int32)), .val (.long xc), .second, .val (.ref qc), .val (.ref qc), .val (.long xc), .second]) rfl (XS.aload X0.here hx rfl (hb hby d14_68) rfl rfl k))))) ?_
          show Go _ _ _ _ _ _ _ (s₁.setTop (mkF m 70 #[.val (.int (1 : Int32)), .val (.long xa), .second, .val (.ref qa), .val (.int (0 : Int32)), .val (.long xb), .second, .val (.ref qb), .val (.int (1 : Int32)), .val (.long xc), .second, .val (.ref qc), .val (.ref qc), .val (.long xc), .second] [(.ref qc)]))
          refine Go.retA X0 Bd.notSynchronized hx Bd.returns rfl rfl rfl (hb hby d14_70) (by decide) (by decide) ?_
          rw [e0]
          have ihc57_2 := own_ltL hc57_2
          exact ⟨(.ref qc), rfl, N0, rfl, rfl, (Or.inr (own_GP (km := xc) (Or.inr (Or.inr ⟨rfl, rfl, rfl⟩)) (fun _ => by omega) (fun q => absurd q (by decide)) (fun _ => by omega)))⟩
        · refine Go.step (fun t k => XS.ifYes X0.here hx rfl (pc0 := 57) (pc' := 68) rfl (hb hby d14_57) rfl ((if0 _ _).trans (flt (own_nlwgt hc57_2)).2.2.2) (by decide) (by decide) k) ?_
          show Go _ _ _ _ _ _ _ (s₁.setTop (mkF m 68 #[.val (.int (1 : Int32)), .val (.long xa), .second, .val (.ref qa), .val (.int (0 : Int32)), .val (.long xb), .second, .val (.ref qb), .val (.int (1 : Int32)), .val (.long xc), .second, .val (.ref qc), .val (.ref qa), .val (.long xa), .second] []))
          refine Go.step (fun t k => XS.aload X0.here hx rfl (hb hby d14_68) rfl rfl k) ?_
          show Go _ _ _ _ _ _ _ (s₁.setTop (mkF m 70 #[.val (.int (1 : Int32)), .val (.long xa), .second, .val (.ref qa), .val (.int (0 : Int32)), .val (.long xb), .second, .val (.ref qb), .val (.int (1 : Int32)), .val (.long xc), .second, .val (.ref qc), .val (.ref qa), .val (.long xa), .second] [(.ref qa)]))
          refine Go.retA X0 Bd.notSynchronized hx Bd.returns rfl rfl rfl (hb hby d14_70) (by decide) (by decide) ?_
          rw [e0]
          have ihc57_2 := own_nltL hc57_2
          exact ⟨(.ref qa), rfl, N0, rfl, rfl, (Or.inr (own_GP (km := xa) (Or.inl ⟨rfl, rfl, rfl⟩) (fun _ => by omega) (fun q => absurd q (by decide)) (fun _ => by omega)))⟩
    · show Go _ _ _ _ _ _ _ (s₁.setTop (mkF m 16 #[.val (.int (1 : Int32)), .val (.long xa), .second, .val (.ref qa), .val (.int (1 : Int32)), .val (.long xb), .second, .val (.ref qb), .val (.int pc), .val (.long xc), .second, .val (.ref qc), .val (.ref qa), .val (.long xa), .second] []))
      refine Go.step (fun t k => XS.iload X0.here hx rfl (hb hby d14_16) rfl k) ?_
      show Go _ _ _ _ _ _ _ (s₁.setTop (mkF m 18 #[.val (.int (1 : Int32)), .val (.long xa), .second, .val (.ref qa), .val (.int (1 : Int32)), .val (.long xb), .second, .val (.ref qb), .val (.int pc), .val (.long xc), .second, .val (.ref qc), .val (.ref qa), .val (.long xa), .second] [(.int (1 : Int32))]))
      refine Go.step (fun t k => XS.ifNo X0.here hx rfl (hb hby d14_18) rfl ((if0 _ _).trans (feq (by decide : ¬ (1 : Int32) = (0 : Int32))).1) k) ?_
      show Go _ _ _ _ _ _ _ (s₁.setTop (mkF m 21 #[.val (.int (1 : Int32)), .val (.long xa), .second, .val (.ref qa), .val (.int (1 : Int32)), .val (.long xb), .second, .val (.ref qb), .val (.int pc), .val (.long xc), .second, .val (.ref qc), .val (.ref qa), .val (.long xa), .second] []))
      refine Go.step (fun t k => XS.aload X0.here hx rfl (hb hby d14_21) rfl rfl k) ?_
      show Go _ _ _ _ _ _ _ (s₁.setTop (mkF m 23 #[.val (.int (1 : Int32)), .val (.long xa), .second, .val (.ref qa), .val (.int (1 : Int32)), .val (.long xb), .second, .val (.ref qb), .val (.int pc), .val (.long xc), .second, .val (.ref qc), .val (.ref qa), .val (.long xa), .second] [(.ref qa)]))
      refine Go.step (fun t k => XS.ifnullNo X0.here hx rfl (hb hby d14_23) rfl k) ?_
      show Go _ _ _ _ _ _ _ (s₁.setTop (mkF m 26 #[.val (.int (1 : Int32)), .val (.long xa), .second, .val (.ref qa), .val (.int (1 : Int32)), .val (.long xb), .second, .val (.ref qb), .val (.int pc), .val (.long xc), .second, .val (.ref qc), .val (.ref qa), .val (.long xa), .second] []))
      refine Go.step (fun t k => XS.lload X0.here hx rfl (hb hby d14_26) rfl (XS.lload X0.here hx rfl (hb hby d14_28) rfl (XS.lcmp X0.here hx rfl (hb hby d14_30) rfl k))) ?_
      show Go _ _ _ _ _ _ _ (s₁.setTop (mkF m 31 #[.val (.int (1 : Int32)), .val (.long xa), .second, .val (.ref qa), .val (.int (1 : Int32)), .val (.long xb), .second, .val (.ref qb), .val (.int pc), .val (.long xc), .second, .val (.ref qc), .val (.ref qa), .val (.long xa), .second] [(.int (lcmpW xb xa))]))
      by_cases hc31_3 : xa < xb
      · refine Go.step (fun t k => XS.ifNo X0.here hx rfl (hb hby d14_31) rfl ((if0 _ _).trans (tlt (own_lwgt hc31_3)).2.2.2) k) ?_
        show Go _ _ _ _ _ _ _ (s₁.setTop (mkF m 34 #[.val (.int (1 : Int32)), .val (.long xa), .second, .val (.ref qa), .val (.int (1 : Int32)), .val (.long xb), .second, .val (.ref qb), .val (.int pc), .val (.long xc), .second, .val (.ref qc), .val (.ref qa), .val (.long xa), .second] []))
        refine Go.step (fun t k => XS.aload X0.here hx rfl (hb hby d14_34) rfl rfl (XS.astore X0.here hx rfl (hb hby d14_36) rfl rfl (l' := #[.val (.int (1 : Int32)), .val (.long xa), .second, .val (.ref qa), .val (.int (1 : Int32)), .val (.long xb), .second, .val (.ref qb), .val (.int pc), .val (.long xc), .second, .val (.ref qc), .val (.ref qb), .val (.long xa), .second]) rfl (XS.lload X0.here hx rfl (hb hby d14_38) rfl (XS.lstore X0.here hx rfl (hb hby d14_40) rfl (l' := #[.val (.int (1 : Int32)), .val (.long xa), .second, .val (.ref qa), .val (.int (1 : Int32)), .val (.long xb), .second, .val (.ref qb), .val (.int pc), .val (.long xc), .second, .val (.ref qc), .val (.ref qb), .val (.long xb), .second]) rfl k)))) ?_
        show Go _ _ _ _ _ _ _ (s₁.setTop (mkF m 42 #[.val (.int (1 : Int32)), .val (.long xa), .second, .val (.ref qa), .val (.int (1 : Int32)), .val (.long xb), .second, .val (.ref qb), .val (.int pc), .val (.long xc), .second, .val (.ref qc), .val (.ref qb), .val (.long xb), .second] []))
        rcases hpc with ⟨rfl, rfl⟩ | ⟨rfl, rfl⟩
        · show Go _ _ _ _ _ _ _ (s₁.setTop (mkF m 42 #[.val (.int (1 : Int32)), .val (.long xa), .second, .val (.ref qa), .val (.int (1 : Int32)), .val (.long xb), .second, .val (.ref qb), .val (.int (0 : Int32)), .val (.long xc), .second, .val (.ref qc), .val (.ref qb), .val (.long xb), .second] []))
          refine Go.step (fun t k => XS.iload X0.here hx rfl (hb hby d14_42) rfl k) ?_
          show Go _ _ _ _ _ _ _ (s₁.setTop (mkF m 44 #[.val (.int (1 : Int32)), .val (.long xa), .second, .val (.ref qa), .val (.int (1 : Int32)), .val (.long xb), .second, .val (.ref qb), .val (.int (0 : Int32)), .val (.long xc), .second, .val (.ref qc), .val (.ref qb), .val (.long xb), .second] [(.int (0 : Int32))]))
          refine Go.step (fun t k => XS.ifYes X0.here hx rfl (pc0 := 44) (pc' := 68) rfl (hb hby d14_44) rfl ((if0 _ _).trans (teq (by decide : (0 : Int32) = (0 : Int32))).1) (by decide) (by decide) k) ?_
          show Go _ _ _ _ _ _ _ (s₁.setTop (mkF m 68 #[.val (.int (1 : Int32)), .val (.long xa), .second, .val (.ref qa), .val (.int (1 : Int32)), .val (.long xb), .second, .val (.ref qb), .val (.int (0 : Int32)), .val (.long xc), .second, .val (.ref qc), .val (.ref qb), .val (.long xb), .second] []))
          refine Go.step (fun t k => XS.aload X0.here hx rfl (hb hby d14_68) rfl rfl k) ?_
          show Go _ _ _ _ _ _ _ (s₁.setTop (mkF m 70 #[.val (.int (1 : Int32)), .val (.long xa), .second, .val (.ref qa), .val (.int (1 : Int32)), .val (.long xb), .second, .val (.ref qb), .val (.int (0 : Int32)), .val (.long xc), .second, .val (.ref qc), .val (.ref qb), .val (.long xb), .second] [(.ref qb)]))
          refine Go.retA X0 Bd.notSynchronized hx Bd.returns rfl rfl rfl (hb hby d14_70) (by decide) (by decide) ?_
          rw [e0]
          have ihc31_3 := own_ltL hc31_3
          exact ⟨(.ref qb), rfl, N0, rfl, rfl, (Or.inr (own_GP (km := xb) (Or.inr (Or.inl ⟨rfl, rfl, rfl⟩)) (fun _ => by omega) (fun _ => by omega) (fun q => absurd q (by decide))))⟩
        · show Go _ _ _ _ _ _ _ (s₁.setTop (mkF m 42 #[.val (.int (1 : Int32)), .val (.long xa), .second, .val (.ref qa), .val (.int (1 : Int32)), .val (.long xb), .second, .val (.ref qb), .val (.int (1 : Int32)), .val (.long xc), .second, .val (.ref qc), .val (.ref qb), .val (.long xb), .second] []))
          refine Go.step (fun t k => XS.iload X0.here hx rfl (hb hby d14_42) rfl k) ?_
          show Go _ _ _ _ _ _ _ (s₁.setTop (mkF m 44 #[.val (.int (1 : Int32)), .val (.long xa), .second, .val (.ref qa), .val (.int (1 : Int32)), .val (.long xb), .second, .val (.ref qb), .val (.int (1 : Int32)), .val (.long xc), .second, .val (.ref qc), .val (.ref qb), .val (.long xb), .second] [(.int (1 : Int32))]))
          refine Go.step (fun t k => XS.ifNo X0.here hx rfl (hb hby d14_44) rfl ((if0 _ _).trans (feq (by decide : ¬ (1 : Int32) = (0 : Int32))).1) k) ?_
          show Go _ _ _ _ _ _ _ (s₁.setTop (mkF m 47 #[.val (.int (1 : Int32)), .val (.long xa), .second, .val (.ref qa), .val (.int (1 : Int32)), .val (.long xb), .second, .val (.ref qb), .val (.int (1 : Int32)), .val (.long xc), .second, .val (.ref qc), .val (.ref qb), .val (.long xb), .second] []))
          refine Go.step (fun t k => XS.aload X0.here hx rfl (hb hby d14_47) rfl rfl k) ?_
          show Go _ _ _ _ _ _ _ (s₁.setTop (mkF m 49 #[.val (.int (1 : Int32)), .val (.long xa), .second, .val (.ref qa), .val (.int (1 : Int32)), .val (.long xb), .second, .val (.ref qb), .val (.int (1 : Int32)), .val (.long xc), .second, .val (.ref qc), .val (.ref qb), .val (.long xb), .second] [(.ref qb)]))
          refine Go.step (fun t k => XS.ifnullNo X0.here hx rfl (hb hby d14_49) rfl k) ?_
          show Go _ _ _ _ _ _ _ (s₁.setTop (mkF m 52 #[.val (.int (1 : Int32)), .val (.long xa), .second, .val (.ref qa), .val (.int (1 : Int32)), .val (.long xb), .second, .val (.ref qb), .val (.int (1 : Int32)), .val (.long xc), .second, .val (.ref qc), .val (.ref qb), .val (.long xb), .second] []))
          refine Go.step (fun t k => XS.lload X0.here hx rfl (hb hby d14_52) rfl (XS.lload X0.here hx rfl (hb hby d14_54) rfl (XS.lcmp X0.here hx rfl (hb hby d14_56) rfl k))) ?_
          show Go _ _ _ _ _ _ _ (s₁.setTop (mkF m 57 #[.val (.int (1 : Int32)), .val (.long xa), .second, .val (.ref qa), .val (.int (1 : Int32)), .val (.long xb), .second, .val (.ref qb), .val (.int (1 : Int32)), .val (.long xc), .second, .val (.ref qc), .val (.ref qb), .val (.long xb), .second] [(.int (lcmpW xc xb))]))
          by_cases hc57_4 : xb < xc
          · refine Go.step (fun t k => XS.ifNo X0.here hx rfl (hb hby d14_57) rfl ((if0 _ _).trans (tlt (own_lwgt hc57_4)).2.2.2) k) ?_
            show Go _ _ _ _ _ _ _ (s₁.setTop (mkF m 60 #[.val (.int (1 : Int32)), .val (.long xa), .second, .val (.ref qa), .val (.int (1 : Int32)), .val (.long xb), .second, .val (.ref qb), .val (.int (1 : Int32)), .val (.long xc), .second, .val (.ref qc), .val (.ref qb), .val (.long xb), .second] []))
            refine Go.step (fun t k => XS.aload X0.here hx rfl (hb hby d14_60) rfl rfl (XS.astore X0.here hx rfl (hb hby d14_62) rfl rfl (l' := #[.val (.int (1 : Int32)), .val (.long xa), .second, .val (.ref qa), .val (.int (1 : Int32)), .val (.long xb), .second, .val (.ref qb), .val (.int (1 : Int32)), .val (.long xc), .second, .val (.ref qc), .val (.ref qc), .val (.long xb), .second]) rfl (XS.lload X0.here hx rfl (hb hby d14_64) rfl (XS.lstore X0.here hx rfl (hb hby d14_66) rfl (l' := #[.val (.int (1 : Int32)), .val (.long xa), .second, .val (.ref qa), .val (.int (1 : Int32)), .val (.long xb), .second, .val (.ref qb), .val (.int (1 : Int32)), .val (.long xc), .second, .val (.ref qc), .val (.ref qc), .val (.long xc), .second]) rfl (XS.aload X0.here hx rfl (hb hby d14_68) rfl rfl k))))) ?_
            show Go _ _ _ _ _ _ _ (s₁.setTop (mkF m 70 #[.val (.int (1 : Int32)), .val (.long xa), .second, .val (.ref qa), .val (.int (1 : Int32)), .val (.long xb), .second, .val (.ref qb), .val (.int (1 : Int32)), .val (.long xc), .second, .val (.ref qc), .val (.ref qc), .val (.long xc), .second] [(.ref qc)]))
            refine Go.retA X0 Bd.notSynchronized hx Bd.returns rfl rfl rfl (hb hby d14_70) (by decide) (by decide) ?_
            rw [e0]
            have ihc31_3 := own_ltL hc31_3
            have ihc57_4 := own_ltL hc57_4
            exact ⟨(.ref qc), rfl, N0, rfl, rfl, (Or.inr (own_GP (km := xc) (Or.inr (Or.inr ⟨rfl, rfl, rfl⟩)) (fun _ => by omega) (fun _ => by omega) (fun _ => by omega)))⟩
          · refine Go.step (fun t k => XS.ifYes X0.here hx rfl (pc0 := 57) (pc' := 68) rfl (hb hby d14_57) rfl ((if0 _ _).trans (flt (own_nlwgt hc57_4)).2.2.2) (by decide) (by decide) k) ?_
            show Go _ _ _ _ _ _ _ (s₁.setTop (mkF m 68 #[.val (.int (1 : Int32)), .val (.long xa), .second, .val (.ref qa), .val (.int (1 : Int32)), .val (.long xb), .second, .val (.ref qb), .val (.int (1 : Int32)), .val (.long xc), .second, .val (.ref qc), .val (.ref qb), .val (.long xb), .second] []))
            refine Go.step (fun t k => XS.aload X0.here hx rfl (hb hby d14_68) rfl rfl k) ?_
            show Go _ _ _ _ _ _ _ (s₁.setTop (mkF m 70 #[.val (.int (1 : Int32)), .val (.long xa), .second, .val (.ref qa), .val (.int (1 : Int32)), .val (.long xb), .second, .val (.ref qb), .val (.int (1 : Int32)), .val (.long xc), .second, .val (.ref qc), .val (.ref qb), .val (.long xb), .second] [(.ref qb)]))
            refine Go.retA X0 Bd.notSynchronized hx Bd.returns rfl rfl rfl (hb hby d14_70) (by decide) (by decide) ?_
            rw [e0]
            have ihc31_3 := own_ltL hc31_3
            have ihc57_4 := own_nltL hc57_4
            exact ⟨(.ref qb), rfl, N0, rfl, rfl, (Or.inr (own_GP (km := xb) (Or.inr (Or.inl ⟨rfl, rfl, rfl⟩)) (fun _ => by omega) (fun _ => by omega) (fun _ => by omega)))⟩
      · refine Go.step (fun t k => XS.ifYes X0.here hx rfl (pc0 := 31) (pc' := 42) rfl (hb hby d14_31) rfl ((if0 _ _).trans (flt (own_nlwgt hc31_3)).2.2.2) (by decide) (by decide) k) ?_
        show Go _ _ _ _ _ _ _ (s₁.setTop (mkF m 42 #[.val (.int (1 : Int32)), .val (.long xa), .second, .val (.ref qa), .val (.int (1 : Int32)), .val (.long xb), .second, .val (.ref qb), .val (.int pc), .val (.long xc), .second, .val (.ref qc), .val (.ref qa), .val (.long xa), .second] []))
        rcases hpc with ⟨rfl, rfl⟩ | ⟨rfl, rfl⟩
        · show Go _ _ _ _ _ _ _ (s₁.setTop (mkF m 42 #[.val (.int (1 : Int32)), .val (.long xa), .second, .val (.ref qa), .val (.int (1 : Int32)), .val (.long xb), .second, .val (.ref qb), .val (.int (0 : Int32)), .val (.long xc), .second, .val (.ref qc), .val (.ref qa), .val (.long xa), .second] []))
          refine Go.step (fun t k => XS.iload X0.here hx rfl (hb hby d14_42) rfl k) ?_
          show Go _ _ _ _ _ _ _ (s₁.setTop (mkF m 44 #[.val (.int (1 : Int32)), .val (.long xa), .second, .val (.ref qa), .val (.int (1 : Int32)), .val (.long xb), .second, .val (.ref qb), .val (.int (0 : Int32)), .val (.long xc), .second, .val (.ref qc), .val (.ref qa), .val (.long xa), .second] [(.int (0 : Int32))]))
          refine Go.step (fun t k => XS.ifYes X0.here hx rfl (pc0 := 44) (pc' := 68) rfl (hb hby d14_44) rfl ((if0 _ _).trans (teq (by decide : (0 : Int32) = (0 : Int32))).1) (by decide) (by decide) k) ?_
          show Go _ _ _ _ _ _ _ (s₁.setTop (mkF m 68 #[.val (.int (1 : Int32)), .val (.long xa), .second, .val (.ref qa), .val (.int (1 : Int32)), .val (.long xb), .second, .val (.ref qb), .val (.int (0 : Int32)), .val (.long xc), .second, .val (.ref qc), .val (.ref qa), .val (.long xa), .second] []))
          refine Go.step (fun t k => XS.aload X0.here hx rfl (hb hby d14_68) rfl rfl k) ?_
          show Go _ _ _ _ _ _ _ (s₁.setTop (mkF m 70 #[.val (.int (1 : Int32)), .val (.long xa), .second, .val (.ref qa), .val (.int (1 : Int32)), .val (.long xb), .second, .val (.ref qb), .val (.int (0 : Int32)), .val (.long xc), .second, .val (.ref qc), .val (.ref qa), .val (.long xa), .second] [(.ref qa)]))
          refine Go.retA X0 Bd.notSynchronized hx Bd.returns rfl rfl rfl (hb hby d14_70) (by decide) (by decide) ?_
          rw [e0]
          have ihc31_3 := own_nltL hc31_3
          exact ⟨(.ref qa), rfl, N0, rfl, rfl, (Or.inr (own_GP (km := xa) (Or.inl ⟨rfl, rfl, rfl⟩) (fun _ => by omega) (fun _ => by omega) (fun q => absurd q (by decide))))⟩
        · show Go _ _ _ _ _ _ _ (s₁.setTop (mkF m 42 #[.val (.int (1 : Int32)), .val (.long xa), .second, .val (.ref qa), .val (.int (1 : Int32)), .val (.long xb), .second, .val (.ref qb), .val (.int (1 : Int32)), .val (.long xc), .second, .val (.ref qc), .val (.ref qa), .val (.long xa), .second] []))
          refine Go.step (fun t k => XS.iload X0.here hx rfl (hb hby d14_42) rfl k) ?_
          show Go _ _ _ _ _ _ _ (s₁.setTop (mkF m 44 #[.val (.int (1 : Int32)), .val (.long xa), .second, .val (.ref qa), .val (.int (1 : Int32)), .val (.long xb), .second, .val (.ref qb), .val (.int (1 : Int32)), .val (.long xc), .second, .val (.ref qc), .val (.ref qa), .val (.long xa), .second] [(.int (1 : Int32))]))
          refine Go.step (fun t k => XS.ifNo X0.here hx rfl (hb hby d14_44) rfl ((if0 _ _).trans (feq (by decide : ¬ (1 : Int32) = (0 : Int32))).1) k) ?_
          show Go _ _ _ _ _ _ _ (s₁.setTop (mkF m 47 #[.val (.int (1 : Int32)), .val (.long xa), .second, .val (.ref qa), .val (.int (1 : Int32)), .val (.long xb), .second, .val (.ref qb), .val (.int (1 : Int32)), .val (.long xc), .second, .val (.ref qc), .val (.ref qa), .val (.long xa), .second] []))
          refine Go.step (fun t k => XS.aload X0.here hx rfl (hb hby d14_47) rfl rfl k) ?_
          show Go _ _ _ _ _ _ _ (s₁.setTop (mkF m 49 #[.val (.int (1 : Int32)), .val (.long xa), .second, .val (.ref qa), .val (.int (1 : Int32)), .val (.long xb), .second, .val (.ref qb), .val (.int (1 : Int32)), .val (.long xc), .second, .val (.ref qc), .val (.ref qa), .val (.long xa), .second] [(.ref qa)]))
          refine Go.step (fun t k => XS.ifnullNo X0.here hx rfl (hb hby d14_49) rfl k) ?_
          show Go _ _ _ _ _ _ _ (s₁.setTop (mkF m 52 #[.val (.int (1 : Int32)), .val (.long xa), .second, .val (.ref qa), .val (.int (1 : Int32)), .val (.long xb), .second, .val (.ref qb), .val (.int (1 : Int32)), .val (.long xc), .second, .val (.ref qc), .val (.ref qa), .val (.long xa), .second] []))
          refine Go.step (fun t k => XS.lload X0.here hx rfl (hb hby d14_52) rfl (XS.lload X0.here hx rfl (hb hby d14_54) rfl (XS.lcmp X0.here hx rfl (hb hby d14_56) rfl k))) ?_
          show Go _ _ _ _ _ _ _ (s₁.setTop (mkF m 57 #[.val (.int (1 : Int32)), .val (.long xa), .second, .val (.ref qa), .val (.int (1 : Int32)), .val (.long xb), .second, .val (.ref qb), .val (.int (1 : Int32)), .val (.long xc), .second, .val (.ref qc), .val (.ref qa), .val (.long xa), .second] [(.int (lcmpW xc xa))]))
          by_cases hc57_5 : xa < xc
          · refine Go.step (fun t k => XS.ifNo X0.here hx rfl (hb hby d14_57) rfl ((if0 _ _).trans (tlt (own_lwgt hc57_5)).2.2.2) k) ?_
            show Go _ _ _ _ _ _ _ (s₁.setTop (mkF m 60 #[.val (.int (1 : Int32)), .val (.long xa), .second, .val (.ref qa), .val (.int (1 : Int32)), .val (.long xb), .second, .val (.ref qb), .val (.int (1 : Int32)), .val (.long xc), .second, .val (.ref qc), .val (.ref qa), .val (.long xa), .second] []))
            refine Go.step (fun t k => XS.aload X0.here hx rfl (hb hby d14_60) rfl rfl (XS.astore X0.here hx rfl (hb hby d14_62) rfl rfl (l' := #[.val (.int (1 : Int32)), .val (.long xa), .second, .val (.ref qa), .val (.int (1 : Int32)), .val (.long xb), .second, .val (.ref qb), .val (.int (1 : Int32)), .val (.long xc), .second, .val (.ref qc), .val (.ref qc), .val (.long xa), .second]) rfl (XS.lload X0.here hx rfl (hb hby d14_64) rfl (XS.lstore X0.here hx rfl (hb hby d14_66) rfl (l' := #[.val (.int (1 : Int32)), .val (.long xa), .second, .val (.ref qa), .val (.int (1 : Int32)), .val (.long xb), .second, .val (.ref qb), .val (.int (1 : Int32)), .val (.long xc), .second, .val (.ref qc), .val (.ref qc), .val (.long xc), .second]) rfl (XS.aload X0.here hx rfl (hb hby d14_68) rfl rfl k))))) ?_
            show Go _ _ _ _ _ _ _ (s₁.setTop (mkF m 70 #[.val (.int (1 : Int32)), .val (.long xa), .second, .val (.ref qa), .val (.int (1 : Int32)), .val (.long xb), .second, .val (.ref qb), .val (.int (1 : Int32)), .val (.long xc), .second, .val (.ref qc), .val (.ref qc), .val (.long xc), .second] [(.ref qc)]))
            refine Go.retA X0 Bd.notSynchronized hx Bd.returns rfl rfl rfl (hb hby d14_70) (by decide) (by decide) ?_
            rw [e0]
            have ihc31_3 := own_nltL hc31_3
            have ihc57_5 := own_ltL hc57_5
            exact ⟨(.ref qc), rfl, N0, rfl, rfl, (Or.inr (own_GP (km := xc) (Or.inr (Or.inr ⟨rfl, rfl, rfl⟩)) (fun _ => by omega) (fun _ => by omega) (fun _ => by omega)))⟩
          · refine Go.step (fun t k => XS.ifYes X0.here hx rfl (pc0 := 57) (pc' := 68) rfl (hb hby d14_57) rfl ((if0 _ _).trans (flt (own_nlwgt hc57_5)).2.2.2) (by decide) (by decide) k) ?_
            show Go _ _ _ _ _ _ _ (s₁.setTop (mkF m 68 #[.val (.int (1 : Int32)), .val (.long xa), .second, .val (.ref qa), .val (.int (1 : Int32)), .val (.long xb), .second, .val (.ref qb), .val (.int (1 : Int32)), .val (.long xc), .second, .val (.ref qc), .val (.ref qa), .val (.long xa), .second] []))
            refine Go.step (fun t k => XS.aload X0.here hx rfl (hb hby d14_68) rfl rfl k) ?_
            show Go _ _ _ _ _ _ _ (s₁.setTop (mkF m 70 #[.val (.int (1 : Int32)), .val (.long xa), .second, .val (.ref qa), .val (.int (1 : Int32)), .val (.long xb), .second, .val (.ref qb), .val (.int (1 : Int32)), .val (.long xc), .second, .val (.ref qc), .val (.ref qa), .val (.long xa), .second] [(.ref qa)]))
            refine Go.retA X0 Bd.notSynchronized hx Bd.returns rfl rfl rfl (hb hby d14_70) (by decide) (by decide) ?_
            rw [e0]
            have ihc31_3 := own_nltL hc31_3
            have ihc57_5 := own_nltL hc57_5
            exact ⟨(.ref qa), rfl, N0, rfl, rfl, (Or.inr (own_GP (km := xa) (Or.inl ⟨rfl, rfl, rfl⟩) (fun _ => by omega) (fun _ => by omega) (fun _ => by omega)))⟩
abbrev own_f0 (m : MethodId) (pc : Nat) (av bv cv : Int64) (fl : Int32) (kb kc : Int64) (pa pb pq : Int32) (li qa qb qc : Addr) (st : List Value) : JFrame := mkF m pc #[.val (.long av), .second, .val (.long bv), .second, .val (.long cv), .second, .val (.int fl), .val (.long kb), .second, .val (.long kc), .second, .val (.int pa), .val (.int pb), .val (.int pq), .val (.ref li), .val (.ref qa), .val (.ref qb), .val (.ref qc), .unset, .unset, .unset, .unset] st
abbrev own_f1 (m : MethodId) (pc : Nat) (av bv cv : Int64) (fl : Int32) (kb kc : Int64) (pa pb pq : Int32) (li qa qb qc : Addr) (l18 : Int32) (st : List Value) : JFrame := mkF m pc #[.val (.long av), .second, .val (.long bv), .second, .val (.long cv), .second, .val (.int fl), .val (.long kb), .second, .val (.long kc), .second, .val (.int pa), .val (.int pb), .val (.int pq), .val (.ref li), .val (.ref qa), .val (.ref qb), .val (.ref qc), .val (.int l18), .unset, .unset, .unset] st
abbrev own_f2 (m : MethodId) (pc : Nat) (av bv cv : Int64) (fl : Int32) (kb kc : Int64) (pa pb pq : Int32) (li qa qb qc : Addr) (l18 : Int32) (l19 : Int32) (st : List Value) : JFrame := mkF m pc #[.val (.long av), .second, .val (.long bv), .second, .val (.long cv), .second, .val (.int fl), .val (.long kb), .second, .val (.long kc), .second, .val (.int pa), .val (.int pb), .val (.int pq), .val (.ref li), .val (.ref qa), .val (.ref qb), .val (.ref qc), .val (.int l18), .val (.int l19), .unset, .unset] st
abbrev own_f3 (m : MethodId) (pc : Nat) (av bv cv : Int64) (fl : Int32) (kb kc : Int64) (pa pb pq : Int32) (li qa qb qc : Addr) (l18 : Int32) (l19 : Int32) (l20 : Int32) (st : List Value) : JFrame := mkF m pc #[.val (.long av), .second, .val (.long bv), .second, .val (.long cv), .second, .val (.int fl), .val (.long kb), .second, .val (.long kc), .second, .val (.int pa), .val (.int pb), .val (.int pq), .val (.ref li), .val (.ref qa), .val (.ref qb), .val (.ref qc), .val (.int l18), .val (.int l19), .val (.int l20), .unset] st
abbrev own_f4 (m : MethodId) (pc : Nat) (av bv cv : Int64) (fl : Int32) (kb kc : Int64) (pa pb pq : Int32) (li qa qb qc : Addr) (l18 : Int32) (l19 : Int32) (l20 : Int32) (l21 : Int32) (st : List Value) : JFrame := mkF m pc #[.val (.long av), .second, .val (.long bv), .second, .val (.long cv), .second, .val (.int fl), .val (.long kb), .second, .val (.long kc), .second, .val (.int pa), .val (.int pb), .val (.int pq), .val (.ref li), .val (.ref qa), .val (.ref qb), .val (.ref qc), .val (.int l18), .val (.int l19), .val (.int l20), .val (.int l21)] st
theorem pn_0 : plainName "com/example/matchstone/matchstone/LevelIndexBestPinLaw" = true := by first | (simp [plainName, overriddenIn]; done) | decide +kernel
theorem pd_0_0 : parseMethodDescriptor "()Lcom/example/matchstone/matchstone/PriceLevel;" = some ⟨[], some (.object "com/example/matchstone/matchstone/PriceLevel")⟩ := by decide +kernel
theorem pd_0_1 : parseMethodDescriptor "(ZJLcom/example/matchstone/matchstone/PriceLevel;ZJLcom/example/matchstone/matchstone/PriceLevel;ZJLcom/example/matchstone/matchstone/PriceLevel;)Lcom/example/matchstone/matchstone/PriceLevel;" = some ⟨[.boolean, .long, (.object "com/example/matchstone/matchstone/PriceLevel"), .boolean, .long, (.object "com/example/matchstone/matchstone/PriceLevel"), .boolean, .long, (.object "com/example/matchstone/matchstone/PriceLevel")], some (.object "com/example/matchstone/matchstone/PriceLevel")⟩ := by decide +kernel
theorem pd_0_2 : parseMethodDescriptor "(J)V" = some ⟨[.long], none⟩ := by decide +kernel
theorem pd_0_3 : parseMethodDescriptor "()V" = some ⟨[], none⟩ := by decide +kernel
theorem pd_0_4 : parseMethodDescriptor "(Lcom/example/matchstone/matchstone/Price;Lcom/example/matchstone/matchstone/BookSide;)V" = some ⟨[(.object "com/example/matchstone/matchstone/Price"), (.object "com/example/matchstone/matchstone/BookSide")], none⟩ := by decide +kernel
theorem pd_0_5 : parseMethodDescriptor "(JLcom/example/matchstone/matchstone/PriceLevel;)Lcom/example/matchstone/matchstone/PriceLevel;" = some ⟨[.long, (.object "com/example/matchstone/matchstone/PriceLevel")], some (.object "com/example/matchstone/matchstone/PriceLevel")⟩ := by decide +kernel
theorem ef_0 (m : MethodId) (x0 : Int64) (x1 : Int64) (x2 : Int64) (x3 : Int32) : entryFrame m #[(.long x0), (.long x1), (.long x2), (.int x3)] maxLocals = mkF m 0 #[.val (.long x0), .second, .val (.long x1), .second, .val (.long x2), .second, .val (.int x3), .unset, .unset, .unset, .unset, .unset, .unset, .unset, .unset, .unset, .unset, .unset, .unset, .unset, .unset, .unset] [] := by first | (simp [entryFrame, mkF, argsToLocals, Value.category, maxLocals]; done) | rfl
def Q0 (Z : State) (av : Int64) (bv : Int64) (cv : Int64) (fl : Int32) (h0 : Heap) (n0 : Nat) (v : Option Value) (h : Heap) (L : List Loc) : Prop := v = some (.int (1 : Int32)) ∧ Fr n0 L
set_option maxRecDepth 65536 in
set_option maxHeartbeats 40000000 in
theorem rm0 (l : Launch) (Z : State) (a0 : Array Value) (hw : ∀ d ∈ tables_1, d.before a0 Z = true) (ws : List Jvm.Cond) (av : Int64) (bv : Int64) (cv : Int64) (fl : Int32) (h0 : Heap) (n0 : Nat) (Z0 : n0 ≤ h0.size) :
    MetFree l x (head1 (Jvm.Cond.code x code maxLocals ret :: ws) room_1) (fun a U => a = #[(.long av), (.long bv), (.long cv), (.int fl)] ∧ Z.Warmed39 U.vm ∧ U.heap = h0) (fun _ _ _ _ _ => True) (fun _ U o U' => ∃ v L, o = .returned v ∧ Q0 Z av bv cv fl h0 n0 v U'.heap L ∧ FrameEnd U o U' L 32 704) := by
  refine MetFree.of_bodySF (plainFor_of_name pn_0) hisR ?_
  intro p e s m args below meth c s₁ Bd hml0 hP hK
  obtain ⟨rfl, hZ, hh⟩ := hP
  have hx := Bd.exec
  have hby := Bd.bytes
  have hml : c.maxLocals = 22 := hml0
  have hown : s.vm.findClass "com/example/matchstone/matchstone/LevelIndexBestPinLaw" = some m.cls := findClass_of_methodNamed Bd.named
  have hnm := (name_of_methodNamed Bd.named Bd.method).1
  have X0 : Stand p l e room_1 s m #[(.long av), (.long bv), (.long cv), (.int fl)] below meth c s₁ [] 0 0 := Stand.of_body Bd
  have e0 : s₁.heap = h0 := by rw [← hh, Bd.state]; rfl
  have N0 := Fr.nil n0
  show Go p e below s (Q0 Z av bv cv fl h0 n0) 32 704 (s₁.setTop (entryFrame m #[(.long av), (.long bv), (.long cv), (.int fl)] maxLocals))
  rw [ef_0]
  show Go _ _ _ _ _ _ _ (s₁.setTop (mkF m 0 #[.val (.long av), .second, .val (.long bv), .second, .val (.long cv), .second, .val (.int fl), .unset, .unset, .unset, .unset, .unset, .unset, .unset, .unset, .unset, .unset, .unset, .unset, .unset, .unset, .unset] []))
  have L339_000 : ∀ (Tc : State) (hc : Heap) (lc : List Loc) (kb : Int64) (kc : Int64) (li : Addr) (qa : Addr) (qb : Addr) (qc : Addr) (nd : Addr) (kr : Addr) (lr : Addr) (gk : Nat → Int64) (gl : Nat → Value) (aw : Value), (Stand p l e room_1 s m #[(.long av), (.long bv), (.long cv), (.int fl)] below meth c Tc lc 10 300) → (Tc.heap = hc) → (Fr n0 lc) → (n0 ≤ hc.size) → (Fld Z hc li "com/example/matchstone/matchstone/LevelIndex" "last" "Lcom/example/matchstone/matchstone/LevelIndex$Node;" (.ref nd)) → (Exa Z hc li "com/example/matchstone/matchstone/LevelIndex") → (Fld Z hc nd "com/example/matchstone/matchstone/LevelIndex$Node" "keys" "[J" (.ref kr)) → (Fld Z hc nd "com/example/matchstone/matchstone/LevelIndex$Node" "levels" "[Lcom/example/matchstone/matchstone/PriceLevel;" (.ref lr)) → (Fld Z hc nd "com/example/matchstone/matchstone/LevelIndex$Node" "size" "I" (.int (0 : Int32))) → (RAr Z hc lr "com/example/matchstone/matchstone/PriceLevel" 65 gl) → (own_I 0 gk gl false false false av kb kc qa qb qc) → Go p e below s (Q0 Z av bv cv fl h0 n0) 32 704 (Tc.setTop (own_f3 m 339 av bv cv fl kb kc 0 0 0 li qa qb qc 1 (fl &&& (3 : Int32)) ((fl >>> ((4 : Int32) &&& 31)) &&& (3 : Int32)) [])) := by
    intro Tc hc lc kb kc li qa qb qc nd kr lr gk gl aw Xc ec Nc Zc F_last_li E_li F_keys_nd F_levels_nd F_size_nd R_lr hI
    show Go _ _ _ _ _ _ _ (Tc.setTop (own_f3 m 339 av bv cv fl kb kc 0 0 0 li qa qb qc 1 (fl &&& (3 : Int32)) ((fl >>> ((4 : Int32) &&& 31)) &&& (3 : Int32)) []))
    refine Go.step (fun t k => XS.aload Xc.here hx rfl (hb hby at_339) rfl rfl k) ?_
    show Go _ _ _ _ _ _ _ (Tc.setTop (own_f3 m 341 av bv cv fl kb kc 0 0 0 li qa qb qc 1 (fl &&& (3 : Int32)) ((fl >>> ((4 : Int32) &&& 31)) &&& (3 : Int32)) [(.ref li)]))
    obtain ⟨cq1, kq1, q1a, q1b, q1c⟩ := isOf hZ ec E_li
    obtain ⟨_, _, ⟨T1, L1, k1, n1⟩, -, X1, ⟨Lc1, hQ1, l1, y1, z1⟩, st1⟩ := Xc.virtualBack hx (y := (⟨"com/example/matchstone/matchstone/LevelIndex", "best", "()Lcom/example/matchstone/matchstone/PriceLevel;"⟩ : MethodName)) (z := (⟨"com/example/matchstone/matchstone/LevelIndex", "best", "()Lcom/example/matchstone/matchstone/PriceLevel;"⟩ : MethodName)) hown (mvT hZ (hw _ (List.mem_of_getElem? (i := 84) rfl))) (mvT hZ (hw _ (List.mem_of_getElem? (i := 85) rfl))) (notFace_of_selects (args := #[]) (mvT hZ (hw _ (List.mem_of_getElem? (i := 87) rfl)))) (mvT hZ (hw _ (List.mem_of_getElem? (i := 87) rfl))) (mvT hZ (hw _ (List.mem_of_getElem? (i := 86) rfl))) (by decide) (backOf (W := 0) (rm13_0 l Z a0 hw [] li nd lr gl hc n0 Zc F_last_li F_levels_nd F_size_nd R_lr) hZ (hw _ (List.mem_of_getElem? (i := 88) rfl)) (hw _ (List.mem_of_getElem? (i := 2) rfl)) (by decide) (by decide)) q1a q1c (g := (own_f3 m 341 av bv cv fl kb kc 0 0 0 li qa qb qc 1 (fl &&& (3 : Int32)) ((fl >>> ((4 : Int32) &&& 31)) &&& (3 : Int32)) [(.ref li)])) rfl (by rw [hml]; rfl) (Steps.refl _) (argsL := []) (rest := []) (lenOf pd_0_0 rfl) rfl (by show 2 * 0 + _ ≤ _; exact Nat.le_of_eq rfl) (hb hby at_341) (fun _ _ => ⟨rfl, ec, (by decide : 10 + 0 ≤ _), (by decide : 300 + 0 ≤ _)⟩)
    dsimp only [Pt.U, Pt.locs, Pt.cells, Pt.slots] at X1 l1 y1 z1 st1 hQ1
    subst l1 y1 z1
    obtain ⟨rfl, N1q, K1q⟩ := hQ1
    have N1 := Fr.app Nc N1q
    refine Go.step (fun t k => st1.trans k) ?_
    show Go _ _ _ _ _ _ _ (T1.setTop (own_f3 m 344 av bv cv fl kb kc 0 0 0 li qa qb qc 1 (fl &&& (3 : Int32)) ((fl >>> ((4 : Int32) &&& 31)) &&& (3 : Int32)) [.null]))
    refine Go.step (fun t k => XS.iload X1.here hx rfl (hb hby at_344) rfl (XS.lloadN X1.here hx rfl (hb hby at_346) rfl (XS.aload X1.here hx rfl (hb hby at_347) rfl rfl (XS.iload X1.here hx rfl (hb hby at_349) rfl (XS.lload X1.here hx rfl (hb hby at_351) rfl (XS.aload X1.here hx rfl (hb hby at_353) rfl rfl (XS.iload X1.here hx rfl (hb hby at_355) rfl (XS.lload X1.here hx rfl (hb hby at_357) rfl (XS.aload X1.here hx rfl (hb hby at_359) rfl rfl k))))))))) ?_
    show Go _ _ _ _ _ _ _ (T1.setTop (own_f3 m 361 av bv cv fl kb kc 0 0 0 li qa qb qc 1 (fl &&& (3 : Int32)) ((fl >>> ((4 : Int32) &&& 31)) &&& (3 : Int32)) [(.ref qc), (.long kc), (.int (0 : Int32)), (.ref qb), (.long kb), (.int (0 : Int32)), (.ref qa), (.long av), (.int (0 : Int32)), .null]))
    obtain ⟨_, _, ⟨T2, L2, k2, n2⟩, -, X2, ⟨Lc2, hQ2, l2, y2, z2⟩, st2⟩ := Jvm.LawKit.callS X1 hx (y := (⟨"com/example/matchstone/matchstone/LevelIndexBestPinLaw", "expected", "(ZJLcom/example/matchstone/matchstone/PriceLevel;ZJLcom/example/matchstone/matchstone/PriceLevel;ZJLcom/example/matchstone/matchstone/PriceLevel;)Lcom/example/matchstone/matchstone/PriceLevel;"⟩ : MethodName)) hown (mvT hZ (hw _ (List.mem_of_getElem? (i := 89) rfl))) (mvT hZ (hw _ (List.mem_of_getElem? (i := 90) rfl))) (mvT hZ (hw _ (List.mem_of_getElem? (i := 91) rfl))) (mvT hZ (hw _ (List.mem_of_getElem? (i := 92) rfl))) (by decide) (backOf (W := 1) (rm14 l Z a0 hw [] (0 : Int32) av qa (0 : Int32) kb qb (0 : Int32) kc qc false false false hc n0 Zc (Or.inl ⟨rfl, rfl⟩) (Or.inl ⟨rfl, rfl⟩) (Or.inl ⟨rfl, rfl⟩)) hZ (hw _ (List.mem_of_getElem? (i := 92) rfl)) (hw _ (List.mem_of_getElem? (i := 91) rfl)) (by decide) (by decide)) (g := (own_f3 m 361 av bv cv fl kb kc 0 0 0 li qa qb qc 1 (fl &&& (3 : Int32)) ((fl >>> ((4 : Int32) &&& 31)) &&& (3 : Int32)) [(.ref qc), (.long kc), (.int (0 : Int32)), (.ref qb), (.long kb), (.int (0 : Int32)), (.ref qa), (.long av), (.int (0 : Int32)), .null])) rfl (by rw [hml]; rfl) (argsL := [(.int (0 : Int32)), (.long av), (.ref qa), (.int (0 : Int32)), (.long kb), (.ref qb), (.int (0 : Int32)), (.long kc), (.ref qc)]) (rest := [.null]) (lenOf pd_0_1 rfl) rfl (by show 2 * 0 + _ ≤ _; exact Nat.le_of_eq rfl) (hb hby at_361) (fun _ _ => ⟨rfl, K1q, (by decide : 10 + 0 ≤ _), (by decide : 300 + 0 ≤ _)⟩)
    dsimp only [Pt.U, Pt.locs, Pt.cells, Pt.slots] at X2 l2 y2 z2 st2 hQ2
    subst l2 y2 z2
    obtain ⟨vv_2, rfl, N2q, K2q, o2_hvr, o2_hG⟩ := hQ2
    have N2 := Fr.app N1 N2q
    refine Go.step st2 ?_
    show Go _ _ _ _ _ _ _ (T2.setTop (own_f3 m 364 av bv cv fl kb kc 0 0 0 li qa qb qc 1 (fl &&& (3 : Int32)) ((fl >>> ((4 : Int32) &&& 31)) &&& (3 : Int32)) [vv_2, .null]))
    refine Go.step (fun t k => Jvm.RoadKit.acmp (g := (own_f3 m 364 av bv cv fl kb kc 0 0 0 li qa qb qc 1 (fl &&& (3 : Int32)) ((fl >>> ((4 : Int32) &&& 31)) &&& (3 : Int32)) [vv_2, .null])) X2 hx rfl rfl o2_hvr (pc0 := 364) (pc' := 367) (same := true) rfl (hb hby at_364) rfl (decide_eq_true (own_X0 o2_hG)) (by decide) (by decide) k) ?_
    show Go _ _ _ _ _ _ _ (T2.setTop (own_f3 m 367 av bv cv fl kb kc 0 0 0 li qa qb qc 1 (fl &&& (3 : Int32)) ((fl >>> ((4 : Int32) &&& 31)) &&& (3 : Int32)) []))
    refine Go.step (fun t k => XS.iconst X2.here hx rfl (hb hby at_367) k) ?_
    show Go _ _ _ _ _ _ _ (T2.setTop (own_f3 m 368 av bv cv fl kb kc 0 0 0 li qa qb qc 1 (fl &&& (3 : Int32)) ((fl >>> ((4 : Int32) &&& 31)) &&& (3 : Int32)) [(.int (1 : Int32))]))
    refine Go.step (fun t k => XS.goto X2.here hx rfl (pc0 := 368) (pc' := 372) rfl (hb hby at_368) (by decide) (by decide) (XS.istore X2.here hx rfl (hb hby at_372) rfl (l' := #[.val (.long av), .second, .val (.long bv), .second, .val (.long cv), .second, .val (.int fl), .val (.long kb), .second, .val (.long kc), .second, .val (.int (0 : Int32)), .val (.int (0 : Int32)), .val (.int (0 : Int32)), .val (.ref li), .val (.ref qa), .val (.ref qb), .val (.ref qc), .val (.int (1 : Int32)), .val (.int (fl &&& (3 : Int32))), .val (.int ((fl >>> ((4 : Int32) &&& 31)) &&& (3 : Int32))), .val (.int (1 : Int32))]) rfl (XS.iload X2.here hx rfl (hb hby at_374) rfl k))) ?_
    show Go _ _ _ _ _ _ _ (T2.setTop (own_f4 m 376 av bv cv fl kb kc 0 0 0 li qa qb qc 1 (fl &&& (3 : Int32)) ((fl >>> ((4 : Int32) &&& 31)) &&& (3 : Int32)) 1 [(.int (1 : Int32))]))
    refine Go.step (fun t k => XS.ifNo X2.here hx rfl (hb hby at_376) rfl ((if0 _ _).trans (feq (by decide : ¬ (1 : Int32) = (0 : Int32))).1) k) ?_
    show Go _ _ _ _ _ _ _ (T2.setTop (own_f4 m 379 av bv cv fl kb kc 0 0 0 li qa qb qc 1 (fl &&& (3 : Int32)) ((fl >>> ((4 : Int32) &&& 31)) &&& (3 : Int32)) 1 []))
    refine Go.step (fun t k => XS.iload X2.here hx rfl (hb hby at_379) rfl k) ?_
    show Go _ _ _ _ _ _ _ (T2.setTop (own_f4 m 381 av bv cv fl kb kc 0 0 0 li qa qb qc 1 (fl &&& (3 : Int32)) ((fl >>> ((4 : Int32) &&& 31)) &&& (3 : Int32)) 1 [(.int (1 : Int32))]))
    refine Go.step (fun t k => XS.ifNo X2.here hx rfl (hb hby at_381) rfl ((if0 _ _).trans (feq (by decide : ¬ (1 : Int32) = (0 : Int32))).1) k) ?_
    show Go _ _ _ _ _ _ _ (T2.setTop (own_f4 m 384 av bv cv fl kb kc 0 0 0 li qa qb qc 1 (fl &&& (3 : Int32)) ((fl >>> ((4 : Int32) &&& 31)) &&& (3 : Int32)) 1 []))
    refine Go.step (fun t k => XS.iconst X2.here hx rfl (hb hby at_384) k) ?_
    show Go _ _ _ _ _ _ _ (T2.setTop (own_f4 m 385 av bv cv fl kb kc 0 0 0 li qa qb qc 1 (fl &&& (3 : Int32)) ((fl >>> ((4 : Int32) &&& 31)) &&& (3 : Int32)) 1 [(.int (1 : Int32))]))
    refine Go.step (fun t k => XS.goto X2.here hx rfl (pc0 := 385) (pc' := 389) rfl (hb hby at_385) (by decide) (by decide) k) ?_
    show Go _ _ _ _ _ _ _ (T2.setTop (own_f4 m 389 av bv cv fl kb kc 0 0 0 li qa qb qc 1 (fl &&& (3 : Int32)) ((fl >>> ((4 : Int32) &&& 31)) &&& (3 : Int32)) 1 [(.int (1 : Int32))]))
    refine Go.retN X2 Bd.notSynchronized hx (t := .boolean) Bd.returns (by simp) (hb hby at_389) (by decide) (by decide) (1 : Int32) rfl ?_
    rw [K2q]
    exact ⟨rfl, N2⟩
  have L339_001 : ∀ (Tc : State) (hc : Heap) (lc : List Loc) (kb : Int64) (kc : Int64) (li : Addr) (qa : Addr) (qb : Addr) (qc : Addr) (nd : Addr) (kr : Addr) (lr : Addr) (gk : Nat → Int64) (gl : Nat → Value) (aw : Value), (Stand p l e room_1 s m #[(.long av), (.long bv), (.long cv), (.int fl)] below meth c Tc lc 7 164) → (Tc.heap = hc) → (Fr n0 lc) → (n0 ≤ hc.size) → (Fld Z hc li "com/example/matchstone/matchstone/LevelIndex" "last" "Lcom/example/matchstone/matchstone/LevelIndex$Node;" (.ref nd)) → (Exa Z hc li "com/example/matchstone/matchstone/LevelIndex") → (Fld Z hc nd "com/example/matchstone/matchstone/LevelIndex$Node" "keys" "[J" (.ref kr)) → (Fld Z hc nd "com/example/matchstone/matchstone/LevelIndex$Node" "levels" "[Lcom/example/matchstone/matchstone/PriceLevel;" (.ref lr)) → (Fld Z hc nd "com/example/matchstone/matchstone/LevelIndex$Node" "size" "I" (.int (1 : Int32))) → (RAr Z hc lr "com/example/matchstone/matchstone/PriceLevel" 65 gl) → (own_I 1 gk gl false false true av kb kc qa qb qc) → Go p e below s (Q0 Z av bv cv fl h0 n0) 32 704 (Tc.setTop (own_f3 m 339 av bv cv fl kb kc 0 0 1 li qa qb qc 1 (fl &&& (3 : Int32)) ((fl >>> ((4 : Int32) &&& 31)) &&& (3 : Int32)) [])) := by
    intro Tc hc lc kb kc li qa qb qc nd kr lr gk gl aw Xc ec Nc Zc F_last_li E_li F_keys_nd F_levels_nd F_size_nd R_lr hI
    show Go _ _ _ _ _ _ _ (Tc.setTop (own_f3 m 339 av bv cv fl kb kc 0 0 1 li qa qb qc 1 (fl &&& (3 : Int32)) ((fl >>> ((4 : Int32) &&& 31)) &&& (3 : Int32)) []))
    refine Go.step (fun t k => XS.aload Xc.here hx rfl (hb hby at_339) rfl rfl k) ?_
    show Go _ _ _ _ _ _ _ (Tc.setTop (own_f3 m 341 av bv cv fl kb kc 0 0 1 li qa qb qc 1 (fl &&& (3 : Int32)) ((fl >>> ((4 : Int32) &&& 31)) &&& (3 : Int32)) [(.ref li)]))
    obtain ⟨cq3, kq3, q3a, q3b, q3c⟩ := isOf hZ ec E_li
    obtain ⟨_, _, ⟨T3, L3, k3, n3⟩, -, X3, ⟨Lc3, hQ3, l3, y3, z3⟩, st3⟩ := Xc.virtualBack hx (y := (⟨"com/example/matchstone/matchstone/LevelIndex", "best", "()Lcom/example/matchstone/matchstone/PriceLevel;"⟩ : MethodName)) (z := (⟨"com/example/matchstone/matchstone/LevelIndex", "best", "()Lcom/example/matchstone/matchstone/PriceLevel;"⟩ : MethodName)) hown (mvT hZ (hw _ (List.mem_of_getElem? (i := 84) rfl))) (mvT hZ (hw _ (List.mem_of_getElem? (i := 85) rfl))) (notFace_of_selects (args := #[]) (mvT hZ (hw _ (List.mem_of_getElem? (i := 87) rfl)))) (mvT hZ (hw _ (List.mem_of_getElem? (i := 87) rfl))) (mvT hZ (hw _ (List.mem_of_getElem? (i := 86) rfl))) (by decide) (backOf (W := 0) (rm13 l Z a0 hw [] li nd lr gl (1 : Int32) 0 hc n0 Zc F_last_li F_levels_nd F_size_nd R_lr (by decide) (by decide)) hZ (hw _ (List.mem_of_getElem? (i := 88) rfl)) (hw _ (List.mem_of_getElem? (i := 2) rfl)) (by decide) (by decide)) q3a q3c (g := (own_f3 m 341 av bv cv fl kb kc 0 0 1 li qa qb qc 1 (fl &&& (3 : Int32)) ((fl >>> ((4 : Int32) &&& 31)) &&& (3 : Int32)) [(.ref li)])) rfl (by rw [hml]; rfl) (Steps.refl _) (argsL := []) (rest := []) (lenOf pd_0_0 rfl) rfl (by show 2 * 0 + _ ≤ _; exact Nat.le_of_eq rfl) (hb hby at_341) (fun _ _ => ⟨rfl, ec, (by decide : 7 + 0 ≤ _), (by decide : 164 + 0 ≤ _)⟩)
    dsimp only [Pt.U, Pt.locs, Pt.cells, Pt.slots] at X3 l3 y3 z3 st3 hQ3
    subst l3 y3 z3
    obtain ⟨rfl, N3q, K3q⟩ := hQ3
    have N3 := Fr.app Nc N3q
    refine Go.step (fun t k => st3.trans k) ?_
    show Go _ _ _ _ _ _ _ (T3.setTop (own_f3 m 344 av bv cv fl kb kc 0 0 1 li qa qb qc 1 (fl &&& (3 : Int32)) ((fl >>> ((4 : Int32) &&& 31)) &&& (3 : Int32)) [(gl 0)]))
    refine Go.step (fun t k => XS.iload X3.here hx rfl (hb hby at_344) rfl (XS.lloadN X3.here hx rfl (hb hby at_346) rfl (XS.aload X3.here hx rfl (hb hby at_347) rfl rfl (XS.iload X3.here hx rfl (hb hby at_349) rfl (XS.lload X3.here hx rfl (hb hby at_351) rfl (XS.aload X3.here hx rfl (hb hby at_353) rfl rfl (XS.iload X3.here hx rfl (hb hby at_355) rfl (XS.lload X3.here hx rfl (hb hby at_357) rfl (XS.aload X3.here hx rfl (hb hby at_359) rfl rfl k))))))))) ?_
    show Go _ _ _ _ _ _ _ (T3.setTop (own_f3 m 361 av bv cv fl kb kc 0 0 1 li qa qb qc 1 (fl &&& (3 : Int32)) ((fl >>> ((4 : Int32) &&& 31)) &&& (3 : Int32)) [(.ref qc), (.long kc), (.int (1 : Int32)), (.ref qb), (.long kb), (.int (0 : Int32)), (.ref qa), (.long av), (.int (0 : Int32)), (gl 0)]))
    obtain ⟨_, _, ⟨T4, L4, k4, n4⟩, -, X4, ⟨Lc4, hQ4, l4, y4, z4⟩, st4⟩ := Jvm.LawKit.callS X3 hx (y := (⟨"com/example/matchstone/matchstone/LevelIndexBestPinLaw", "expected", "(ZJLcom/example/matchstone/matchstone/PriceLevel;ZJLcom/example/matchstone/matchstone/PriceLevel;ZJLcom/example/matchstone/matchstone/PriceLevel;)Lcom/example/matchstone/matchstone/PriceLevel;"⟩ : MethodName)) hown (mvT hZ (hw _ (List.mem_of_getElem? (i := 89) rfl))) (mvT hZ (hw _ (List.mem_of_getElem? (i := 90) rfl))) (mvT hZ (hw _ (List.mem_of_getElem? (i := 91) rfl))) (mvT hZ (hw _ (List.mem_of_getElem? (i := 92) rfl))) (by decide) (backOf (W := 1) (rm14 l Z a0 hw [] (0 : Int32) av qa (0 : Int32) kb qb (1 : Int32) kc qc false false true hc n0 Zc (Or.inl ⟨rfl, rfl⟩) (Or.inl ⟨rfl, rfl⟩) (Or.inr ⟨rfl, rfl⟩)) hZ (hw _ (List.mem_of_getElem? (i := 92) rfl)) (hw _ (List.mem_of_getElem? (i := 91) rfl)) (by decide) (by decide)) (g := (own_f3 m 361 av bv cv fl kb kc 0 0 1 li qa qb qc 1 (fl &&& (3 : Int32)) ((fl >>> ((4 : Int32) &&& 31)) &&& (3 : Int32)) [(.ref qc), (.long kc), (.int (1 : Int32)), (.ref qb), (.long kb), (.int (0 : Int32)), (.ref qa), (.long av), (.int (0 : Int32)), (gl 0)])) rfl (by rw [hml]; rfl) (argsL := [(.int (0 : Int32)), (.long av), (.ref qa), (.int (0 : Int32)), (.long kb), (.ref qb), (.int (1 : Int32)), (.long kc), (.ref qc)]) (rest := [(gl 0)]) (lenOf pd_0_1 rfl) rfl (by show 2 * 0 + _ ≤ _; exact own_w1 (RAr.ref R_lr (by decide))) (hb hby at_361) (fun _ _ => ⟨rfl, K3q, (by decide : 7 + 0 ≤ _), (by decide : 164 + 0 ≤ _)⟩)
    dsimp only [Pt.U, Pt.locs, Pt.cells, Pt.slots] at X4 l4 y4 z4 st4 hQ4
    subst l4 y4 z4
    obtain ⟨vv_4, rfl, N4q, K4q, o4_hvr, o4_hG⟩ := hQ4
    have N4 := Fr.app N3 N4q
    refine Go.step st4 ?_
    show Go _ _ _ _ _ _ _ (T4.setTop (own_f3 m 364 av bv cv fl kb kc 0 0 1 li qa qb qc 1 (fl &&& (3 : Int32)) ((fl >>> ((4 : Int32) &&& 31)) &&& (3 : Int32)) [vv_4, (gl 0)]))
    refine Go.step (fun t k => Jvm.RoadKit.acmp (g := (own_f3 m 364 av bv cv fl kb kc 0 0 1 li qa qb qc 1 (fl &&& (3 : Int32)) ((fl >>> ((4 : Int32) &&& 31)) &&& (3 : Int32)) [vv_4, (gl 0)])) X4 hx rfl (RAr.ref R_lr (by decide)) o4_hvr (pc0 := 364) (pc' := 367) (same := true) rfl (hb hby at_364) rfl (decide_eq_true (own_X1 (n := 0) hI o4_hG (by decide))) (by decide) (by decide) k) ?_
    show Go _ _ _ _ _ _ _ (T4.setTop (own_f3 m 367 av bv cv fl kb kc 0 0 1 li qa qb qc 1 (fl &&& (3 : Int32)) ((fl >>> ((4 : Int32) &&& 31)) &&& (3 : Int32)) []))
    refine Go.step (fun t k => XS.iconst X4.here hx rfl (hb hby at_367) k) ?_
    show Go _ _ _ _ _ _ _ (T4.setTop (own_f3 m 368 av bv cv fl kb kc 0 0 1 li qa qb qc 1 (fl &&& (3 : Int32)) ((fl >>> ((4 : Int32) &&& 31)) &&& (3 : Int32)) [(.int (1 : Int32))]))
    refine Go.step (fun t k => XS.goto X4.here hx rfl (pc0 := 368) (pc' := 372) rfl (hb hby at_368) (by decide) (by decide) (XS.istore X4.here hx rfl (hb hby at_372) rfl (l' := #[.val (.long av), .second, .val (.long bv), .second, .val (.long cv), .second, .val (.int fl), .val (.long kb), .second, .val (.long kc), .second, .val (.int (0 : Int32)), .val (.int (0 : Int32)), .val (.int (1 : Int32)), .val (.ref li), .val (.ref qa), .val (.ref qb), .val (.ref qc), .val (.int (1 : Int32)), .val (.int (fl &&& (3 : Int32))), .val (.int ((fl >>> ((4 : Int32) &&& 31)) &&& (3 : Int32))), .val (.int (1 : Int32))]) rfl (XS.iload X4.here hx rfl (hb hby at_374) rfl k))) ?_
    show Go _ _ _ _ _ _ _ (T4.setTop (own_f4 m 376 av bv cv fl kb kc 0 0 1 li qa qb qc 1 (fl &&& (3 : Int32)) ((fl >>> ((4 : Int32) &&& 31)) &&& (3 : Int32)) 1 [(.int (1 : Int32))]))
    refine Go.step (fun t k => XS.ifNo X4.here hx rfl (hb hby at_376) rfl ((if0 _ _).trans (feq (by decide : ¬ (1 : Int32) = (0 : Int32))).1) k) ?_
    show Go _ _ _ _ _ _ _ (T4.setTop (own_f4 m 379 av bv cv fl kb kc 0 0 1 li qa qb qc 1 (fl &&& (3 : Int32)) ((fl >>> ((4 : Int32) &&& 31)) &&& (3 : Int32)) 1 []))
    refine Go.step (fun t k => XS.iload X4.here hx rfl (hb hby at_379) rfl k) ?_
    show Go _ _ _ _ _ _ _ (T4.setTop (own_f4 m 381 av bv cv fl kb kc 0 0 1 li qa qb qc 1 (fl &&& (3 : Int32)) ((fl >>> ((4 : Int32) &&& 31)) &&& (3 : Int32)) 1 [(.int (1 : Int32))]))
    refine Go.step (fun t k => XS.ifNo X4.here hx rfl (hb hby at_381) rfl ((if0 _ _).trans (feq (by decide : ¬ (1 : Int32) = (0 : Int32))).1) k) ?_
    show Go _ _ _ _ _ _ _ (T4.setTop (own_f4 m 384 av bv cv fl kb kc 0 0 1 li qa qb qc 1 (fl &&& (3 : Int32)) ((fl >>> ((4 : Int32) &&& 31)) &&& (3 : Int32)) 1 []))
    refine Go.step (fun t k => XS.iconst X4.here hx rfl (hb hby at_384) k) ?_
    show Go _ _ _ _ _ _ _ (T4.setTop (own_f4 m 385 av bv cv fl kb kc 0 0 1 li qa qb qc 1 (fl &&& (3 : Int32)) ((fl >>> ((4 : Int32) &&& 31)) &&& (3 : Int32)) 1 [(.int (1 : Int32))]))
    refine Go.step (fun t k => XS.goto X4.here hx rfl (pc0 := 385) (pc' := 389) rfl (hb hby at_385) (by decide) (by decide) k) ?_
    show Go _ _ _ _ _ _ _ (T4.setTop (own_f4 m 389 av bv cv fl kb kc 0 0 1 li qa qb qc 1 (fl &&& (3 : Int32)) ((fl >>> ((4 : Int32) &&& 31)) &&& (3 : Int32)) 1 [(.int (1 : Int32))]))
    refine Go.retN X4 Bd.notSynchronized hx (t := .boolean) Bd.returns (by simp) (hb hby at_389) (by decide) (by decide) (1 : Int32) rfl ?_
    rw [K4q]
    exact ⟨rfl, N4⟩
  have L339_010 : ∀ (Tc : State) (hc : Heap) (lc : List Loc) (kb : Int64) (kc : Int64) (li : Addr) (qa : Addr) (qb : Addr) (qc : Addr) (nd : Addr) (kr : Addr) (lr : Addr) (gk : Nat → Int64) (gl : Nat → Value) (aw : Value), (Stand p l e room_1 s m #[(.long av), (.long bv), (.long cv), (.int fl)] below meth c Tc lc 7 164) → (Tc.heap = hc) → (Fr n0 lc) → (n0 ≤ hc.size) → (Fld Z hc li "com/example/matchstone/matchstone/LevelIndex" "last" "Lcom/example/matchstone/matchstone/LevelIndex$Node;" (.ref nd)) → (Exa Z hc li "com/example/matchstone/matchstone/LevelIndex") → (Fld Z hc nd "com/example/matchstone/matchstone/LevelIndex$Node" "keys" "[J" (.ref kr)) → (Fld Z hc nd "com/example/matchstone/matchstone/LevelIndex$Node" "levels" "[Lcom/example/matchstone/matchstone/PriceLevel;" (.ref lr)) → (Fld Z hc nd "com/example/matchstone/matchstone/LevelIndex$Node" "size" "I" (.int (1 : Int32))) → (RAr Z hc lr "com/example/matchstone/matchstone/PriceLevel" 65 gl) → (own_I 1 gk gl false true false av kb kc qa qb qc) → Go p e below s (Q0 Z av bv cv fl h0 n0) 32 704 (Tc.setTop (own_f3 m 339 av bv cv fl kb kc 0 1 0 li qa qb qc 1 (fl &&& (3 : Int32)) ((fl >>> ((4 : Int32) &&& 31)) &&& (3 : Int32)) [])) := by
    intro Tc hc lc kb kc li qa qb qc nd kr lr gk gl aw Xc ec Nc Zc F_last_li E_li F_keys_nd F_levels_nd F_size_nd R_lr hI
    show Go _ _ _ _ _ _ _ (Tc.setTop (own_f3 m 339 av bv cv fl kb kc 0 1 0 li qa qb qc 1 (fl &&& (3 : Int32)) ((fl >>> ((4 : Int32) &&& 31)) &&& (3 : Int32)) []))
    refine Go.step (fun t k => XS.aload Xc.here hx rfl (hb hby at_339) rfl rfl k) ?_
    show Go _ _ _ _ _ _ _ (Tc.setTop (own_f3 m 341 av bv cv fl kb kc 0 1 0 li qa qb qc 1 (fl &&& (3 : Int32)) ((fl >>> ((4 : Int32) &&& 31)) &&& (3 : Int32)) [(.ref li)]))
    obtain ⟨cq5, kq5, q5a, q5b, q5c⟩ := isOf hZ ec E_li
    obtain ⟨_, _, ⟨T5, L5, k5, n5⟩, -, X5, ⟨Lc5, hQ5, l5, y5, z5⟩, st5⟩ := Xc.virtualBack hx (y := (⟨"com/example/matchstone/matchstone/LevelIndex", "best", "()Lcom/example/matchstone/matchstone/PriceLevel;"⟩ : MethodName)) (z := (⟨"com/example/matchstone/matchstone/LevelIndex", "best", "()Lcom/example/matchstone/matchstone/PriceLevel;"⟩ : MethodName)) hown (mvT hZ (hw _ (List.mem_of_getElem? (i := 84) rfl))) (mvT hZ (hw _ (List.mem_of_getElem? (i := 85) rfl))) (notFace_of_selects (args := #[]) (mvT hZ (hw _ (List.mem_of_getElem? (i := 87) rfl)))) (mvT hZ (hw _ (List.mem_of_getElem? (i := 87) rfl))) (mvT hZ (hw _ (List.mem_of_getElem? (i := 86) rfl))) (by decide) (backOf (W := 0) (rm13 l Z a0 hw [] li nd lr gl (1 : Int32) 0 hc n0 Zc F_last_li F_levels_nd F_size_nd R_lr (by decide) (by decide)) hZ (hw _ (List.mem_of_getElem? (i := 88) rfl)) (hw _ (List.mem_of_getElem? (i := 2) rfl)) (by decide) (by decide)) q5a q5c (g := (own_f3 m 341 av bv cv fl kb kc 0 1 0 li qa qb qc 1 (fl &&& (3 : Int32)) ((fl >>> ((4 : Int32) &&& 31)) &&& (3 : Int32)) [(.ref li)])) rfl (by rw [hml]; rfl) (Steps.refl _) (argsL := []) (rest := []) (lenOf pd_0_0 rfl) rfl (by show 2 * 0 + _ ≤ _; exact Nat.le_of_eq rfl) (hb hby at_341) (fun _ _ => ⟨rfl, ec, (by decide : 7 + 0 ≤ _), (by decide : 164 + 0 ≤ _)⟩)
    dsimp only [Pt.U, Pt.locs, Pt.cells, Pt.slots] at X5 l5 y5 z5 st5 hQ5
    subst l5 y5 z5
    obtain ⟨rfl, N5q, K5q⟩ := hQ5
    have N5 := Fr.app Nc N5q
    refine Go.step (fun t k => st5.trans k) ?_
    show Go _ _ _ _ _ _ _ (T5.setTop (own_f3 m 344 av bv cv fl kb kc 0 1 0 li qa qb qc 1 (fl &&& (3 : Int32)) ((fl >>> ((4 : Int32) &&& 31)) &&& (3 : Int32)) [(gl 0)]))
    refine Go.step (fun t k => XS.iload X5.here hx rfl (hb hby at_344) rfl (XS.lloadN X5.here hx rfl (hb hby at_346) rfl (XS.aload X5.here hx rfl (hb hby at_347) rfl rfl (XS.iload X5.here hx rfl (hb hby at_349) rfl (XS.lload X5.here hx rfl (hb hby at_351) rfl (XS.aload X5.here hx rfl (hb hby at_353) rfl rfl (XS.iload X5.here hx rfl (hb hby at_355) rfl (XS.lload X5.here hx rfl (hb hby at_357) rfl (XS.aload X5.here hx rfl (hb hby at_359) rfl rfl k))))))))) ?_
    show Go _ _ _ _ _ _ _ (T5.setTop (own_f3 m 361 av bv cv fl kb kc 0 1 0 li qa qb qc 1 (fl &&& (3 : Int32)) ((fl >>> ((4 : Int32) &&& 31)) &&& (3 : Int32)) [(.ref qc), (.long kc), (.int (0 : Int32)), (.ref qb), (.long kb), (.int (1 : Int32)), (.ref qa), (.long av), (.int (0 : Int32)), (gl 0)]))
    obtain ⟨_, _, ⟨T6, L6, k6, n6⟩, -, X6, ⟨Lc6, hQ6, l6, y6, z6⟩, st6⟩ := Jvm.LawKit.callS X5 hx (y := (⟨"com/example/matchstone/matchstone/LevelIndexBestPinLaw", "expected", "(ZJLcom/example/matchstone/matchstone/PriceLevel;ZJLcom/example/matchstone/matchstone/PriceLevel;ZJLcom/example/matchstone/matchstone/PriceLevel;)Lcom/example/matchstone/matchstone/PriceLevel;"⟩ : MethodName)) hown (mvT hZ (hw _ (List.mem_of_getElem? (i := 89) rfl))) (mvT hZ (hw _ (List.mem_of_getElem? (i := 90) rfl))) (mvT hZ (hw _ (List.mem_of_getElem? (i := 91) rfl))) (mvT hZ (hw _ (List.mem_of_getElem? (i := 92) rfl))) (by decide) (backOf (W := 1) (rm14 l Z a0 hw [] (0 : Int32) av qa (1 : Int32) kb qb (0 : Int32) kc qc false true false hc n0 Zc (Or.inl ⟨rfl, rfl⟩) (Or.inr ⟨rfl, rfl⟩) (Or.inl ⟨rfl, rfl⟩)) hZ (hw _ (List.mem_of_getElem? (i := 92) rfl)) (hw _ (List.mem_of_getElem? (i := 91) rfl)) (by decide) (by decide)) (g := (own_f3 m 361 av bv cv fl kb kc 0 1 0 li qa qb qc 1 (fl &&& (3 : Int32)) ((fl >>> ((4 : Int32) &&& 31)) &&& (3 : Int32)) [(.ref qc), (.long kc), (.int (0 : Int32)), (.ref qb), (.long kb), (.int (1 : Int32)), (.ref qa), (.long av), (.int (0 : Int32)), (gl 0)])) rfl (by rw [hml]; rfl) (argsL := [(.int (0 : Int32)), (.long av), (.ref qa), (.int (1 : Int32)), (.long kb), (.ref qb), (.int (0 : Int32)), (.long kc), (.ref qc)]) (rest := [(gl 0)]) (lenOf pd_0_1 rfl) rfl (by show 2 * 0 + _ ≤ _; exact own_w1 (RAr.ref R_lr (by decide))) (hb hby at_361) (fun _ _ => ⟨rfl, K5q, (by decide : 7 + 0 ≤ _), (by decide : 164 + 0 ≤ _)⟩)
    dsimp only [Pt.U, Pt.locs, Pt.cells, Pt.slots] at X6 l6 y6 z6 st6 hQ6
    subst l6 y6 z6
    obtain ⟨vv_6, rfl, N6q, K6q, o6_hvr, o6_hG⟩ := hQ6
    have N6 := Fr.app N5 N6q
    refine Go.step st6 ?_
    show Go _ _ _ _ _ _ _ (T6.setTop (own_f3 m 364 av bv cv fl kb kc 0 1 0 li qa qb qc 1 (fl &&& (3 : Int32)) ((fl >>> ((4 : Int32) &&& 31)) &&& (3 : Int32)) [vv_6, (gl 0)]))
    refine Go.step (fun t k => Jvm.RoadKit.acmp (g := (own_f3 m 364 av bv cv fl kb kc 0 1 0 li qa qb qc 1 (fl &&& (3 : Int32)) ((fl >>> ((4 : Int32) &&& 31)) &&& (3 : Int32)) [vv_6, (gl 0)])) X6 hx rfl (RAr.ref R_lr (by decide)) o6_hvr (pc0 := 364) (pc' := 367) (same := true) rfl (hb hby at_364) rfl (decide_eq_true (own_X1 (n := 0) hI o6_hG (by decide))) (by decide) (by decide) k) ?_
    show Go _ _ _ _ _ _ _ (T6.setTop (own_f3 m 367 av bv cv fl kb kc 0 1 0 li qa qb qc 1 (fl &&& (3 : Int32)) ((fl >>> ((4 : Int32) &&& 31)) &&& (3 : Int32)) []))
    refine Go.step (fun t k => XS.iconst X6.here hx rfl (hb hby at_367) k) ?_
    show Go _ _ _ _ _ _ _ (T6.setTop (own_f3 m 368 av bv cv fl kb kc 0 1 0 li qa qb qc 1 (fl &&& (3 : Int32)) ((fl >>> ((4 : Int32) &&& 31)) &&& (3 : Int32)) [(.int (1 : Int32))]))
    refine Go.step (fun t k => XS.goto X6.here hx rfl (pc0 := 368) (pc' := 372) rfl (hb hby at_368) (by decide) (by decide) (XS.istore X6.here hx rfl (hb hby at_372) rfl (l' := #[.val (.long av), .second, .val (.long bv), .second, .val (.long cv), .second, .val (.int fl), .val (.long kb), .second, .val (.long kc), .second, .val (.int (0 : Int32)), .val (.int (1 : Int32)), .val (.int (0 : Int32)), .val (.ref li), .val (.ref qa), .val (.ref qb), .val (.ref qc), .val (.int (1 : Int32)), .val (.int (fl &&& (3 : Int32))), .val (.int ((fl >>> ((4 : Int32) &&& 31)) &&& (3 : Int32))), .val (.int (1 : Int32))]) rfl (XS.iload X6.here hx rfl (hb hby at_374) rfl k))) ?_
    show Go _ _ _ _ _ _ _ (T6.setTop (own_f4 m 376 av bv cv fl kb kc 0 1 0 li qa qb qc 1 (fl &&& (3 : Int32)) ((fl >>> ((4 : Int32) &&& 31)) &&& (3 : Int32)) 1 [(.int (1 : Int32))]))
    refine Go.step (fun t k => XS.ifNo X6.here hx rfl (hb hby at_376) rfl ((if0 _ _).trans (feq (by decide : ¬ (1 : Int32) = (0 : Int32))).1) k) ?_
    show Go _ _ _ _ _ _ _ (T6.setTop (own_f4 m 379 av bv cv fl kb kc 0 1 0 li qa qb qc 1 (fl &&& (3 : Int32)) ((fl >>> ((4 : Int32) &&& 31)) &&& (3 : Int32)) 1 []))
    refine Go.step (fun t k => XS.iload X6.here hx rfl (hb hby at_379) rfl k) ?_
    show Go _ _ _ _ _ _ _ (T6.setTop (own_f4 m 381 av bv cv fl kb kc 0 1 0 li qa qb qc 1 (fl &&& (3 : Int32)) ((fl >>> ((4 : Int32) &&& 31)) &&& (3 : Int32)) 1 [(.int (1 : Int32))]))
    refine Go.step (fun t k => XS.ifNo X6.here hx rfl (hb hby at_381) rfl ((if0 _ _).trans (feq (by decide : ¬ (1 : Int32) = (0 : Int32))).1) k) ?_
    show Go _ _ _ _ _ _ _ (T6.setTop (own_f4 m 384 av bv cv fl kb kc 0 1 0 li qa qb qc 1 (fl &&& (3 : Int32)) ((fl >>> ((4 : Int32) &&& 31)) &&& (3 : Int32)) 1 []))
    refine Go.step (fun t k => XS.iconst X6.here hx rfl (hb hby at_384) k) ?_
    show Go _ _ _ _ _ _ _ (T6.setTop (own_f4 m 385 av bv cv fl kb kc 0 1 0 li qa qb qc 1 (fl &&& (3 : Int32)) ((fl >>> ((4 : Int32) &&& 31)) &&& (3 : Int32)) 1 [(.int (1 : Int32))]))
    refine Go.step (fun t k => XS.goto X6.here hx rfl (pc0 := 385) (pc' := 389) rfl (hb hby at_385) (by decide) (by decide) k) ?_
    show Go _ _ _ _ _ _ _ (T6.setTop (own_f4 m 389 av bv cv fl kb kc 0 1 0 li qa qb qc 1 (fl &&& (3 : Int32)) ((fl >>> ((4 : Int32) &&& 31)) &&& (3 : Int32)) 1 [(.int (1 : Int32))]))
    refine Go.retN X6 Bd.notSynchronized hx (t := .boolean) Bd.returns (by simp) (hb hby at_389) (by decide) (by decide) (1 : Int32) rfl ?_
    rw [K6q]
    exact ⟨rfl, N6⟩
  have L339_011 : ∀ (Tc : State) (hc : Heap) (lc : List Loc) (kb : Int64) (kc : Int64) (li : Addr) (qa : Addr) (qb : Addr) (qc : Addr) (nd : Addr) (kr : Addr) (lr : Addr) (gk : Nat → Int64) (gl : Nat → Value) (aw : Value), (Stand p l e room_1 s m #[(.long av), (.long bv), (.long cv), (.int fl)] below meth c Tc lc 7 164) → (Tc.heap = hc) → (Fr n0 lc) → (n0 ≤ hc.size) → (Fld Z hc li "com/example/matchstone/matchstone/LevelIndex" "last" "Lcom/example/matchstone/matchstone/LevelIndex$Node;" (.ref nd)) → (Exa Z hc li "com/example/matchstone/matchstone/LevelIndex") → (Fld Z hc nd "com/example/matchstone/matchstone/LevelIndex$Node" "keys" "[J" (.ref kr)) → (Fld Z hc nd "com/example/matchstone/matchstone/LevelIndex$Node" "levels" "[Lcom/example/matchstone/matchstone/PriceLevel;" (.ref lr)) → (Fld Z hc nd "com/example/matchstone/matchstone/LevelIndex$Node" "size" "I" (.int (2 : Int32))) → (RAr Z hc lr "com/example/matchstone/matchstone/PriceLevel" 65 gl) → (own_I 2 gk gl false true true av kb kc qa qb qc) → Go p e below s (Q0 Z av bv cv fl h0 n0) 32 704 (Tc.setTop (own_f3 m 339 av bv cv fl kb kc 0 1 1 li qa qb qc 1 (fl &&& (3 : Int32)) ((fl >>> ((4 : Int32) &&& 31)) &&& (3 : Int32)) [])) := by
    intro Tc hc lc kb kc li qa qb qc nd kr lr gk gl aw Xc ec Nc Zc F_last_li E_li F_keys_nd F_levels_nd F_size_nd R_lr hI
    show Go _ _ _ _ _ _ _ (Tc.setTop (own_f3 m 339 av bv cv fl kb kc 0 1 1 li qa qb qc 1 (fl &&& (3 : Int32)) ((fl >>> ((4 : Int32) &&& 31)) &&& (3 : Int32)) []))
    refine Go.step (fun t k => XS.aload Xc.here hx rfl (hb hby at_339) rfl rfl k) ?_
    show Go _ _ _ _ _ _ _ (Tc.setTop (own_f3 m 341 av bv cv fl kb kc 0 1 1 li qa qb qc 1 (fl &&& (3 : Int32)) ((fl >>> ((4 : Int32) &&& 31)) &&& (3 : Int32)) [(.ref li)]))
    obtain ⟨cq7, kq7, q7a, q7b, q7c⟩ := isOf hZ ec E_li
    obtain ⟨_, _, ⟨T7, L7, k7, n7⟩, -, X7, ⟨Lc7, hQ7, l7, y7, z7⟩, st7⟩ := Xc.virtualBack hx (y := (⟨"com/example/matchstone/matchstone/LevelIndex", "best", "()Lcom/example/matchstone/matchstone/PriceLevel;"⟩ : MethodName)) (z := (⟨"com/example/matchstone/matchstone/LevelIndex", "best", "()Lcom/example/matchstone/matchstone/PriceLevel;"⟩ : MethodName)) hown (mvT hZ (hw _ (List.mem_of_getElem? (i := 84) rfl))) (mvT hZ (hw _ (List.mem_of_getElem? (i := 85) rfl))) (notFace_of_selects (args := #[]) (mvT hZ (hw _ (List.mem_of_getElem? (i := 87) rfl)))) (mvT hZ (hw _ (List.mem_of_getElem? (i := 87) rfl))) (mvT hZ (hw _ (List.mem_of_getElem? (i := 86) rfl))) (by decide) (backOf (W := 0) (rm13 l Z a0 hw [] li nd lr gl (2 : Int32) 1 hc n0 Zc F_last_li F_levels_nd F_size_nd R_lr (by decide) (by decide)) hZ (hw _ (List.mem_of_getElem? (i := 88) rfl)) (hw _ (List.mem_of_getElem? (i := 2) rfl)) (by decide) (by decide)) q7a q7c (g := (own_f3 m 341 av bv cv fl kb kc 0 1 1 li qa qb qc 1 (fl &&& (3 : Int32)) ((fl >>> ((4 : Int32) &&& 31)) &&& (3 : Int32)) [(.ref li)])) rfl (by rw [hml]; rfl) (Steps.refl _) (argsL := []) (rest := []) (lenOf pd_0_0 rfl) rfl (by show 2 * 0 + _ ≤ _; exact Nat.le_of_eq rfl) (hb hby at_341) (fun _ _ => ⟨rfl, ec, (by decide : 7 + 0 ≤ _), (by decide : 164 + 0 ≤ _)⟩)
    dsimp only [Pt.U, Pt.locs, Pt.cells, Pt.slots] at X7 l7 y7 z7 st7 hQ7
    subst l7 y7 z7
    obtain ⟨rfl, N7q, K7q⟩ := hQ7
    have N7 := Fr.app Nc N7q
    refine Go.step (fun t k => st7.trans k) ?_
    show Go _ _ _ _ _ _ _ (T7.setTop (own_f3 m 344 av bv cv fl kb kc 0 1 1 li qa qb qc 1 (fl &&& (3 : Int32)) ((fl >>> ((4 : Int32) &&& 31)) &&& (3 : Int32)) [(gl 1)]))
    refine Go.step (fun t k => XS.iload X7.here hx rfl (hb hby at_344) rfl (XS.lloadN X7.here hx rfl (hb hby at_346) rfl (XS.aload X7.here hx rfl (hb hby at_347) rfl rfl (XS.iload X7.here hx rfl (hb hby at_349) rfl (XS.lload X7.here hx rfl (hb hby at_351) rfl (XS.aload X7.here hx rfl (hb hby at_353) rfl rfl (XS.iload X7.here hx rfl (hb hby at_355) rfl (XS.lload X7.here hx rfl (hb hby at_357) rfl (XS.aload X7.here hx rfl (hb hby at_359) rfl rfl k))))))))) ?_
    show Go _ _ _ _ _ _ _ (T7.setTop (own_f3 m 361 av bv cv fl kb kc 0 1 1 li qa qb qc 1 (fl &&& (3 : Int32)) ((fl >>> ((4 : Int32) &&& 31)) &&& (3 : Int32)) [(.ref qc), (.long kc), (.int (1 : Int32)), (.ref qb), (.long kb), (.int (1 : Int32)), (.ref qa), (.long av), (.int (0 : Int32)), (gl 1)]))
    obtain ⟨_, _, ⟨T8, L8, k8, n8⟩, -, X8, ⟨Lc8, hQ8, l8, y8, z8⟩, st8⟩ := Jvm.LawKit.callS X7 hx (y := (⟨"com/example/matchstone/matchstone/LevelIndexBestPinLaw", "expected", "(ZJLcom/example/matchstone/matchstone/PriceLevel;ZJLcom/example/matchstone/matchstone/PriceLevel;ZJLcom/example/matchstone/matchstone/PriceLevel;)Lcom/example/matchstone/matchstone/PriceLevel;"⟩ : MethodName)) hown (mvT hZ (hw _ (List.mem_of_getElem? (i := 89) rfl))) (mvT hZ (hw _ (List.mem_of_getElem? (i := 90) rfl))) (mvT hZ (hw _ (List.mem_of_getElem? (i := 91) rfl))) (mvT hZ (hw _ (List.mem_of_getElem? (i := 92) rfl))) (by decide) (backOf (W := 1) (rm14 l Z a0 hw [] (0 : Int32) av qa (1 : Int32) kb qb (1 : Int32) kc qc false true true hc n0 Zc (Or.inl ⟨rfl, rfl⟩) (Or.inr ⟨rfl, rfl⟩) (Or.inr ⟨rfl, rfl⟩)) hZ (hw _ (List.mem_of_getElem? (i := 92) rfl)) (hw _ (List.mem_of_getElem? (i := 91) rfl)) (by decide) (by decide)) (g := (own_f3 m 361 av bv cv fl kb kc 0 1 1 li qa qb qc 1 (fl &&& (3 : Int32)) ((fl >>> ((4 : Int32) &&& 31)) &&& (3 : Int32)) [(.ref qc), (.long kc), (.int (1 : Int32)), (.ref qb), (.long kb), (.int (1 : Int32)), (.ref qa), (.long av), (.int (0 : Int32)), (gl 1)])) rfl (by rw [hml]; rfl) (argsL := [(.int (0 : Int32)), (.long av), (.ref qa), (.int (1 : Int32)), (.long kb), (.ref qb), (.int (1 : Int32)), (.long kc), (.ref qc)]) (rest := [(gl 1)]) (lenOf pd_0_1 rfl) rfl (by show 2 * 0 + _ ≤ _; exact own_w1 (RAr.ref R_lr (by decide))) (hb hby at_361) (fun _ _ => ⟨rfl, K7q, (by decide : 7 + 0 ≤ _), (by decide : 164 + 0 ≤ _)⟩)
    dsimp only [Pt.U, Pt.locs, Pt.cells, Pt.slots] at X8 l8 y8 z8 st8 hQ8
    subst l8 y8 z8
    obtain ⟨vv_8, rfl, N8q, K8q, o8_hvr, o8_hG⟩ := hQ8
    have N8 := Fr.app N7 N8q
    refine Go.step st8 ?_
    show Go _ _ _ _ _ _ _ (T8.setTop (own_f3 m 364 av bv cv fl kb kc 0 1 1 li qa qb qc 1 (fl &&& (3 : Int32)) ((fl >>> ((4 : Int32) &&& 31)) &&& (3 : Int32)) [vv_8, (gl 1)]))
    refine Go.step (fun t k => Jvm.RoadKit.acmp (g := (own_f3 m 364 av bv cv fl kb kc 0 1 1 li qa qb qc 1 (fl &&& (3 : Int32)) ((fl >>> ((4 : Int32) &&& 31)) &&& (3 : Int32)) [vv_8, (gl 1)])) X8 hx rfl (RAr.ref R_lr (by decide)) o8_hvr (pc0 := 364) (pc' := 367) (same := true) rfl (hb hby at_364) rfl (decide_eq_true (own_X1 (n := 1) hI o8_hG (by decide))) (by decide) (by decide) k) ?_
    show Go _ _ _ _ _ _ _ (T8.setTop (own_f3 m 367 av bv cv fl kb kc 0 1 1 li qa qb qc 1 (fl &&& (3 : Int32)) ((fl >>> ((4 : Int32) &&& 31)) &&& (3 : Int32)) []))
    refine Go.step (fun t k => XS.iconst X8.here hx rfl (hb hby at_367) k) ?_
    show Go _ _ _ _ _ _ _ (T8.setTop (own_f3 m 368 av bv cv fl kb kc 0 1 1 li qa qb qc 1 (fl &&& (3 : Int32)) ((fl >>> ((4 : Int32) &&& 31)) &&& (3 : Int32)) [(.int (1 : Int32))]))
    refine Go.step (fun t k => XS.goto X8.here hx rfl (pc0 := 368) (pc' := 372) rfl (hb hby at_368) (by decide) (by decide) (XS.istore X8.here hx rfl (hb hby at_372) rfl (l' := #[.val (.long av), .second, .val (.long bv), .second, .val (.long cv), .second, .val (.int fl), .val (.long kb), .second, .val (.long kc), .second, .val (.int (0 : Int32)), .val (.int (1 : Int32)), .val (.int (1 : Int32)), .val (.ref li), .val (.ref qa), .val (.ref qb), .val (.ref qc), .val (.int (1 : Int32)), .val (.int (fl &&& (3 : Int32))), .val (.int ((fl >>> ((4 : Int32) &&& 31)) &&& (3 : Int32))), .val (.int (1 : Int32))]) rfl (XS.iload X8.here hx rfl (hb hby at_374) rfl k))) ?_
    show Go _ _ _ _ _ _ _ (T8.setTop (own_f4 m 376 av bv cv fl kb kc 0 1 1 li qa qb qc 1 (fl &&& (3 : Int32)) ((fl >>> ((4 : Int32) &&& 31)) &&& (3 : Int32)) 1 [(.int (1 : Int32))]))
    refine Go.step (fun t k => XS.ifNo X8.here hx rfl (hb hby at_376) rfl ((if0 _ _).trans (feq (by decide : ¬ (1 : Int32) = (0 : Int32))).1) k) ?_
    show Go _ _ _ _ _ _ _ (T8.setTop (own_f4 m 379 av bv cv fl kb kc 0 1 1 li qa qb qc 1 (fl &&& (3 : Int32)) ((fl >>> ((4 : Int32) &&& 31)) &&& (3 : Int32)) 1 []))
    refine Go.step (fun t k => XS.iload X8.here hx rfl (hb hby at_379) rfl k) ?_
    show Go _ _ _ _ _ _ _ (T8.setTop (own_f4 m 381 av bv cv fl kb kc 0 1 1 li qa qb qc 1 (fl &&& (3 : Int32)) ((fl >>> ((4 : Int32) &&& 31)) &&& (3 : Int32)) 1 [(.int (1 : Int32))]))
    refine Go.step (fun t k => XS.ifNo X8.here hx rfl (hb hby at_381) rfl ((if0 _ _).trans (feq (by decide : ¬ (1 : Int32) = (0 : Int32))).1) k) ?_
    show Go _ _ _ _ _ _ _ (T8.setTop (own_f4 m 384 av bv cv fl kb kc 0 1 1 li qa qb qc 1 (fl &&& (3 : Int32)) ((fl >>> ((4 : Int32) &&& 31)) &&& (3 : Int32)) 1 []))
    refine Go.step (fun t k => XS.iconst X8.here hx rfl (hb hby at_384) k) ?_
    show Go _ _ _ _ _ _ _ (T8.setTop (own_f4 m 385 av bv cv fl kb kc 0 1 1 li qa qb qc 1 (fl &&& (3 : Int32)) ((fl >>> ((4 : Int32) &&& 31)) &&& (3 : Int32)) 1 [(.int (1 : Int32))]))
    refine Go.step (fun t k => XS.goto X8.here hx rfl (pc0 := 385) (pc' := 389) rfl (hb hby at_385) (by decide) (by decide) k) ?_
    show Go _ _ _ _ _ _ _ (T8.setTop (own_f4 m 389 av bv cv fl kb kc 0 1 1 li qa qb qc 1 (fl &&& (3 : Int32)) ((fl >>> ((4 : Int32) &&& 31)) &&& (3 : Int32)) 1 [(.int (1 : Int32))]))
    refine Go.retN X8 Bd.notSynchronized hx (t := .boolean) Bd.returns (by simp) (hb hby at_389) (by decide) (by decide) (1 : Int32) rfl ?_
    rw [K8q]
    exact ⟨rfl, N8⟩
  have L339_100 : ∀ (Tc : State) (hc : Heap) (lc : List Loc) (kb : Int64) (kc : Int64) (li : Addr) (qa : Addr) (qb : Addr) (qc : Addr) (nd : Addr) (kr : Addr) (lr : Addr) (gk : Nat → Int64) (gl : Nat → Value) (aw : Value), (Stand p l e room_1 s m #[(.long av), (.long bv), (.long cv), (.int fl)] below meth c Tc lc 7 164) → (Tc.heap = hc) → (Fr n0 lc) → (n0 ≤ hc.size) → (Fld Z hc li "com/example/matchstone/matchstone/LevelIndex" "last" "Lcom/example/matchstone/matchstone/LevelIndex$Node;" (.ref nd)) → (Exa Z hc li "com/example/matchstone/matchstone/LevelIndex") → (Fld Z hc nd "com/example/matchstone/matchstone/LevelIndex$Node" "keys" "[J" (.ref kr)) → (Fld Z hc nd "com/example/matchstone/matchstone/LevelIndex$Node" "levels" "[Lcom/example/matchstone/matchstone/PriceLevel;" (.ref lr)) → (Fld Z hc nd "com/example/matchstone/matchstone/LevelIndex$Node" "size" "I" (.int (1 : Int32))) → (RAr Z hc lr "com/example/matchstone/matchstone/PriceLevel" 65 gl) → (own_I 1 gk gl true false false av kb kc qa qb qc) → Go p e below s (Q0 Z av bv cv fl h0 n0) 32 704 (Tc.setTop (own_f3 m 339 av bv cv fl kb kc 1 0 0 li qa qb qc 1 (fl &&& (3 : Int32)) ((fl >>> ((4 : Int32) &&& 31)) &&& (3 : Int32)) [])) := by
    intro Tc hc lc kb kc li qa qb qc nd kr lr gk gl aw Xc ec Nc Zc F_last_li E_li F_keys_nd F_levels_nd F_size_nd R_lr hI
    show Go _ _ _ _ _ _ _ (Tc.setTop (own_f3 m 339 av bv cv fl kb kc 1 0 0 li qa qb qc 1 (fl &&& (3 : Int32)) ((fl >>> ((4 : Int32) &&& 31)) &&& (3 : Int32)) []))
    refine Go.step (fun t k => XS.aload Xc.here hx rfl (hb hby at_339) rfl rfl k) ?_
    show Go _ _ _ _ _ _ _ (Tc.setTop (own_f3 m 341 av bv cv fl kb kc 1 0 0 li qa qb qc 1 (fl &&& (3 : Int32)) ((fl >>> ((4 : Int32) &&& 31)) &&& (3 : Int32)) [(.ref li)]))
    obtain ⟨cq9, kq9, q9a, q9b, q9c⟩ := isOf hZ ec E_li
    obtain ⟨_, _, ⟨T9, L9, k9, n9⟩, -, X9, ⟨Lc9, hQ9, l9, y9, z9⟩, st9⟩ := Xc.virtualBack hx (y := (⟨"com/example/matchstone/matchstone/LevelIndex", "best", "()Lcom/example/matchstone/matchstone/PriceLevel;"⟩ : MethodName)) (z := (⟨"com/example/matchstone/matchstone/LevelIndex", "best", "()Lcom/example/matchstone/matchstone/PriceLevel;"⟩ : MethodName)) hown (mvT hZ (hw _ (List.mem_of_getElem? (i := 84) rfl))) (mvT hZ (hw _ (List.mem_of_getElem? (i := 85) rfl))) (notFace_of_selects (args := #[]) (mvT hZ (hw _ (List.mem_of_getElem? (i := 87) rfl)))) (mvT hZ (hw _ (List.mem_of_getElem? (i := 87) rfl))) (mvT hZ (hw _ (List.mem_of_getElem? (i := 86) rfl))) (by decide) (backOf (W := 0) (rm13 l Z a0 hw [] li nd lr gl (1 : Int32) 0 hc n0 Zc F_last_li F_levels_nd F_size_nd R_lr (by decide) (by decide)) hZ (hw _ (List.mem_of_getElem? (i := 88) rfl)) (hw _ (List.mem_of_getElem? (i := 2) rfl)) (by decide) (by decide)) q9a q9c (g := (own_f3 m 341 av bv cv fl kb kc 1 0 0 li qa qb qc 1 (fl &&& (3 : Int32)) ((fl >>> ((4 : Int32) &&& 31)) &&& (3 : Int32)) [(.ref li)])) rfl (by rw [hml]; rfl) (Steps.refl _) (argsL := []) (rest := []) (lenOf pd_0_0 rfl) rfl (by show 2 * 0 + _ ≤ _; exact Nat.le_of_eq rfl) (hb hby at_341) (fun _ _ => ⟨rfl, ec, (by decide : 7 + 0 ≤ _), (by decide : 164 + 0 ≤ _)⟩)
    dsimp only [Pt.U, Pt.locs, Pt.cells, Pt.slots] at X9 l9 y9 z9 st9 hQ9
    subst l9 y9 z9
    obtain ⟨rfl, N9q, K9q⟩ := hQ9
    have N9 := Fr.app Nc N9q
    refine Go.step (fun t k => st9.trans k) ?_
    show Go _ _ _ _ _ _ _ (T9.setTop (own_f3 m 344 av bv cv fl kb kc 1 0 0 li qa qb qc 1 (fl &&& (3 : Int32)) ((fl >>> ((4 : Int32) &&& 31)) &&& (3 : Int32)) [(gl 0)]))
    refine Go.step (fun t k => XS.iload X9.here hx rfl (hb hby at_344) rfl (XS.lloadN X9.here hx rfl (hb hby at_346) rfl (XS.aload X9.here hx rfl (hb hby at_347) rfl rfl (XS.iload X9.here hx rfl (hb hby at_349) rfl (XS.lload X9.here hx rfl (hb hby at_351) rfl (XS.aload X9.here hx rfl (hb hby at_353) rfl rfl (XS.iload X9.here hx rfl (hb hby at_355) rfl (XS.lload X9.here hx rfl (hb hby at_357) rfl (XS.aload X9.here hx rfl (hb hby at_359) rfl rfl k))))))))) ?_
    show Go _ _ _ _ _ _ _ (T9.setTop (own_f3 m 361 av bv cv fl kb kc 1 0 0 li qa qb qc 1 (fl &&& (3 : Int32)) ((fl >>> ((4 : Int32) &&& 31)) &&& (3 : Int32)) [(.ref qc), (.long kc), (.int (0 : Int32)), (.ref qb), (.long kb), (.int (0 : Int32)), (.ref qa), (.long av), (.int (1 : Int32)), (gl 0)]))
    obtain ⟨_, _, ⟨T10, L10, k10, n10⟩, -, X10, ⟨Lc10, hQ10, l10, y10, z10⟩, st10⟩ := Jvm.LawKit.callS X9 hx (y := (⟨"com/example/matchstone/matchstone/LevelIndexBestPinLaw", "expected", "(ZJLcom/example/matchstone/matchstone/PriceLevel;ZJLcom/example/matchstone/matchstone/PriceLevel;ZJLcom/example/matchstone/matchstone/PriceLevel;)Lcom/example/matchstone/matchstone/PriceLevel;"⟩ : MethodName)) hown (mvT hZ (hw _ (List.mem_of_getElem? (i := 89) rfl))) (mvT hZ (hw _ (List.mem_of_getElem? (i := 90) rfl))) (mvT hZ (hw _ (List.mem_of_getElem? (i := 91) rfl))) (mvT hZ (hw _ (List.mem_of_getElem? (i := 92) rfl))) (by decide) (backOf (W := 1) (rm14 l Z a0 hw [] (1 : Int32) av qa (0 : Int32) kb qb (0 : Int32) kc qc true false false hc n0 Zc (Or.inr ⟨rfl, rfl⟩) (Or.inl ⟨rfl, rfl⟩) (Or.inl ⟨rfl, rfl⟩)) hZ (hw _ (List.mem_of_getElem? (i := 92) rfl)) (hw _ (List.mem_of_getElem? (i := 91) rfl)) (by decide) (by decide)) (g := (own_f3 m 361 av bv cv fl kb kc 1 0 0 li qa qb qc 1 (fl &&& (3 : Int32)) ((fl >>> ((4 : Int32) &&& 31)) &&& (3 : Int32)) [(.ref qc), (.long kc), (.int (0 : Int32)), (.ref qb), (.long kb), (.int (0 : Int32)), (.ref qa), (.long av), (.int (1 : Int32)), (gl 0)])) rfl (by rw [hml]; rfl) (argsL := [(.int (1 : Int32)), (.long av), (.ref qa), (.int (0 : Int32)), (.long kb), (.ref qb), (.int (0 : Int32)), (.long kc), (.ref qc)]) (rest := [(gl 0)]) (lenOf pd_0_1 rfl) rfl (by show 2 * 0 + _ ≤ _; exact own_w1 (RAr.ref R_lr (by decide))) (hb hby at_361) (fun _ _ => ⟨rfl, K9q, (by decide : 7 + 0 ≤ _), (by decide : 164 + 0 ≤ _)⟩)
    dsimp only [Pt.U, Pt.locs, Pt.cells, Pt.slots] at X10 l10 y10 z10 st10 hQ10
    subst l10 y10 z10
    obtain ⟨vv_10, rfl, N10q, K10q, o10_hvr, o10_hG⟩ := hQ10
    have N10 := Fr.app N9 N10q
    refine Go.step st10 ?_
    show Go _ _ _ _ _ _ _ (T10.setTop (own_f3 m 364 av bv cv fl kb kc 1 0 0 li qa qb qc 1 (fl &&& (3 : Int32)) ((fl >>> ((4 : Int32) &&& 31)) &&& (3 : Int32)) [vv_10, (gl 0)]))
    refine Go.step (fun t k => Jvm.RoadKit.acmp (g := (own_f3 m 364 av bv cv fl kb kc 1 0 0 li qa qb qc 1 (fl &&& (3 : Int32)) ((fl >>> ((4 : Int32) &&& 31)) &&& (3 : Int32)) [vv_10, (gl 0)])) X10 hx rfl (RAr.ref R_lr (by decide)) o10_hvr (pc0 := 364) (pc' := 367) (same := true) rfl (hb hby at_364) rfl (decide_eq_true (own_X1 (n := 0) hI o10_hG (by decide))) (by decide) (by decide) k) ?_
    show Go _ _ _ _ _ _ _ (T10.setTop (own_f3 m 367 av bv cv fl kb kc 1 0 0 li qa qb qc 1 (fl &&& (3 : Int32)) ((fl >>> ((4 : Int32) &&& 31)) &&& (3 : Int32)) []))
    refine Go.step (fun t k => XS.iconst X10.here hx rfl (hb hby at_367) k) ?_
    show Go _ _ _ _ _ _ _ (T10.setTop (own_f3 m 368 av bv cv fl kb kc 1 0 0 li qa qb qc 1 (fl &&& (3 : Int32)) ((fl >>> ((4 : Int32) &&& 31)) &&& (3 : Int32)) [(.int (1 : Int32))]))
    refine Go.step (fun t k => XS.goto X10.here hx rfl (pc0 := 368) (pc' := 372) rfl (hb hby at_368) (by decide) (by decide) (XS.istore X10.here hx rfl (hb hby at_372) rfl (l' := #[.val (.long av), .second, .val (.long bv), .second, .val (.long cv), .second, .val (.int fl), .val (.long kb), .second, .val (.long kc), .second, .val (.int (1 : Int32)), .val (.int (0 : Int32)), .val (.int (0 : Int32)), .val (.ref li), .val (.ref qa), .val (.ref qb), .val (.ref qc), .val (.int (1 : Int32)), .val (.int (fl &&& (3 : Int32))), .val (.int ((fl >>> ((4 : Int32) &&& 31)) &&& (3 : Int32))), .val (.int (1 : Int32))]) rfl (XS.iload X10.here hx rfl (hb hby at_374) rfl k))) ?_
    show Go _ _ _ _ _ _ _ (T10.setTop (own_f4 m 376 av bv cv fl kb kc 1 0 0 li qa qb qc 1 (fl &&& (3 : Int32)) ((fl >>> ((4 : Int32) &&& 31)) &&& (3 : Int32)) 1 [(.int (1 : Int32))]))
    refine Go.step (fun t k => XS.ifNo X10.here hx rfl (hb hby at_376) rfl ((if0 _ _).trans (feq (by decide : ¬ (1 : Int32) = (0 : Int32))).1) k) ?_
    show Go _ _ _ _ _ _ _ (T10.setTop (own_f4 m 379 av bv cv fl kb kc 1 0 0 li qa qb qc 1 (fl &&& (3 : Int32)) ((fl >>> ((4 : Int32) &&& 31)) &&& (3 : Int32)) 1 []))
    refine Go.step (fun t k => XS.iload X10.here hx rfl (hb hby at_379) rfl k) ?_
    show Go _ _ _ _ _ _ _ (T10.setTop (own_f4 m 381 av bv cv fl kb kc 1 0 0 li qa qb qc 1 (fl &&& (3 : Int32)) ((fl >>> ((4 : Int32) &&& 31)) &&& (3 : Int32)) 1 [(.int (1 : Int32))]))
    refine Go.step (fun t k => XS.ifNo X10.here hx rfl (hb hby at_381) rfl ((if0 _ _).trans (feq (by decide : ¬ (1 : Int32) = (0 : Int32))).1) k) ?_
    show Go _ _ _ _ _ _ _ (T10.setTop (own_f4 m 384 av bv cv fl kb kc 1 0 0 li qa qb qc 1 (fl &&& (3 : Int32)) ((fl >>> ((4 : Int32) &&& 31)) &&& (3 : Int32)) 1 []))
    refine Go.step (fun t k => XS.iconst X10.here hx rfl (hb hby at_384) k) ?_
    show Go _ _ _ _ _ _ _ (T10.setTop (own_f4 m 385 av bv cv fl kb kc 1 0 0 li qa qb qc 1 (fl &&& (3 : Int32)) ((fl >>> ((4 : Int32) &&& 31)) &&& (3 : Int32)) 1 [(.int (1 : Int32))]))
    refine Go.step (fun t k => XS.goto X10.here hx rfl (pc0 := 385) (pc' := 389) rfl (hb hby at_385) (by decide) (by decide) k) ?_
    show Go _ _ _ _ _ _ _ (T10.setTop (own_f4 m 389 av bv cv fl kb kc 1 0 0 li qa qb qc 1 (fl &&& (3 : Int32)) ((fl >>> ((4 : Int32) &&& 31)) &&& (3 : Int32)) 1 [(.int (1 : Int32))]))
    refine Go.retN X10 Bd.notSynchronized hx (t := .boolean) Bd.returns (by simp) (hb hby at_389) (by decide) (by decide) (1 : Int32) rfl ?_
    rw [K10q]
    exact ⟨rfl, N10⟩
  have L339_101 : ∀ (Tc : State) (hc : Heap) (lc : List Loc) (kb : Int64) (kc : Int64) (li : Addr) (qa : Addr) (qb : Addr) (qc : Addr) (nd : Addr) (kr : Addr) (lr : Addr) (gk : Nat → Int64) (gl : Nat → Value) (aw : Value), (Stand p l e room_1 s m #[(.long av), (.long bv), (.long cv), (.int fl)] below meth c Tc lc 7 164) → (Tc.heap = hc) → (Fr n0 lc) → (n0 ≤ hc.size) → (Fld Z hc li "com/example/matchstone/matchstone/LevelIndex" "last" "Lcom/example/matchstone/matchstone/LevelIndex$Node;" (.ref nd)) → (Exa Z hc li "com/example/matchstone/matchstone/LevelIndex") → (Fld Z hc nd "com/example/matchstone/matchstone/LevelIndex$Node" "keys" "[J" (.ref kr)) → (Fld Z hc nd "com/example/matchstone/matchstone/LevelIndex$Node" "levels" "[Lcom/example/matchstone/matchstone/PriceLevel;" (.ref lr)) → (Fld Z hc nd "com/example/matchstone/matchstone/LevelIndex$Node" "size" "I" (.int (2 : Int32))) → (RAr Z hc lr "com/example/matchstone/matchstone/PriceLevel" 65 gl) → (own_I 2 gk gl true false true av kb kc qa qb qc) → Go p e below s (Q0 Z av bv cv fl h0 n0) 32 704 (Tc.setTop (own_f3 m 339 av bv cv fl kb kc 1 0 1 li qa qb qc 1 (fl &&& (3 : Int32)) ((fl >>> ((4 : Int32) &&& 31)) &&& (3 : Int32)) [])) := by
    intro Tc hc lc kb kc li qa qb qc nd kr lr gk gl aw Xc ec Nc Zc F_last_li E_li F_keys_nd F_levels_nd F_size_nd R_lr hI
    show Go _ _ _ _ _ _ _ (Tc.setTop (own_f3 m 339 av bv cv fl kb kc 1 0 1 li qa qb qc 1 (fl &&& (3 : Int32)) ((fl >>> ((4 : Int32) &&& 31)) &&& (3 : Int32)) []))
    refine Go.step (fun t k => XS.aload Xc.here hx rfl (hb hby at_339) rfl rfl k) ?_
    show Go _ _ _ _ _ _ _ (Tc.setTop (own_f3 m 341 av bv cv fl kb kc 1 0 1 li qa qb qc 1 (fl &&& (3 : Int32)) ((fl >>> ((4 : Int32) &&& 31)) &&& (3 : Int32)) [(.ref li)]))
    obtain ⟨cq11, kq11, q11a, q11b, q11c⟩ := isOf hZ ec E_li
    obtain ⟨_, _, ⟨T11, L11, k11, n11⟩, -, X11, ⟨Lc11, hQ11, l11, y11, z11⟩, st11⟩ := Xc.virtualBack hx (y := (⟨"com/example/matchstone/matchstone/LevelIndex", "best", "()Lcom/example/matchstone/matchstone/PriceLevel;"⟩ : MethodName)) (z := (⟨"com/example/matchstone/matchstone/LevelIndex", "best", "()Lcom/example/matchstone/matchstone/PriceLevel;"⟩ : MethodName)) hown (mvT hZ (hw _ (List.mem_of_getElem? (i := 84) rfl))) (mvT hZ (hw _ (List.mem_of_getElem? (i := 85) rfl))) (notFace_of_selects (args := #[]) (mvT hZ (hw _ (List.mem_of_getElem? (i := 87) rfl)))) (mvT hZ (hw _ (List.mem_of_getElem? (i := 87) rfl))) (mvT hZ (hw _ (List.mem_of_getElem? (i := 86) rfl))) (by decide) (backOf (W := 0) (rm13 l Z a0 hw [] li nd lr gl (2 : Int32) 1 hc n0 Zc F_last_li F_levels_nd F_size_nd R_lr (by decide) (by decide)) hZ (hw _ (List.mem_of_getElem? (i := 88) rfl)) (hw _ (List.mem_of_getElem? (i := 2) rfl)) (by decide) (by decide)) q11a q11c (g := (own_f3 m 341 av bv cv fl kb kc 1 0 1 li qa qb qc 1 (fl &&& (3 : Int32)) ((fl >>> ((4 : Int32) &&& 31)) &&& (3 : Int32)) [(.ref li)])) rfl (by rw [hml]; rfl) (Steps.refl _) (argsL := []) (rest := []) (lenOf pd_0_0 rfl) rfl (by show 2 * 0 + _ ≤ _; exact Nat.le_of_eq rfl) (hb hby at_341) (fun _ _ => ⟨rfl, ec, (by decide : 7 + 0 ≤ _), (by decide : 164 + 0 ≤ _)⟩)
    dsimp only [Pt.U, Pt.locs, Pt.cells, Pt.slots] at X11 l11 y11 z11 st11 hQ11
    subst l11 y11 z11
    obtain ⟨rfl, N11q, K11q⟩ := hQ11
    have N11 := Fr.app Nc N11q
    refine Go.step (fun t k => st11.trans k) ?_
    show Go _ _ _ _ _ _ _ (T11.setTop (own_f3 m 344 av bv cv fl kb kc 1 0 1 li qa qb qc 1 (fl &&& (3 : Int32)) ((fl >>> ((4 : Int32) &&& 31)) &&& (3 : Int32)) [(gl 1)]))
    refine Go.step (fun t k => XS.iload X11.here hx rfl (hb hby at_344) rfl (XS.lloadN X11.here hx rfl (hb hby at_346) rfl (XS.aload X11.here hx rfl (hb hby at_347) rfl rfl (XS.iload X11.here hx rfl (hb hby at_349) rfl (XS.lload X11.here hx rfl (hb hby at_351) rfl (XS.aload X11.here hx rfl (hb hby at_353) rfl rfl (XS.iload X11.here hx rfl (hb hby at_355) rfl (XS.lload X11.here hx rfl (hb hby at_357) rfl (XS.aload X11.here hx rfl (hb hby at_359) rfl rfl k))))))))) ?_
    show Go _ _ _ _ _ _ _ (T11.setTop (own_f3 m 361 av bv cv fl kb kc 1 0 1 li qa qb qc 1 (fl &&& (3 : Int32)) ((fl >>> ((4 : Int32) &&& 31)) &&& (3 : Int32)) [(.ref qc), (.long kc), (.int (1 : Int32)), (.ref qb), (.long kb), (.int (0 : Int32)), (.ref qa), (.long av), (.int (1 : Int32)), (gl 1)]))
    obtain ⟨_, _, ⟨T12, L12, k12, n12⟩, -, X12, ⟨Lc12, hQ12, l12, y12, z12⟩, st12⟩ := Jvm.LawKit.callS X11 hx (y := (⟨"com/example/matchstone/matchstone/LevelIndexBestPinLaw", "expected", "(ZJLcom/example/matchstone/matchstone/PriceLevel;ZJLcom/example/matchstone/matchstone/PriceLevel;ZJLcom/example/matchstone/matchstone/PriceLevel;)Lcom/example/matchstone/matchstone/PriceLevel;"⟩ : MethodName)) hown (mvT hZ (hw _ (List.mem_of_getElem? (i := 89) rfl))) (mvT hZ (hw _ (List.mem_of_getElem? (i := 90) rfl))) (mvT hZ (hw _ (List.mem_of_getElem? (i := 91) rfl))) (mvT hZ (hw _ (List.mem_of_getElem? (i := 92) rfl))) (by decide) (backOf (W := 1) (rm14 l Z a0 hw [] (1 : Int32) av qa (0 : Int32) kb qb (1 : Int32) kc qc true false true hc n0 Zc (Or.inr ⟨rfl, rfl⟩) (Or.inl ⟨rfl, rfl⟩) (Or.inr ⟨rfl, rfl⟩)) hZ (hw _ (List.mem_of_getElem? (i := 92) rfl)) (hw _ (List.mem_of_getElem? (i := 91) rfl)) (by decide) (by decide)) (g := (own_f3 m 361 av bv cv fl kb kc 1 0 1 li qa qb qc 1 (fl &&& (3 : Int32)) ((fl >>> ((4 : Int32) &&& 31)) &&& (3 : Int32)) [(.ref qc), (.long kc), (.int (1 : Int32)), (.ref qb), (.long kb), (.int (0 : Int32)), (.ref qa), (.long av), (.int (1 : Int32)), (gl 1)])) rfl (by rw [hml]; rfl) (argsL := [(.int (1 : Int32)), (.long av), (.ref qa), (.int (0 : Int32)), (.long kb), (.ref qb), (.int (1 : Int32)), (.long kc), (.ref qc)]) (rest := [(gl 1)]) (lenOf pd_0_1 rfl) rfl (by show 2 * 0 + _ ≤ _; exact own_w1 (RAr.ref R_lr (by decide))) (hb hby at_361) (fun _ _ => ⟨rfl, K11q, (by decide : 7 + 0 ≤ _), (by decide : 164 + 0 ≤ _)⟩)
    dsimp only [Pt.U, Pt.locs, Pt.cells, Pt.slots] at X12 l12 y12 z12 st12 hQ12
    subst l12 y12 z12
    obtain ⟨vv_12, rfl, N12q, K12q, o12_hvr, o12_hG⟩ := hQ12
    have N12 := Fr.app N11 N12q
    refine Go.step st12 ?_
    show Go _ _ _ _ _ _ _ (T12.setTop (own_f3 m 364 av bv cv fl kb kc 1 0 1 li qa qb qc 1 (fl &&& (3 : Int32)) ((fl >>> ((4 : Int32) &&& 31)) &&& (3 : Int32)) [vv_12, (gl 1)]))
    refine Go.step (fun t k => Jvm.RoadKit.acmp (g := (own_f3 m 364 av bv cv fl kb kc 1 0 1 li qa qb qc 1 (fl &&& (3 : Int32)) ((fl >>> ((4 : Int32) &&& 31)) &&& (3 : Int32)) [vv_12, (gl 1)])) X12 hx rfl (RAr.ref R_lr (by decide)) o12_hvr (pc0 := 364) (pc' := 367) (same := true) rfl (hb hby at_364) rfl (decide_eq_true (own_X1 (n := 1) hI o12_hG (by decide))) (by decide) (by decide) k) ?_
    show Go _ _ _ _ _ _ _ (T12.setTop (own_f3 m 367 av bv cv fl kb kc 1 0 1 li qa qb qc 1 (fl &&& (3 : Int32)) ((fl >>> ((4 : Int32) &&& 31)) &&& (3 : Int32)) []))
    refine Go.step (fun t k => XS.iconst X12.here hx rfl (hb hby at_367) k) ?_
    show Go _ _ _ _ _ _ _ (T12.setTop (own_f3 m 368 av bv cv fl kb kc 1 0 1 li qa qb qc 1 (fl &&& (3 : Int32)) ((fl >>> ((4 : Int32) &&& 31)) &&& (3 : Int32)) [(.int (1 : Int32))]))
    refine Go.step (fun t k => XS.goto X12.here hx rfl (pc0 := 368) (pc' := 372) rfl (hb hby at_368) (by decide) (by decide) (XS.istore X12.here hx rfl (hb hby at_372) rfl (l' := #[.val (.long av), .second, .val (.long bv), .second, .val (.long cv), .second, .val (.int fl), .val (.long kb), .second, .val (.long kc), .second, .val (.int (1 : Int32)), .val (.int (0 : Int32)), .val (.int (1 : Int32)), .val (.ref li), .val (.ref qa), .val (.ref qb), .val (.ref qc), .val (.int (1 : Int32)), .val (.int (fl &&& (3 : Int32))), .val (.int ((fl >>> ((4 : Int32) &&& 31)) &&& (3 : Int32))), .val (.int (1 : Int32))]) rfl (XS.iload X12.here hx rfl (hb hby at_374) rfl k))) ?_
    show Go _ _ _ _ _ _ _ (T12.setTop (own_f4 m 376 av bv cv fl kb kc 1 0 1 li qa qb qc 1 (fl &&& (3 : Int32)) ((fl >>> ((4 : Int32) &&& 31)) &&& (3 : Int32)) 1 [(.int (1 : Int32))]))
    refine Go.step (fun t k => XS.ifNo X12.here hx rfl (hb hby at_376) rfl ((if0 _ _).trans (feq (by decide : ¬ (1 : Int32) = (0 : Int32))).1) k) ?_
    show Go _ _ _ _ _ _ _ (T12.setTop (own_f4 m 379 av bv cv fl kb kc 1 0 1 li qa qb qc 1 (fl &&& (3 : Int32)) ((fl >>> ((4 : Int32) &&& 31)) &&& (3 : Int32)) 1 []))
    refine Go.step (fun t k => XS.iload X12.here hx rfl (hb hby at_379) rfl k) ?_
    show Go _ _ _ _ _ _ _ (T12.setTop (own_f4 m 381 av bv cv fl kb kc 1 0 1 li qa qb qc 1 (fl &&& (3 : Int32)) ((fl >>> ((4 : Int32) &&& 31)) &&& (3 : Int32)) 1 [(.int (1 : Int32))]))
    refine Go.step (fun t k => XS.ifNo X12.here hx rfl (hb hby at_381) rfl ((if0 _ _).trans (feq (by decide : ¬ (1 : Int32) = (0 : Int32))).1) k) ?_
    show Go _ _ _ _ _ _ _ (T12.setTop (own_f4 m 384 av bv cv fl kb kc 1 0 1 li qa qb qc 1 (fl &&& (3 : Int32)) ((fl >>> ((4 : Int32) &&& 31)) &&& (3 : Int32)) 1 []))
    refine Go.step (fun t k => XS.iconst X12.here hx rfl (hb hby at_384) k) ?_
    show Go _ _ _ _ _ _ _ (T12.setTop (own_f4 m 385 av bv cv fl kb kc 1 0 1 li qa qb qc 1 (fl &&& (3 : Int32)) ((fl >>> ((4 : Int32) &&& 31)) &&& (3 : Int32)) 1 [(.int (1 : Int32))]))
    refine Go.step (fun t k => XS.goto X12.here hx rfl (pc0 := 385) (pc' := 389) rfl (hb hby at_385) (by decide) (by decide) k) ?_
    show Go _ _ _ _ _ _ _ (T12.setTop (own_f4 m 389 av bv cv fl kb kc 1 0 1 li qa qb qc 1 (fl &&& (3 : Int32)) ((fl >>> ((4 : Int32) &&& 31)) &&& (3 : Int32)) 1 [(.int (1 : Int32))]))
    refine Go.retN X12 Bd.notSynchronized hx (t := .boolean) Bd.returns (by simp) (hb hby at_389) (by decide) (by decide) (1 : Int32) rfl ?_
    rw [K12q]
    exact ⟨rfl, N12⟩
  have L339_110 : ∀ (Tc : State) (hc : Heap) (lc : List Loc) (kb : Int64) (kc : Int64) (li : Addr) (qa : Addr) (qb : Addr) (qc : Addr) (nd : Addr) (kr : Addr) (lr : Addr) (gk : Nat → Int64) (gl : Nat → Value) (aw : Value), (Stand p l e room_1 s m #[(.long av), (.long bv), (.long cv), (.int fl)] below meth c Tc lc 7 164) → (Tc.heap = hc) → (Fr n0 lc) → (n0 ≤ hc.size) → (Fld Z hc li "com/example/matchstone/matchstone/LevelIndex" "last" "Lcom/example/matchstone/matchstone/LevelIndex$Node;" (.ref nd)) → (Exa Z hc li "com/example/matchstone/matchstone/LevelIndex") → (Fld Z hc nd "com/example/matchstone/matchstone/LevelIndex$Node" "keys" "[J" (.ref kr)) → (Fld Z hc nd "com/example/matchstone/matchstone/LevelIndex$Node" "levels" "[Lcom/example/matchstone/matchstone/PriceLevel;" (.ref lr)) → (Fld Z hc nd "com/example/matchstone/matchstone/LevelIndex$Node" "size" "I" (.int (2 : Int32))) → (RAr Z hc lr "com/example/matchstone/matchstone/PriceLevel" 65 gl) → (own_I 2 gk gl true true false av kb kc qa qb qc) → Go p e below s (Q0 Z av bv cv fl h0 n0) 32 704 (Tc.setTop (own_f3 m 339 av bv cv fl kb kc 1 1 0 li qa qb qc 1 (fl &&& (3 : Int32)) ((fl >>> ((4 : Int32) &&& 31)) &&& (3 : Int32)) [])) := by
    intro Tc hc lc kb kc li qa qb qc nd kr lr gk gl aw Xc ec Nc Zc F_last_li E_li F_keys_nd F_levels_nd F_size_nd R_lr hI
    show Go _ _ _ _ _ _ _ (Tc.setTop (own_f3 m 339 av bv cv fl kb kc 1 1 0 li qa qb qc 1 (fl &&& (3 : Int32)) ((fl >>> ((4 : Int32) &&& 31)) &&& (3 : Int32)) []))
    refine Go.step (fun t k => XS.aload Xc.here hx rfl (hb hby at_339) rfl rfl k) ?_
    show Go _ _ _ _ _ _ _ (Tc.setTop (own_f3 m 341 av bv cv fl kb kc 1 1 0 li qa qb qc 1 (fl &&& (3 : Int32)) ((fl >>> ((4 : Int32) &&& 31)) &&& (3 : Int32)) [(.ref li)]))
    obtain ⟨cq13, kq13, q13a, q13b, q13c⟩ := isOf hZ ec E_li
    obtain ⟨_, _, ⟨T13, L13, k13, n13⟩, -, X13, ⟨Lc13, hQ13, l13, y13, z13⟩, st13⟩ := Xc.virtualBack hx (y := (⟨"com/example/matchstone/matchstone/LevelIndex", "best", "()Lcom/example/matchstone/matchstone/PriceLevel;"⟩ : MethodName)) (z := (⟨"com/example/matchstone/matchstone/LevelIndex", "best", "()Lcom/example/matchstone/matchstone/PriceLevel;"⟩ : MethodName)) hown (mvT hZ (hw _ (List.mem_of_getElem? (i := 84) rfl))) (mvT hZ (hw _ (List.mem_of_getElem? (i := 85) rfl))) (notFace_of_selects (args := #[]) (mvT hZ (hw _ (List.mem_of_getElem? (i := 87) rfl)))) (mvT hZ (hw _ (List.mem_of_getElem? (i := 87) rfl))) (mvT hZ (hw _ (List.mem_of_getElem? (i := 86) rfl))) (by decide) (backOf (W := 0) (rm13 l Z a0 hw [] li nd lr gl (2 : Int32) 1 hc n0 Zc F_last_li F_levels_nd F_size_nd R_lr (by decide) (by decide)) hZ (hw _ (List.mem_of_getElem? (i := 88) rfl)) (hw _ (List.mem_of_getElem? (i := 2) rfl)) (by decide) (by decide)) q13a q13c (g := (own_f3 m 341 av bv cv fl kb kc 1 1 0 li qa qb qc 1 (fl &&& (3 : Int32)) ((fl >>> ((4 : Int32) &&& 31)) &&& (3 : Int32)) [(.ref li)])) rfl (by rw [hml]; rfl) (Steps.refl _) (argsL := []) (rest := []) (lenOf pd_0_0 rfl) rfl (by show 2 * 0 + _ ≤ _; exact Nat.le_of_eq rfl) (hb hby at_341) (fun _ _ => ⟨rfl, ec, (by decide : 7 + 0 ≤ _), (by decide : 164 + 0 ≤ _)⟩)
    dsimp only [Pt.U, Pt.locs, Pt.cells, Pt.slots] at X13 l13 y13 z13 st13 hQ13
    subst l13 y13 z13
    obtain ⟨rfl, N13q, K13q⟩ := hQ13
    have N13 := Fr.app Nc N13q
    refine Go.step (fun t k => st13.trans k) ?_
    show Go _ _ _ _ _ _ _ (T13.setTop (own_f3 m 344 av bv cv fl kb kc 1 1 0 li qa qb qc 1 (fl &&& (3 : Int32)) ((fl >>> ((4 : Int32) &&& 31)) &&& (3 : Int32)) [(gl 1)]))
    refine Go.step (fun t k => XS.iload X13.here hx rfl (hb hby at_344) rfl (XS.lloadN X13.here hx rfl (hb hby at_346) rfl (XS.aload X13.here hx rfl (hb hby at_347) rfl rfl (XS.iload X13.here hx rfl (hb hby at_349) rfl (XS.lload X13.here hx rfl (hb hby at_351) rfl (XS.aload X13.here hx rfl (hb hby at_353) rfl rfl (XS.iload X13.here hx rfl (hb hby at_355) rfl (XS.lload X13.here hx rfl (hb hby at_357) rfl (XS.aload X13.here hx rfl (hb hby at_359) rfl rfl k))))))))) ?_
    show Go _ _ _ _ _ _ _ (T13.setTop (own_f3 m 361 av bv cv fl kb kc 1 1 0 li qa qb qc 1 (fl &&& (3 : Int32)) ((fl >>> ((4 : Int32) &&& 31)) &&& (3 : Int32)) [(.ref qc), (.long kc), (.int (0 : Int32)), (.ref qb), (.long kb), (.int (1 : Int32)), (.ref qa), (.long av), (.int (1 : Int32)), (gl 1)]))
    obtain ⟨_, _, ⟨T14, L14, k14, n14⟩, -, X14, ⟨Lc14, hQ14, l14, y14, z14⟩, st14⟩ := Jvm.LawKit.callS X13 hx (y := (⟨"com/example/matchstone/matchstone/LevelIndexBestPinLaw", "expected", "(ZJLcom/example/matchstone/matchstone/PriceLevel;ZJLcom/example/matchstone/matchstone/PriceLevel;ZJLcom/example/matchstone/matchstone/PriceLevel;)Lcom/example/matchstone/matchstone/PriceLevel;"⟩ : MethodName)) hown (mvT hZ (hw _ (List.mem_of_getElem? (i := 89) rfl))) (mvT hZ (hw _ (List.mem_of_getElem? (i := 90) rfl))) (mvT hZ (hw _ (List.mem_of_getElem? (i := 91) rfl))) (mvT hZ (hw _ (List.mem_of_getElem? (i := 92) rfl))) (by decide) (backOf (W := 1) (rm14 l Z a0 hw [] (1 : Int32) av qa (1 : Int32) kb qb (0 : Int32) kc qc true true false hc n0 Zc (Or.inr ⟨rfl, rfl⟩) (Or.inr ⟨rfl, rfl⟩) (Or.inl ⟨rfl, rfl⟩)) hZ (hw _ (List.mem_of_getElem? (i := 92) rfl)) (hw _ (List.mem_of_getElem? (i := 91) rfl)) (by decide) (by decide)) (g := (own_f3 m 361 av bv cv fl kb kc 1 1 0 li qa qb qc 1 (fl &&& (3 : Int32)) ((fl >>> ((4 : Int32) &&& 31)) &&& (3 : Int32)) [(.ref qc), (.long kc), (.int (0 : Int32)), (.ref qb), (.long kb), (.int (1 : Int32)), (.ref qa), (.long av), (.int (1 : Int32)), (gl 1)])) rfl (by rw [hml]; rfl) (argsL := [(.int (1 : Int32)), (.long av), (.ref qa), (.int (1 : Int32)), (.long kb), (.ref qb), (.int (0 : Int32)), (.long kc), (.ref qc)]) (rest := [(gl 1)]) (lenOf pd_0_1 rfl) rfl (by show 2 * 0 + _ ≤ _; exact own_w1 (RAr.ref R_lr (by decide))) (hb hby at_361) (fun _ _ => ⟨rfl, K13q, (by decide : 7 + 0 ≤ _), (by decide : 164 + 0 ≤ _)⟩)
    dsimp only [Pt.U, Pt.locs, Pt.cells, Pt.slots] at X14 l14 y14 z14 st14 hQ14
    subst l14 y14 z14
    obtain ⟨vv_14, rfl, N14q, K14q, o14_hvr, o14_hG⟩ := hQ14
    have N14 := Fr.app N13 N14q
    refine Go.step st14 ?_
    show Go _ _ _ _ _ _ _ (T14.setTop (own_f3 m 364 av bv cv fl kb kc 1 1 0 li qa qb qc 1 (fl &&& (3 : Int32)) ((fl >>> ((4 : Int32) &&& 31)) &&& (3 : Int32)) [vv_14, (gl 1)]))
    refine Go.step (fun t k => Jvm.RoadKit.acmp (g := (own_f3 m 364 av bv cv fl kb kc 1 1 0 li qa qb qc 1 (fl &&& (3 : Int32)) ((fl >>> ((4 : Int32) &&& 31)) &&& (3 : Int32)) [vv_14, (gl 1)])) X14 hx rfl (RAr.ref R_lr (by decide)) o14_hvr (pc0 := 364) (pc' := 367) (same := true) rfl (hb hby at_364) rfl (decide_eq_true (own_X1 (n := 1) hI o14_hG (by decide))) (by decide) (by decide) k) ?_
    show Go _ _ _ _ _ _ _ (T14.setTop (own_f3 m 367 av bv cv fl kb kc 1 1 0 li qa qb qc 1 (fl &&& (3 : Int32)) ((fl >>> ((4 : Int32) &&& 31)) &&& (3 : Int32)) []))
    refine Go.step (fun t k => XS.iconst X14.here hx rfl (hb hby at_367) k) ?_
    show Go _ _ _ _ _ _ _ (T14.setTop (own_f3 m 368 av bv cv fl kb kc 1 1 0 li qa qb qc 1 (fl &&& (3 : Int32)) ((fl >>> ((4 : Int32) &&& 31)) &&& (3 : Int32)) [(.int (1 : Int32))]))
    refine Go.step (fun t k => XS.goto X14.here hx rfl (pc0 := 368) (pc' := 372) rfl (hb hby at_368) (by decide) (by decide) (XS.istore X14.here hx rfl (hb hby at_372) rfl (l' := #[.val (.long av), .second, .val (.long bv), .second, .val (.long cv), .second, .val (.int fl), .val (.long kb), .second, .val (.long kc), .second, .val (.int (1 : Int32)), .val (.int (1 : Int32)), .val (.int (0 : Int32)), .val (.ref li), .val (.ref qa), .val (.ref qb), .val (.ref qc), .val (.int (1 : Int32)), .val (.int (fl &&& (3 : Int32))), .val (.int ((fl >>> ((4 : Int32) &&& 31)) &&& (3 : Int32))), .val (.int (1 : Int32))]) rfl (XS.iload X14.here hx rfl (hb hby at_374) rfl k))) ?_
    show Go _ _ _ _ _ _ _ (T14.setTop (own_f4 m 376 av bv cv fl kb kc 1 1 0 li qa qb qc 1 (fl &&& (3 : Int32)) ((fl >>> ((4 : Int32) &&& 31)) &&& (3 : Int32)) 1 [(.int (1 : Int32))]))
    refine Go.step (fun t k => XS.ifNo X14.here hx rfl (hb hby at_376) rfl ((if0 _ _).trans (feq (by decide : ¬ (1 : Int32) = (0 : Int32))).1) k) ?_
    show Go _ _ _ _ _ _ _ (T14.setTop (own_f4 m 379 av bv cv fl kb kc 1 1 0 li qa qb qc 1 (fl &&& (3 : Int32)) ((fl >>> ((4 : Int32) &&& 31)) &&& (3 : Int32)) 1 []))
    refine Go.step (fun t k => XS.iload X14.here hx rfl (hb hby at_379) rfl k) ?_
    show Go _ _ _ _ _ _ _ (T14.setTop (own_f4 m 381 av bv cv fl kb kc 1 1 0 li qa qb qc 1 (fl &&& (3 : Int32)) ((fl >>> ((4 : Int32) &&& 31)) &&& (3 : Int32)) 1 [(.int (1 : Int32))]))
    refine Go.step (fun t k => XS.ifNo X14.here hx rfl (hb hby at_381) rfl ((if0 _ _).trans (feq (by decide : ¬ (1 : Int32) = (0 : Int32))).1) k) ?_
    show Go _ _ _ _ _ _ _ (T14.setTop (own_f4 m 384 av bv cv fl kb kc 1 1 0 li qa qb qc 1 (fl &&& (3 : Int32)) ((fl >>> ((4 : Int32) &&& 31)) &&& (3 : Int32)) 1 []))
    refine Go.step (fun t k => XS.iconst X14.here hx rfl (hb hby at_384) k) ?_
    show Go _ _ _ _ _ _ _ (T14.setTop (own_f4 m 385 av bv cv fl kb kc 1 1 0 li qa qb qc 1 (fl &&& (3 : Int32)) ((fl >>> ((4 : Int32) &&& 31)) &&& (3 : Int32)) 1 [(.int (1 : Int32))]))
    refine Go.step (fun t k => XS.goto X14.here hx rfl (pc0 := 385) (pc' := 389) rfl (hb hby at_385) (by decide) (by decide) k) ?_
    show Go _ _ _ _ _ _ _ (T14.setTop (own_f4 m 389 av bv cv fl kb kc 1 1 0 li qa qb qc 1 (fl &&& (3 : Int32)) ((fl >>> ((4 : Int32) &&& 31)) &&& (3 : Int32)) 1 [(.int (1 : Int32))]))
    refine Go.retN X14 Bd.notSynchronized hx (t := .boolean) Bd.returns (by simp) (hb hby at_389) (by decide) (by decide) (1 : Int32) rfl ?_
    rw [K14q]
    exact ⟨rfl, N14⟩
  have L339_111 : ∀ (Tc : State) (hc : Heap) (lc : List Loc) (kb : Int64) (kc : Int64) (li : Addr) (qa : Addr) (qb : Addr) (qc : Addr) (nd : Addr) (kr : Addr) (lr : Addr) (gk : Nat → Int64) (gl : Nat → Value) (aw : Value), (Stand p l e room_1 s m #[(.long av), (.long bv), (.long cv), (.int fl)] below meth c Tc lc 7 164) → (Tc.heap = hc) → (Fr n0 lc) → (n0 ≤ hc.size) → (Fld Z hc li "com/example/matchstone/matchstone/LevelIndex" "last" "Lcom/example/matchstone/matchstone/LevelIndex$Node;" (.ref nd)) → (Exa Z hc li "com/example/matchstone/matchstone/LevelIndex") → (Fld Z hc nd "com/example/matchstone/matchstone/LevelIndex$Node" "keys" "[J" (.ref kr)) → (Fld Z hc nd "com/example/matchstone/matchstone/LevelIndex$Node" "levels" "[Lcom/example/matchstone/matchstone/PriceLevel;" (.ref lr)) → (Fld Z hc nd "com/example/matchstone/matchstone/LevelIndex$Node" "size" "I" (.int (3 : Int32))) → (RAr Z hc lr "com/example/matchstone/matchstone/PriceLevel" 65 gl) → (own_I 3 gk gl true true true av kb kc qa qb qc) → Go p e below s (Q0 Z av bv cv fl h0 n0) 32 704 (Tc.setTop (own_f3 m 339 av bv cv fl kb kc 1 1 1 li qa qb qc 1 (fl &&& (3 : Int32)) ((fl >>> ((4 : Int32) &&& 31)) &&& (3 : Int32)) [])) := by
    intro Tc hc lc kb kc li qa qb qc nd kr lr gk gl aw Xc ec Nc Zc F_last_li E_li F_keys_nd F_levels_nd F_size_nd R_lr hI
    show Go _ _ _ _ _ _ _ (Tc.setTop (own_f3 m 339 av bv cv fl kb kc 1 1 1 li qa qb qc 1 (fl &&& (3 : Int32)) ((fl >>> ((4 : Int32) &&& 31)) &&& (3 : Int32)) []))
    refine Go.step (fun t k => XS.aload Xc.here hx rfl (hb hby at_339) rfl rfl k) ?_
    show Go _ _ _ _ _ _ _ (Tc.setTop (own_f3 m 341 av bv cv fl kb kc 1 1 1 li qa qb qc 1 (fl &&& (3 : Int32)) ((fl >>> ((4 : Int32) &&& 31)) &&& (3 : Int32)) [(.ref li)]))
    obtain ⟨cq15, kq15, q15a, q15b, q15c⟩ := isOf hZ ec E_li
    obtain ⟨_, _, ⟨T15, L15, k15, n15⟩, -, X15, ⟨Lc15, hQ15, l15, y15, z15⟩, st15⟩ := Xc.virtualBack hx (y := (⟨"com/example/matchstone/matchstone/LevelIndex", "best", "()Lcom/example/matchstone/matchstone/PriceLevel;"⟩ : MethodName)) (z := (⟨"com/example/matchstone/matchstone/LevelIndex", "best", "()Lcom/example/matchstone/matchstone/PriceLevel;"⟩ : MethodName)) hown (mvT hZ (hw _ (List.mem_of_getElem? (i := 84) rfl))) (mvT hZ (hw _ (List.mem_of_getElem? (i := 85) rfl))) (notFace_of_selects (args := #[]) (mvT hZ (hw _ (List.mem_of_getElem? (i := 87) rfl)))) (mvT hZ (hw _ (List.mem_of_getElem? (i := 87) rfl))) (mvT hZ (hw _ (List.mem_of_getElem? (i := 86) rfl))) (by decide) (backOf (W := 0) (rm13 l Z a0 hw [] li nd lr gl (3 : Int32) 2 hc n0 Zc F_last_li F_levels_nd F_size_nd R_lr (by decide) (by decide)) hZ (hw _ (List.mem_of_getElem? (i := 88) rfl)) (hw _ (List.mem_of_getElem? (i := 2) rfl)) (by decide) (by decide)) q15a q15c (g := (own_f3 m 341 av bv cv fl kb kc 1 1 1 li qa qb qc 1 (fl &&& (3 : Int32)) ((fl >>> ((4 : Int32) &&& 31)) &&& (3 : Int32)) [(.ref li)])) rfl (by rw [hml]; rfl) (Steps.refl _) (argsL := []) (rest := []) (lenOf pd_0_0 rfl) rfl (by show 2 * 0 + _ ≤ _; exact Nat.le_of_eq rfl) (hb hby at_341) (fun _ _ => ⟨rfl, ec, (by decide : 7 + 0 ≤ _), (by decide : 164 + 0 ≤ _)⟩)
    dsimp only [Pt.U, Pt.locs, Pt.cells, Pt.slots] at X15 l15 y15 z15 st15 hQ15
    subst l15 y15 z15
    obtain ⟨rfl, N15q, K15q⟩ := hQ15
    have N15 := Fr.app Nc N15q
    refine Go.step (fun t k => st15.trans k) ?_
    show Go _ _ _ _ _ _ _ (T15.setTop (own_f3 m 344 av bv cv fl kb kc 1 1 1 li qa qb qc 1 (fl &&& (3 : Int32)) ((fl >>> ((4 : Int32) &&& 31)) &&& (3 : Int32)) [(gl 2)]))
    refine Go.step (fun t k => XS.iload X15.here hx rfl (hb hby at_344) rfl (XS.lloadN X15.here hx rfl (hb hby at_346) rfl (XS.aload X15.here hx rfl (hb hby at_347) rfl rfl (XS.iload X15.here hx rfl (hb hby at_349) rfl (XS.lload X15.here hx rfl (hb hby at_351) rfl (XS.aload X15.here hx rfl (hb hby at_353) rfl rfl (XS.iload X15.here hx rfl (hb hby at_355) rfl (XS.lload X15.here hx rfl (hb hby at_357) rfl (XS.aload X15.here hx rfl (hb hby at_359) rfl rfl k))))))))) ?_
    show Go _ _ _ _ _ _ _ (T15.setTop (own_f3 m 361 av bv cv fl kb kc 1 1 1 li qa qb qc 1 (fl &&& (3 : Int32)) ((fl >>> ((4 : Int32) &&& 31)) &&& (3 : Int32)) [(.ref qc), (.long kc), (.int (1 : Int32)), (.ref qb), (.long kb), (.int (1 : Int32)), (.ref qa), (.long av), (.int (1 : Int32)), (gl 2)]))
    obtain ⟨_, _, ⟨T16, L16, k16, n16⟩, -, X16, ⟨Lc16, hQ16, l16, y16, z16⟩, st16⟩ := Jvm.LawKit.callS X15 hx (y := (⟨"com/example/matchstone/matchstone/LevelIndexBestPinLaw", "expected", "(ZJLcom/example/matchstone/matchstone/PriceLevel;ZJLcom/example/matchstone/matchstone/PriceLevel;ZJLcom/example/matchstone/matchstone/PriceLevel;)Lcom/example/matchstone/matchstone/PriceLevel;"⟩ : MethodName)) hown (mvT hZ (hw _ (List.mem_of_getElem? (i := 89) rfl))) (mvT hZ (hw _ (List.mem_of_getElem? (i := 90) rfl))) (mvT hZ (hw _ (List.mem_of_getElem? (i := 91) rfl))) (mvT hZ (hw _ (List.mem_of_getElem? (i := 92) rfl))) (by decide) (backOf (W := 1) (rm14 l Z a0 hw [] (1 : Int32) av qa (1 : Int32) kb qb (1 : Int32) kc qc true true true hc n0 Zc (Or.inr ⟨rfl, rfl⟩) (Or.inr ⟨rfl, rfl⟩) (Or.inr ⟨rfl, rfl⟩)) hZ (hw _ (List.mem_of_getElem? (i := 92) rfl)) (hw _ (List.mem_of_getElem? (i := 91) rfl)) (by decide) (by decide)) (g := (own_f3 m 361 av bv cv fl kb kc 1 1 1 li qa qb qc 1 (fl &&& (3 : Int32)) ((fl >>> ((4 : Int32) &&& 31)) &&& (3 : Int32)) [(.ref qc), (.long kc), (.int (1 : Int32)), (.ref qb), (.long kb), (.int (1 : Int32)), (.ref qa), (.long av), (.int (1 : Int32)), (gl 2)])) rfl (by rw [hml]; rfl) (argsL := [(.int (1 : Int32)), (.long av), (.ref qa), (.int (1 : Int32)), (.long kb), (.ref qb), (.int (1 : Int32)), (.long kc), (.ref qc)]) (rest := [(gl 2)]) (lenOf pd_0_1 rfl) rfl (by show 2 * 0 + _ ≤ _; exact own_w1 (RAr.ref R_lr (by decide))) (hb hby at_361) (fun _ _ => ⟨rfl, K15q, (by decide : 7 + 0 ≤ _), (by decide : 164 + 0 ≤ _)⟩)
    dsimp only [Pt.U, Pt.locs, Pt.cells, Pt.slots] at X16 l16 y16 z16 st16 hQ16
    subst l16 y16 z16
    obtain ⟨vv_16, rfl, N16q, K16q, o16_hvr, o16_hG⟩ := hQ16
    have N16 := Fr.app N15 N16q
    refine Go.step st16 ?_
    show Go _ _ _ _ _ _ _ (T16.setTop (own_f3 m 364 av bv cv fl kb kc 1 1 1 li qa qb qc 1 (fl &&& (3 : Int32)) ((fl >>> ((4 : Int32) &&& 31)) &&& (3 : Int32)) [vv_16, (gl 2)]))
    refine Go.step (fun t k => Jvm.RoadKit.acmp (g := (own_f3 m 364 av bv cv fl kb kc 1 1 1 li qa qb qc 1 (fl &&& (3 : Int32)) ((fl >>> ((4 : Int32) &&& 31)) &&& (3 : Int32)) [vv_16, (gl 2)])) X16 hx rfl (RAr.ref R_lr (by decide)) o16_hvr (pc0 := 364) (pc' := 367) (same := true) rfl (hb hby at_364) rfl (decide_eq_true (own_X1 (n := 2) hI o16_hG (by decide))) (by decide) (by decide) k) ?_
    show Go _ _ _ _ _ _ _ (T16.setTop (own_f3 m 367 av bv cv fl kb kc 1 1 1 li qa qb qc 1 (fl &&& (3 : Int32)) ((fl >>> ((4 : Int32) &&& 31)) &&& (3 : Int32)) []))
    refine Go.step (fun t k => XS.iconst X16.here hx rfl (hb hby at_367) k) ?_
    show Go _ _ _ _ _ _ _ (T16.setTop (own_f3 m 368 av bv cv fl kb kc 1 1 1 li qa qb qc 1 (fl &&& (3 : Int32)) ((fl >>> ((4 : Int32) &&& 31)) &&& (3 : Int32)) [(.int (1 : Int32))]))
    refine Go.step (fun t k => XS.goto X16.here hx rfl (pc0 := 368) (pc' := 372) rfl (hb hby at_368) (by decide) (by decide) (XS.istore X16.here hx rfl (hb hby at_372) rfl (l' := #[.val (.long av), .second, .val (.long bv), .second, .val (.long cv), .second, .val (.int fl), .val (.long kb), .second, .val (.long kc), .second, .val (.int (1 : Int32)), .val (.int (1 : Int32)), .val (.int (1 : Int32)), .val (.ref li), .val (.ref qa), .val (.ref qb), .val (.ref qc), .val (.int (1 : Int32)), .val (.int (fl &&& (3 : Int32))), .val (.int ((fl >>> ((4 : Int32) &&& 31)) &&& (3 : Int32))), .val (.int (1 : Int32))]) rfl (XS.iload X16.here hx rfl (hb hby at_374) rfl k))) ?_
    show Go _ _ _ _ _ _ _ (T16.setTop (own_f4 m 376 av bv cv fl kb kc 1 1 1 li qa qb qc 1 (fl &&& (3 : Int32)) ((fl >>> ((4 : Int32) &&& 31)) &&& (3 : Int32)) 1 [(.int (1 : Int32))]))
    refine Go.step (fun t k => XS.ifNo X16.here hx rfl (hb hby at_376) rfl ((if0 _ _).trans (feq (by decide : ¬ (1 : Int32) = (0 : Int32))).1) k) ?_
    show Go _ _ _ _ _ _ _ (T16.setTop (own_f4 m 379 av bv cv fl kb kc 1 1 1 li qa qb qc 1 (fl &&& (3 : Int32)) ((fl >>> ((4 : Int32) &&& 31)) &&& (3 : Int32)) 1 []))
    refine Go.step (fun t k => XS.iload X16.here hx rfl (hb hby at_379) rfl k) ?_
    show Go _ _ _ _ _ _ _ (T16.setTop (own_f4 m 381 av bv cv fl kb kc 1 1 1 li qa qb qc 1 (fl &&& (3 : Int32)) ((fl >>> ((4 : Int32) &&& 31)) &&& (3 : Int32)) 1 [(.int (1 : Int32))]))
    refine Go.step (fun t k => XS.ifNo X16.here hx rfl (hb hby at_381) rfl ((if0 _ _).trans (feq (by decide : ¬ (1 : Int32) = (0 : Int32))).1) k) ?_
    show Go _ _ _ _ _ _ _ (T16.setTop (own_f4 m 384 av bv cv fl kb kc 1 1 1 li qa qb qc 1 (fl &&& (3 : Int32)) ((fl >>> ((4 : Int32) &&& 31)) &&& (3 : Int32)) 1 []))
    refine Go.step (fun t k => XS.iconst X16.here hx rfl (hb hby at_384) k) ?_
    show Go _ _ _ _ _ _ _ (T16.setTop (own_f4 m 385 av bv cv fl kb kc 1 1 1 li qa qb qc 1 (fl &&& (3 : Int32)) ((fl >>> ((4 : Int32) &&& 31)) &&& (3 : Int32)) 1 [(.int (1 : Int32))]))
    refine Go.step (fun t k => XS.goto X16.here hx rfl (pc0 := 385) (pc' := 389) rfl (hb hby at_385) (by decide) (by decide) k) ?_
    show Go _ _ _ _ _ _ _ (T16.setTop (own_f4 m 389 av bv cv fl kb kc 1 1 1 li qa qb qc 1 (fl &&& (3 : Int32)) ((fl >>> ((4 : Int32) &&& 31)) &&& (3 : Int32)) 1 [(.int (1 : Int32))]))
    refine Go.retN X16 Bd.notSynchronized hx (t := .boolean) Bd.returns (by simp) (hb hby at_389) (by decide) (by decide) (1 : Int32) rfl ?_
    rw [K16q]
    exact ⟨rfl, N16⟩
  have L263_000 : ∀ (Tc : State) (hc : Heap) (lc : List Loc) (kb : Int64) (kc : Int64) (li : Addr) (qa : Addr) (qb : Addr) (qc : Addr) (nd : Addr) (kr : Addr) (lr : Addr) (gk : Nat → Int64) (gl : Nat → Value) (aw : Value), (Stand p l e room_1 s m #[(.long av), (.long bv), (.long cv), (.int fl)] below meth c Tc lc 10 300) → (Tc.heap = hc) → (Fr n0 lc) → (n0 ≤ hc.size) → (Fld Z hc li "com/example/matchstone/matchstone/LevelIndex" "last" "Lcom/example/matchstone/matchstone/LevelIndex$Node;" (.ref nd)) → (Exa Z hc li "com/example/matchstone/matchstone/LevelIndex") → (Fld Z hc nd "com/example/matchstone/matchstone/LevelIndex$Node" "keys" "[J" (.ref kr)) → (Fld Z hc nd "com/example/matchstone/matchstone/LevelIndex$Node" "levels" "[Lcom/example/matchstone/matchstone/PriceLevel;" (.ref lr)) → (Fld Z hc nd "com/example/matchstone/matchstone/LevelIndex$Node" "size" "I" (.int (0 : Int32))) → (RAr Z hc lr "com/example/matchstone/matchstone/PriceLevel" 65 gl) → (own_I 0 gk gl false false false av kb kc qa qb qc) → Go p e below s (Q0 Z av bv cv fl h0 n0) 32 704 (Tc.setTop (own_f2 m 263 av bv cv fl kb kc 0 0 0 li qa qb qc 1 (fl &&& (3 : Int32)) [])) := by
    intro Tc hc lc kb kc li qa qb qc nd kr lr gk gl aw Xc ec Nc Zc F_last_li E_li F_keys_nd F_levels_nd F_size_nd R_lr hI
    show Go _ _ _ _ _ _ _ (Tc.setTop (own_f2 m 263 av bv cv fl kb kc 0 0 0 li qa qb qc 1 (fl &&& (3 : Int32)) []))
    refine Go.step (fun t k => XS.iload Xc.here hx rfl (hb hby at_263) rfl (XS.iconst Xc.here hx rfl (hb hby at_265) (XS.ishr Xc.here hx rfl (hb hby at_266) rfl (XS.iconst Xc.here hx rfl (hb hby at_267) (XS.iand Xc.here hx rfl (hb hby at_268) rfl (XS.istore Xc.here hx rfl (hb hby at_269) rfl (l' := #[.val (.long av), .second, .val (.long bv), .second, .val (.long cv), .second, .val (.int fl), .val (.long kb), .second, .val (.long kc), .second, .val (.int (0 : Int32)), .val (.int (0 : Int32)), .val (.int (0 : Int32)), .val (.ref li), .val (.ref qa), .val (.ref qb), .val (.ref qc), .val (.int (1 : Int32)), .val (.int (fl &&& (3 : Int32))), .val (.int ((fl >>> ((4 : Int32) &&& 31)) &&& (3 : Int32))), .unset]) rfl (XS.iload Xc.here hx rfl (hb hby at_271) rfl (XS.iconst Xc.here hx rfl (hb hby at_273) k)))))))) ?_
    show Go _ _ _ _ _ _ _ (Tc.setTop (own_f3 m 274 av bv cv fl kb kc 0 0 0 li qa qb qc 1 (fl &&& (3 : Int32)) ((fl >>> ((4 : Int32) &&& 31)) &&& (3 : Int32)) [(.int (1 : Int32)), (.int ((fl >>> ((4 : Int32) &&& 31)) &&& (3 : Int32)))]))
    by_cases hc274_17 : ((fl >>> ((4 : Int32) &&& 31)) &&& (3 : Int32)) = (1 : Int32)
    · refine Go.step (fun t k => XS.icmpNo Xc.here hx rfl (hb hby at_274) rfl (teq hc274_17).2 k) ?_
      show Go _ _ _ _ _ _ _ (Tc.setTop (own_f3 m 277 av bv cv fl kb kc 0 0 0 li qa qb qc 1 (fl &&& (3 : Int32)) ((fl >>> ((4 : Int32) &&& 31)) &&& (3 : Int32)) []))
      refine Go.step (fun t k => XS.iload Xc.here hx rfl (hb hby at_277) rfl k) ?_
      show Go _ _ _ _ _ _ _ (Tc.setTop (own_f3 m 279 av bv cv fl kb kc 0 0 0 li qa qb qc 1 (fl &&& (3 : Int32)) ((fl >>> ((4 : Int32) &&& 31)) &&& (3 : Int32)) [(.int (0 : Int32))]))
      refine Go.step (fun t k => XS.ifYes Xc.here hx rfl (pc0 := 279) (pc' := 294) rfl (hb hby at_279) rfl ((if0 _ _).trans (teq (by decide : (0 : Int32) = (0 : Int32))).1) (by decide) (by decide) k) ?_
      show Go _ _ _ _ _ _ _ (Tc.setTop (own_f3 m 294 av bv cv fl kb kc 0 0 0 li qa qb qc 1 (fl &&& (3 : Int32)) ((fl >>> ((4 : Int32) &&& 31)) &&& (3 : Int32)) []))
      refine Go.step (fun t k => XS.iload Xc.here hx rfl (hb hby at_294) rfl (XS.iconst Xc.here hx rfl (hb hby at_296) k)) ?_
      show Go _ _ _ _ _ _ _ (Tc.setTop (own_f3 m 297 av bv cv fl kb kc 0 0 0 li qa qb qc 1 (fl &&& (3 : Int32)) ((fl >>> ((4 : Int32) &&& 31)) &&& (3 : Int32)) [(.int (2 : Int32)), (.int ((fl >>> ((4 : Int32) &&& 31)) &&& (3 : Int32)))]))
      refine Go.step (fun t k => XS.icmpYes Xc.here hx rfl (pc0 := 297) (pc' := 318) rfl (hb hby at_297) rfl (feq (fun q => absurd (hc274_17.symm.trans q) (by decide) : ¬ ((fl >>> ((4 : Int32) &&& 31)) &&& (3 : Int32)) = (2 : Int32))).2 (by decide) (by decide) k) ?_
      show Go _ _ _ _ _ _ _ (Tc.setTop (own_f3 m 318 av bv cv fl kb kc 0 0 0 li qa qb qc 1 (fl &&& (3 : Int32)) ((fl >>> ((4 : Int32) &&& 31)) &&& (3 : Int32)) []))
      refine Go.step (fun t k => XS.iload Xc.here hx rfl (hb hby at_318) rfl (XS.iconst Xc.here hx rfl (hb hby at_320) k)) ?_
      show Go _ _ _ _ _ _ _ (Tc.setTop (own_f3 m 321 av bv cv fl kb kc 0 0 0 li qa qb qc 1 (fl &&& (3 : Int32)) ((fl >>> ((4 : Int32) &&& 31)) &&& (3 : Int32)) [(.int (3 : Int32)), (.int ((fl >>> ((4 : Int32) &&& 31)) &&& (3 : Int32)))]))
      refine Go.step (fun t k => XS.icmpYes Xc.here hx rfl (pc0 := 321) (pc' := 339) rfl (hb hby at_321) rfl (feq (fun q => absurd (hc274_17.symm.trans q) (by decide) : ¬ ((fl >>> ((4 : Int32) &&& 31)) &&& (3 : Int32)) = (3 : Int32))).2 (by decide) (by decide) k) ?_
      show Go _ _ _ _ _ _ _ (Tc.setTop (own_f3 m 339 av bv cv fl kb kc 0 0 0 li qa qb qc 1 (fl &&& (3 : Int32)) ((fl >>> ((4 : Int32) &&& 31)) &&& (3 : Int32)) []))
      exact L339_000 _ _ _ kb kc li qa qb qc nd kr lr gk gl aw Xc ec Nc Zc F_last_li E_li F_keys_nd F_levels_nd F_size_nd R_lr hI
    · refine Go.step (fun t k => XS.icmpYes Xc.here hx rfl (pc0 := 274) (pc' := 294) rfl (hb hby at_274) rfl (feq hc274_17).2 (by decide) (by decide) k) ?_
      show Go _ _ _ _ _ _ _ (Tc.setTop (own_f3 m 294 av bv cv fl kb kc 0 0 0 li qa qb qc 1 (fl &&& (3 : Int32)) ((fl >>> ((4 : Int32) &&& 31)) &&& (3 : Int32)) []))
      refine Go.step (fun t k => XS.iload Xc.here hx rfl (hb hby at_294) rfl (XS.iconst Xc.here hx rfl (hb hby at_296) k)) ?_
      show Go _ _ _ _ _ _ _ (Tc.setTop (own_f3 m 297 av bv cv fl kb kc 0 0 0 li qa qb qc 1 (fl &&& (3 : Int32)) ((fl >>> ((4 : Int32) &&& 31)) &&& (3 : Int32)) [(.int (2 : Int32)), (.int ((fl >>> ((4 : Int32) &&& 31)) &&& (3 : Int32)))]))
      by_cases hc297_18 : ((fl >>> ((4 : Int32) &&& 31)) &&& (3 : Int32)) = (2 : Int32)
      · refine Go.step (fun t k => XS.icmpNo Xc.here hx rfl (hb hby at_297) rfl (teq hc297_18).2 k) ?_
        show Go _ _ _ _ _ _ _ (Tc.setTop (own_f3 m 300 av bv cv fl kb kc 0 0 0 li qa qb qc 1 (fl &&& (3 : Int32)) ((fl >>> ((4 : Int32) &&& 31)) &&& (3 : Int32)) []))
        refine Go.step (fun t k => XS.iload Xc.here hx rfl (hb hby at_300) rfl k) ?_
        show Go _ _ _ _ _ _ _ (Tc.setTop (own_f3 m 302 av bv cv fl kb kc 0 0 0 li qa qb qc 1 (fl &&& (3 : Int32)) ((fl >>> ((4 : Int32) &&& 31)) &&& (3 : Int32)) [(.int (0 : Int32))]))
        refine Go.step (fun t k => XS.ifYes Xc.here hx rfl (pc0 := 302) (pc' := 318) rfl (hb hby at_302) rfl ((if0 _ _).trans (teq (by decide : (0 : Int32) = (0 : Int32))).1) (by decide) (by decide) k) ?_
        show Go _ _ _ _ _ _ _ (Tc.setTop (own_f3 m 318 av bv cv fl kb kc 0 0 0 li qa qb qc 1 (fl &&& (3 : Int32)) ((fl >>> ((4 : Int32) &&& 31)) &&& (3 : Int32)) []))
        refine Go.step (fun t k => XS.iload Xc.here hx rfl (hb hby at_318) rfl (XS.iconst Xc.here hx rfl (hb hby at_320) k)) ?_
        show Go _ _ _ _ _ _ _ (Tc.setTop (own_f3 m 321 av bv cv fl kb kc 0 0 0 li qa qb qc 1 (fl &&& (3 : Int32)) ((fl >>> ((4 : Int32) &&& 31)) &&& (3 : Int32)) [(.int (3 : Int32)), (.int ((fl >>> ((4 : Int32) &&& 31)) &&& (3 : Int32)))]))
        refine Go.step (fun t k => XS.icmpYes Xc.here hx rfl (pc0 := 321) (pc' := 339) rfl (hb hby at_321) rfl (feq (fun q => absurd (hc297_18.symm.trans q) (by decide) : ¬ ((fl >>> ((4 : Int32) &&& 31)) &&& (3 : Int32)) = (3 : Int32))).2 (by decide) (by decide) k) ?_
        show Go _ _ _ _ _ _ _ (Tc.setTop (own_f3 m 339 av bv cv fl kb kc 0 0 0 li qa qb qc 1 (fl &&& (3 : Int32)) ((fl >>> ((4 : Int32) &&& 31)) &&& (3 : Int32)) []))
        exact L339_000 _ _ _ kb kc li qa qb qc nd kr lr gk gl aw Xc ec Nc Zc F_last_li E_li F_keys_nd F_levels_nd F_size_nd R_lr hI
      · refine Go.step (fun t k => XS.icmpYes Xc.here hx rfl (pc0 := 297) (pc' := 318) rfl (hb hby at_297) rfl (feq hc297_18).2 (by decide) (by decide) k) ?_
        show Go _ _ _ _ _ _ _ (Tc.setTop (own_f3 m 318 av bv cv fl kb kc 0 0 0 li qa qb qc 1 (fl &&& (3 : Int32)) ((fl >>> ((4 : Int32) &&& 31)) &&& (3 : Int32)) []))
        refine Go.step (fun t k => XS.iload Xc.here hx rfl (hb hby at_318) rfl (XS.iconst Xc.here hx rfl (hb hby at_320) k)) ?_
        show Go _ _ _ _ _ _ _ (Tc.setTop (own_f3 m 321 av bv cv fl kb kc 0 0 0 li qa qb qc 1 (fl &&& (3 : Int32)) ((fl >>> ((4 : Int32) &&& 31)) &&& (3 : Int32)) [(.int (3 : Int32)), (.int ((fl >>> ((4 : Int32) &&& 31)) &&& (3 : Int32)))]))
        by_cases hc321_19 : ((fl >>> ((4 : Int32) &&& 31)) &&& (3 : Int32)) = (3 : Int32)
        · refine Go.step (fun t k => XS.icmpNo Xc.here hx rfl (hb hby at_321) rfl (teq hc321_19).2 k) ?_
          show Go _ _ _ _ _ _ _ (Tc.setTop (own_f3 m 324 av bv cv fl kb kc 0 0 0 li qa qb qc 1 (fl &&& (3 : Int32)) ((fl >>> ((4 : Int32) &&& 31)) &&& (3 : Int32)) []))
          refine Go.step (fun t k => XS.iload Xc.here hx rfl (hb hby at_324) rfl k) ?_
          show Go _ _ _ _ _ _ _ (Tc.setTop (own_f3 m 326 av bv cv fl kb kc 0 0 0 li qa qb qc 1 (fl &&& (3 : Int32)) ((fl >>> ((4 : Int32) &&& 31)) &&& (3 : Int32)) [(.int (0 : Int32))]))
          refine Go.step (fun t k => XS.ifYes Xc.here hx rfl (pc0 := 326) (pc' := 339) rfl (hb hby at_326) rfl ((if0 _ _).trans (teq (by decide : (0 : Int32) = (0 : Int32))).1) (by decide) (by decide) k) ?_
          show Go _ _ _ _ _ _ _ (Tc.setTop (own_f3 m 339 av bv cv fl kb kc 0 0 0 li qa qb qc 1 (fl &&& (3 : Int32)) ((fl >>> ((4 : Int32) &&& 31)) &&& (3 : Int32)) []))
          exact L339_000 _ _ _ kb kc li qa qb qc nd kr lr gk gl aw Xc ec Nc Zc F_last_li E_li F_keys_nd F_levels_nd F_size_nd R_lr hI
        · refine Go.step (fun t k => XS.icmpYes Xc.here hx rfl (pc0 := 321) (pc' := 339) rfl (hb hby at_321) rfl (feq hc321_19).2 (by decide) (by decide) k) ?_
          show Go _ _ _ _ _ _ _ (Tc.setTop (own_f3 m 339 av bv cv fl kb kc 0 0 0 li qa qb qc 1 (fl &&& (3 : Int32)) ((fl >>> ((4 : Int32) &&& 31)) &&& (3 : Int32)) []))
          exact L339_000 _ _ _ kb kc li qa qb qc nd kr lr gk gl aw Xc ec Nc Zc F_last_li E_li F_keys_nd F_levels_nd F_size_nd R_lr hI
  have L263_001 : ∀ (Tc : State) (hc : Heap) (lc : List Loc) (kb : Int64) (kc : Int64) (li : Addr) (qa : Addr) (qb : Addr) (qc : Addr) (nd : Addr) (kr : Addr) (lr : Addr) (gk : Nat → Int64) (gl : Nat → Value) (aw : Value), (Stand p l e room_1 s m #[(.long av), (.long bv), (.long cv), (.int fl)] below meth c Tc lc 7 164) → (Tc.heap = hc) → (Fr n0 lc) → (n0 ≤ hc.size) → (Fld Z hc li "com/example/matchstone/matchstone/LevelIndex" "root" "Lcom/example/matchstone/matchstone/LevelIndex$Node;" (.ref nd)) → (Fld Z hc li "com/example/matchstone/matchstone/LevelIndex" "last" "Lcom/example/matchstone/matchstone/LevelIndex$Node;" (.ref nd)) → (Fld Z hc li "com/example/matchstone/matchstone/LevelIndex" "ahead" "Lcom/example/matchstone/matchstone/PriceLevel;" aw) → (Exa Z hc li "com/example/matchstone/matchstone/LevelIndex") → (n0 ≤ li) → (Fld Z hc nd "com/example/matchstone/matchstone/LevelIndex$Node" "keys" "[J" (.ref kr)) → (Fld Z hc nd "com/example/matchstone/matchstone/LevelIndex$Node" "levels" "[Lcom/example/matchstone/matchstone/PriceLevel;" (.ref lr)) → (Fld Z hc nd "com/example/matchstone/matchstone/LevelIndex$Node" "children" "[Lcom/example/matchstone/matchstone/LevelIndex$Node;" .null) → (Fld Z hc nd "com/example/matchstone/matchstone/LevelIndex$Node" "size" "I" (.int (1 : Int32))) → (Fld Z hc nd "com/example/matchstone/matchstone/LevelIndex$Node" "next" "Lcom/example/matchstone/matchstone/LevelIndex$Node;" .null) → (Fld Z hc nd "com/example/matchstone/matchstone/LevelIndex$Node" "previous" "Lcom/example/matchstone/matchstone/LevelIndex$Node;" .null) → (Exa Z hc nd "com/example/matchstone/matchstone/LevelIndex$Node") → (AryJ Z hc kr 65 gk) → (RAr Z hc lr "com/example/matchstone/matchstone/PriceLevel" 65 gl) → (n0 ≤ nd) → (n0 ≤ kr) → (n0 ≤ lr) → (kr ≠ lr) → (own_I 1 gk gl false false true av kb kc qa qb qc) → Go p e below s (Q0 Z av bv cv fl h0 n0) 32 704 (Tc.setTop (own_f2 m 263 av bv cv fl kb kc 0 0 1 li qa qb qc 1 (fl &&& (3 : Int32)) [])) := by
    intro Tc hc lc kb kc li qa qb qc nd kr lr gk gl aw Xc ec Nc Zc F_root_li F_last_li F_ahead_li E_li g_li F_keys_nd F_levels_nd F_children_nd F_size_nd F_next_nd F_previous_nd E_nd A_kr R_lr g_nd g_kr g_lr ne_kr_lr hI
    show Go _ _ _ _ _ _ _ (Tc.setTop (own_f2 m 263 av bv cv fl kb kc 0 0 1 li qa qb qc 1 (fl &&& (3 : Int32)) []))
    refine Go.step (fun t k => XS.iload Xc.here hx rfl (hb hby at_263) rfl (XS.iconst Xc.here hx rfl (hb hby at_265) (XS.ishr Xc.here hx rfl (hb hby at_266) rfl (XS.iconst Xc.here hx rfl (hb hby at_267) (XS.iand Xc.here hx rfl (hb hby at_268) rfl (XS.istore Xc.here hx rfl (hb hby at_269) rfl (l' := #[.val (.long av), .second, .val (.long bv), .second, .val (.long cv), .second, .val (.int fl), .val (.long kb), .second, .val (.long kc), .second, .val (.int (0 : Int32)), .val (.int (0 : Int32)), .val (.int (1 : Int32)), .val (.ref li), .val (.ref qa), .val (.ref qb), .val (.ref qc), .val (.int (1 : Int32)), .val (.int (fl &&& (3 : Int32))), .val (.int ((fl >>> ((4 : Int32) &&& 31)) &&& (3 : Int32))), .unset]) rfl (XS.iload Xc.here hx rfl (hb hby at_271) rfl (XS.iconst Xc.here hx rfl (hb hby at_273) k)))))))) ?_
    show Go _ _ _ _ _ _ _ (Tc.setTop (own_f3 m 274 av bv cv fl kb kc 0 0 1 li qa qb qc 1 (fl &&& (3 : Int32)) ((fl >>> ((4 : Int32) &&& 31)) &&& (3 : Int32)) [(.int (1 : Int32)), (.int ((fl >>> ((4 : Int32) &&& 31)) &&& (3 : Int32)))]))
    by_cases hc274_20 : ((fl >>> ((4 : Int32) &&& 31)) &&& (3 : Int32)) = (1 : Int32)
    · refine Go.step (fun t k => XS.icmpNo Xc.here hx rfl (hb hby at_274) rfl (teq hc274_20).2 k) ?_
      show Go _ _ _ _ _ _ _ (Tc.setTop (own_f3 m 277 av bv cv fl kb kc 0 0 1 li qa qb qc 1 (fl &&& (3 : Int32)) ((fl >>> ((4 : Int32) &&& 31)) &&& (3 : Int32)) []))
      refine Go.step (fun t k => XS.iload Xc.here hx rfl (hb hby at_277) rfl k) ?_
      show Go _ _ _ _ _ _ _ (Tc.setTop (own_f3 m 279 av bv cv fl kb kc 0 0 1 li qa qb qc 1 (fl &&& (3 : Int32)) ((fl >>> ((4 : Int32) &&& 31)) &&& (3 : Int32)) [(.int (0 : Int32))]))
      refine Go.step (fun t k => XS.ifYes Xc.here hx rfl (pc0 := 279) (pc' := 294) rfl (hb hby at_279) rfl ((if0 _ _).trans (teq (by decide : (0 : Int32) = (0 : Int32))).1) (by decide) (by decide) k) ?_
      show Go _ _ _ _ _ _ _ (Tc.setTop (own_f3 m 294 av bv cv fl kb kc 0 0 1 li qa qb qc 1 (fl &&& (3 : Int32)) ((fl >>> ((4 : Int32) &&& 31)) &&& (3 : Int32)) []))
      refine Go.step (fun t k => XS.iload Xc.here hx rfl (hb hby at_294) rfl (XS.iconst Xc.here hx rfl (hb hby at_296) k)) ?_
      show Go _ _ _ _ _ _ _ (Tc.setTop (own_f3 m 297 av bv cv fl kb kc 0 0 1 li qa qb qc 1 (fl &&& (3 : Int32)) ((fl >>> ((4 : Int32) &&& 31)) &&& (3 : Int32)) [(.int (2 : Int32)), (.int ((fl >>> ((4 : Int32) &&& 31)) &&& (3 : Int32)))]))
      refine Go.step (fun t k => XS.icmpYes Xc.here hx rfl (pc0 := 297) (pc' := 318) rfl (hb hby at_297) rfl (feq (fun q => absurd (hc274_20.symm.trans q) (by decide) : ¬ ((fl >>> ((4 : Int32) &&& 31)) &&& (3 : Int32)) = (2 : Int32))).2 (by decide) (by decide) k) ?_
      show Go _ _ _ _ _ _ _ (Tc.setTop (own_f3 m 318 av bv cv fl kb kc 0 0 1 li qa qb qc 1 (fl &&& (3 : Int32)) ((fl >>> ((4 : Int32) &&& 31)) &&& (3 : Int32)) []))
      refine Go.step (fun t k => XS.iload Xc.here hx rfl (hb hby at_318) rfl (XS.iconst Xc.here hx rfl (hb hby at_320) k)) ?_
      show Go _ _ _ _ _ _ _ (Tc.setTop (own_f3 m 321 av bv cv fl kb kc 0 0 1 li qa qb qc 1 (fl &&& (3 : Int32)) ((fl >>> ((4 : Int32) &&& 31)) &&& (3 : Int32)) [(.int (3 : Int32)), (.int ((fl >>> ((4 : Int32) &&& 31)) &&& (3 : Int32)))]))
      refine Go.step (fun t k => XS.icmpYes Xc.here hx rfl (pc0 := 321) (pc' := 339) rfl (hb hby at_321) rfl (feq (fun q => absurd (hc274_20.symm.trans q) (by decide) : ¬ ((fl >>> ((4 : Int32) &&& 31)) &&& (3 : Int32)) = (3 : Int32))).2 (by decide) (by decide) k) ?_
      show Go _ _ _ _ _ _ _ (Tc.setTop (own_f3 m 339 av bv cv fl kb kc 0 0 1 li qa qb qc 1 (fl &&& (3 : Int32)) ((fl >>> ((4 : Int32) &&& 31)) &&& (3 : Int32)) []))
      exact L339_001 _ _ _ kb kc li qa qb qc nd kr lr gk gl aw Xc ec Nc Zc F_last_li E_li F_keys_nd F_levels_nd F_size_nd R_lr hI
    · refine Go.step (fun t k => XS.icmpYes Xc.here hx rfl (pc0 := 274) (pc' := 294) rfl (hb hby at_274) rfl (feq hc274_20).2 (by decide) (by decide) k) ?_
      show Go _ _ _ _ _ _ _ (Tc.setTop (own_f3 m 294 av bv cv fl kb kc 0 0 1 li qa qb qc 1 (fl &&& (3 : Int32)) ((fl >>> ((4 : Int32) &&& 31)) &&& (3 : Int32)) []))
      refine Go.step (fun t k => XS.iload Xc.here hx rfl (hb hby at_294) rfl (XS.iconst Xc.here hx rfl (hb hby at_296) k)) ?_
      show Go _ _ _ _ _ _ _ (Tc.setTop (own_f3 m 297 av bv cv fl kb kc 0 0 1 li qa qb qc 1 (fl &&& (3 : Int32)) ((fl >>> ((4 : Int32) &&& 31)) &&& (3 : Int32)) [(.int (2 : Int32)), (.int ((fl >>> ((4 : Int32) &&& 31)) &&& (3 : Int32)))]))
      by_cases hc297_21 : ((fl >>> ((4 : Int32) &&& 31)) &&& (3 : Int32)) = (2 : Int32)
      · refine Go.step (fun t k => XS.icmpNo Xc.here hx rfl (hb hby at_297) rfl (teq hc297_21).2 k) ?_
        show Go _ _ _ _ _ _ _ (Tc.setTop (own_f3 m 300 av bv cv fl kb kc 0 0 1 li qa qb qc 1 (fl &&& (3 : Int32)) ((fl >>> ((4 : Int32) &&& 31)) &&& (3 : Int32)) []))
        refine Go.step (fun t k => XS.iload Xc.here hx rfl (hb hby at_300) rfl k) ?_
        show Go _ _ _ _ _ _ _ (Tc.setTop (own_f3 m 302 av bv cv fl kb kc 0 0 1 li qa qb qc 1 (fl &&& (3 : Int32)) ((fl >>> ((4 : Int32) &&& 31)) &&& (3 : Int32)) [(.int (0 : Int32))]))
        refine Go.step (fun t k => XS.ifYes Xc.here hx rfl (pc0 := 302) (pc' := 318) rfl (hb hby at_302) rfl ((if0 _ _).trans (teq (by decide : (0 : Int32) = (0 : Int32))).1) (by decide) (by decide) k) ?_
        show Go _ _ _ _ _ _ _ (Tc.setTop (own_f3 m 318 av bv cv fl kb kc 0 0 1 li qa qb qc 1 (fl &&& (3 : Int32)) ((fl >>> ((4 : Int32) &&& 31)) &&& (3 : Int32)) []))
        refine Go.step (fun t k => XS.iload Xc.here hx rfl (hb hby at_318) rfl (XS.iconst Xc.here hx rfl (hb hby at_320) k)) ?_
        show Go _ _ _ _ _ _ _ (Tc.setTop (own_f3 m 321 av bv cv fl kb kc 0 0 1 li qa qb qc 1 (fl &&& (3 : Int32)) ((fl >>> ((4 : Int32) &&& 31)) &&& (3 : Int32)) [(.int (3 : Int32)), (.int ((fl >>> ((4 : Int32) &&& 31)) &&& (3 : Int32)))]))
        refine Go.step (fun t k => XS.icmpYes Xc.here hx rfl (pc0 := 321) (pc' := 339) rfl (hb hby at_321) rfl (feq (fun q => absurd (hc297_21.symm.trans q) (by decide) : ¬ ((fl >>> ((4 : Int32) &&& 31)) &&& (3 : Int32)) = (3 : Int32))).2 (by decide) (by decide) k) ?_
        show Go _ _ _ _ _ _ _ (Tc.setTop (own_f3 m 339 av bv cv fl kb kc 0 0 1 li qa qb qc 1 (fl &&& (3 : Int32)) ((fl >>> ((4 : Int32) &&& 31)) &&& (3 : Int32)) []))
        exact L339_001 _ _ _ kb kc li qa qb qc nd kr lr gk gl aw Xc ec Nc Zc F_last_li E_li F_keys_nd F_levels_nd F_size_nd R_lr hI
      · refine Go.step (fun t k => XS.icmpYes Xc.here hx rfl (pc0 := 297) (pc' := 318) rfl (hb hby at_297) rfl (feq hc297_21).2 (by decide) (by decide) k) ?_
        show Go _ _ _ _ _ _ _ (Tc.setTop (own_f3 m 318 av bv cv fl kb kc 0 0 1 li qa qb qc 1 (fl &&& (3 : Int32)) ((fl >>> ((4 : Int32) &&& 31)) &&& (3 : Int32)) []))
        refine Go.step (fun t k => XS.iload Xc.here hx rfl (hb hby at_318) rfl (XS.iconst Xc.here hx rfl (hb hby at_320) k)) ?_
        show Go _ _ _ _ _ _ _ (Tc.setTop (own_f3 m 321 av bv cv fl kb kc 0 0 1 li qa qb qc 1 (fl &&& (3 : Int32)) ((fl >>> ((4 : Int32) &&& 31)) &&& (3 : Int32)) [(.int (3 : Int32)), (.int ((fl >>> ((4 : Int32) &&& 31)) &&& (3 : Int32)))]))
        by_cases hc321_22 : ((fl >>> ((4 : Int32) &&& 31)) &&& (3 : Int32)) = (3 : Int32)
        · refine Go.step (fun t k => XS.icmpNo Xc.here hx rfl (hb hby at_321) rfl (teq hc321_22).2 k) ?_
          show Go _ _ _ _ _ _ _ (Tc.setTop (own_f3 m 324 av bv cv fl kb kc 0 0 1 li qa qb qc 1 (fl &&& (3 : Int32)) ((fl >>> ((4 : Int32) &&& 31)) &&& (3 : Int32)) []))
          refine Go.step (fun t k => XS.iload Xc.here hx rfl (hb hby at_324) rfl k) ?_
          show Go _ _ _ _ _ _ _ (Tc.setTop (own_f3 m 326 av bv cv fl kb kc 0 0 1 li qa qb qc 1 (fl &&& (3 : Int32)) ((fl >>> ((4 : Int32) &&& 31)) &&& (3 : Int32)) [(.int (1 : Int32))]))
          refine Go.step (fun t k => XS.ifNo Xc.here hx rfl (hb hby at_326) rfl ((if0 _ _).trans (feq (by decide : ¬ (1 : Int32) = (0 : Int32))).1) k) ?_
          show Go _ _ _ _ _ _ _ (Tc.setTop (own_f3 m 329 av bv cv fl kb kc 0 0 1 li qa qb qc 1 (fl &&& (3 : Int32)) ((fl >>> ((4 : Int32) &&& 31)) &&& (3 : Int32)) []))
          refine Go.step (fun t k => XS.aload Xc.here hx rfl (hb hby at_329) rfl rfl (XS.lload Xc.here hx rfl (hb hby at_331) rfl k)) ?_
          show Go _ _ _ _ _ _ _ (Tc.setTop (own_f3 m 333 av bv cv fl kb kc 0 0 1 li qa qb qc 1 (fl &&& (3 : Int32)) ((fl >>> ((4 : Int32) &&& 31)) &&& (3 : Int32)) [(.long kc), (.ref li)]))
          obtain ⟨cq23, kq23, q23a, q23b, q23c⟩ := isOf hZ ec E_li
          obtain ⟨_, _, ⟨T23, L23, k23, n23⟩, -, X23, ⟨Lc23, hQ23, l23, y23, z23⟩, st23⟩ := Xc.virtualBack hx (y := (⟨"com/example/matchstone/matchstone/LevelIndex", "remove", "(J)V"⟩ : MethodName)) (z := (⟨"com/example/matchstone/matchstone/LevelIndex", "remove", "(J)V"⟩ : MethodName)) hown (mvT hZ (hw _ (List.mem_of_getElem? (i := 93) rfl))) (mvT hZ (hw _ (List.mem_of_getElem? (i := 94) rfl))) (notFace_of_selects (args := #[]) (mvT hZ (hw _ (List.mem_of_getElem? (i := 96) rfl)))) (mvT hZ (hw _ (List.mem_of_getElem? (i := 96) rfl))) (mvT hZ (hw _ (List.mem_of_getElem? (i := 95) rfl))) (by decide) (backOf (W := 0) (rm15_1 l Z a0 hw [] li kc nd kr lr gk gl aw hc n0 Zc F_root_li F_last_li F_ahead_li E_li g_li F_keys_nd F_levels_nd F_children_nd F_size_nd F_next_nd F_previous_nd E_nd A_kr R_lr g_nd g_kr g_lr ne_kr_lr (own_I.srt hI) (own_I.inC hI)) hZ (hw _ (List.mem_of_getElem? (i := 97) rfl)) (hw _ (List.mem_of_getElem? (i := 2) rfl)) (by decide) (by decide)) q23a q23c (g := (own_f3 m 333 av bv cv fl kb kc 0 0 1 li qa qb qc 1 (fl &&& (3 : Int32)) ((fl >>> ((4 : Int32) &&& 31)) &&& (3 : Int32)) [(.long kc), (.ref li)])) rfl (by rw [hml]; rfl) (Steps.refl _) (argsL := [(.long kc)]) (rest := []) (lenOf pd_0_2 rfl) rfl (by show 2 * 0 + _ ≤ _; exact Nat.le_of_eq rfl) (hb hby at_333) (fun _ _ => ⟨rfl, ec, (by decide : 7 + 3 ≤ _), (by decide : 164 + 136 ≤ _)⟩)
          dsimp only [Pt.U, Pt.locs, Pt.cells, Pt.slots] at X23 l23 y23 z23 st23 hQ23
          subst l23 y23 z23
          obtain ⟨nd2_23, kr2_23, lr2_23, rfl, N23q, K23q, o23_nw_nd2_23, o23_nw_kr2_23, o23_nw_lr2_23, o23_ne_kr2_23_lr2_23, o23_F_root_li, o23_F_last_li, o23_F_ahead_li, o23_E_li, o23_F_keys_nd2_23, o23_F_levels_nd2_23, o23_F_children_nd2_23, o23_F_size_nd2_23, o23_F_next_nd2_23, o23_F_previous_nd2_23, o23_E_nd2_23, o23_A_kr2_23, o23_R_lr2_23⟩ := hQ23
          have N23 := Fr.app Nc N23q
          have ne_li_nd2_23 : li ≠ nd2_23 := Nat.ne_of_lt (Nat.lt_of_lt_of_le F_root_li.lt o23_nw_nd2_23)
          have ne_nd_nd2_23 : nd ≠ nd2_23 := Nat.ne_of_lt (Nat.lt_of_lt_of_le F_keys_nd.lt o23_nw_nd2_23)
          have ne_kr_nd2_23 : kr ≠ nd2_23 := Nat.ne_of_lt (Nat.lt_of_lt_of_le A_kr.lt o23_nw_nd2_23)
          have ne_lr_nd2_23 : lr ≠ nd2_23 := Nat.ne_of_lt (Nat.lt_of_lt_of_le R_lr.lt o23_nw_nd2_23)
          have g_nd2_23 : n0 ≤ nd2_23 := Nat.le_trans Zc o23_nw_nd2_23
          have ne_li_kr2_23 : li ≠ kr2_23 := Nat.ne_of_lt (Nat.lt_of_lt_of_le F_root_li.lt o23_nw_kr2_23)
          have ne_nd_kr2_23 : nd ≠ kr2_23 := Nat.ne_of_lt (Nat.lt_of_lt_of_le F_keys_nd.lt o23_nw_kr2_23)
          have ne_kr_kr2_23 : kr ≠ kr2_23 := Nat.ne_of_lt (Nat.lt_of_lt_of_le A_kr.lt o23_nw_kr2_23)
          have ne_lr_kr2_23 : lr ≠ kr2_23 := Nat.ne_of_lt (Nat.lt_of_lt_of_le R_lr.lt o23_nw_kr2_23)
          have g_kr2_23 : n0 ≤ kr2_23 := Nat.le_trans Zc o23_nw_kr2_23
          have ne_li_lr2_23 : li ≠ lr2_23 := Nat.ne_of_lt (Nat.lt_of_lt_of_le F_root_li.lt o23_nw_lr2_23)
          have ne_nd_lr2_23 : nd ≠ lr2_23 := Nat.ne_of_lt (Nat.lt_of_lt_of_le F_keys_nd.lt o23_nw_lr2_23)
          have ne_kr_lr2_23 : kr ≠ lr2_23 := Nat.ne_of_lt (Nat.lt_of_lt_of_le A_kr.lt o23_nw_lr2_23)
          have ne_lr_lr2_23 : lr ≠ lr2_23 := Nat.ne_of_lt (Nat.lt_of_lt_of_le R_lr.lt o23_nw_lr2_23)
          have g_lr2_23 : n0 ≤ lr2_23 := Nat.le_trans Zc o23_nw_lr2_23
          replace E_li := E_li.keep K23q
          replace E_nd := E_nd.keep K23q
          have Z23 := Nat.le_trans Zc K23q.1
          have F_root_li := o23_F_root_li
          have F_last_li := o23_F_last_li
          have F_ahead_li := o23_F_ahead_li
          have E_li := o23_E_li
          have F_keys_nd2_23 := o23_F_keys_nd2_23
          have F_levels_nd2_23 := o23_F_levels_nd2_23
          have F_children_nd2_23 := o23_F_children_nd2_23
          have F_size_nd2_23 := o23_F_size_nd2_23
          have F_next_nd2_23 := o23_F_next_nd2_23
          have F_previous_nd2_23 := o23_F_previous_nd2_23
          have E_nd2_23 := o23_E_nd2_23
          have A_kr2_23 := o23_A_kr2_23
          have R_lr2_23 := o23_R_lr2_23
          refine Go.step (fun t k => st23.trans k) ?_
          show Go _ _ _ _ _ _ _ (T23.setTop (own_f3 m 336 av bv cv fl kb kc 0 0 1 li qa qb qc 1 (fl &&& (3 : Int32)) ((fl >>> ((4 : Int32) &&& 31)) &&& (3 : Int32)) []))
          have hI_24 : own_I 0 (fun _ => (0 : Int64)) (fun _ => .null) false false false av kb kc qa qb qc := by exact own_I.nil
          refine Go.step (fun t k => XS.iconst X23.here hx rfl (hb hby at_336) (XS.istore X23.here hx rfl (hb hby at_337) rfl (l' := #[.val (.long av), .second, .val (.long bv), .second, .val (.long cv), .second, .val (.int fl), .val (.long kb), .second, .val (.long kc), .second, .val (.int (0 : Int32)), .val (.int (0 : Int32)), .val (.int (0 : Int32)), .val (.ref li), .val (.ref qa), .val (.ref qb), .val (.ref qc), .val (.int (1 : Int32)), .val (.int (fl &&& (3 : Int32))), .val (.int ((fl >>> ((4 : Int32) &&& 31)) &&& (3 : Int32))), .unset]) rfl k)) ?_
          show Go _ _ _ _ _ _ _ (T23.setTop (own_f3 m 339 av bv cv fl kb kc 0 0 0 li qa qb qc 1 (fl &&& (3 : Int32)) ((fl >>> ((4 : Int32) &&& 31)) &&& (3 : Int32)) []))
          exact L339_000 _ _ _ kb kc li qa qb qc nd2_23 kr2_23 lr2_23 (fun _ => (0 : Int64)) (fun _ => .null) aw X23 rfl N23 Z23 F_last_li E_li F_keys_nd2_23 F_levels_nd2_23 F_size_nd2_23 R_lr2_23 hI_24
        · refine Go.step (fun t k => XS.icmpYes Xc.here hx rfl (pc0 := 321) (pc' := 339) rfl (hb hby at_321) rfl (feq hc321_22).2 (by decide) (by decide) k) ?_
          show Go _ _ _ _ _ _ _ (Tc.setTop (own_f3 m 339 av bv cv fl kb kc 0 0 1 li qa qb qc 1 (fl &&& (3 : Int32)) ((fl >>> ((4 : Int32) &&& 31)) &&& (3 : Int32)) []))
          exact L339_001 _ _ _ kb kc li qa qb qc nd kr lr gk gl aw Xc ec Nc Zc F_last_li E_li F_keys_nd F_levels_nd F_size_nd R_lr hI
  have L263_010 : ∀ (Tc : State) (hc : Heap) (lc : List Loc) (kb : Int64) (kc : Int64) (li : Addr) (qa : Addr) (qb : Addr) (qc : Addr) (nd : Addr) (kr : Addr) (lr : Addr) (gk : Nat → Int64) (gl : Nat → Value) (aw : Value), (Stand p l e room_1 s m #[(.long av), (.long bv), (.long cv), (.int fl)] below meth c Tc lc 7 164) → (Tc.heap = hc) → (Fr n0 lc) → (n0 ≤ hc.size) → (Fld Z hc li "com/example/matchstone/matchstone/LevelIndex" "root" "Lcom/example/matchstone/matchstone/LevelIndex$Node;" (.ref nd)) → (Fld Z hc li "com/example/matchstone/matchstone/LevelIndex" "last" "Lcom/example/matchstone/matchstone/LevelIndex$Node;" (.ref nd)) → (Fld Z hc li "com/example/matchstone/matchstone/LevelIndex" "ahead" "Lcom/example/matchstone/matchstone/PriceLevel;" aw) → (Exa Z hc li "com/example/matchstone/matchstone/LevelIndex") → (n0 ≤ li) → (Fld Z hc nd "com/example/matchstone/matchstone/LevelIndex$Node" "keys" "[J" (.ref kr)) → (Fld Z hc nd "com/example/matchstone/matchstone/LevelIndex$Node" "levels" "[Lcom/example/matchstone/matchstone/PriceLevel;" (.ref lr)) → (Fld Z hc nd "com/example/matchstone/matchstone/LevelIndex$Node" "children" "[Lcom/example/matchstone/matchstone/LevelIndex$Node;" .null) → (Fld Z hc nd "com/example/matchstone/matchstone/LevelIndex$Node" "size" "I" (.int (1 : Int32))) → (Fld Z hc nd "com/example/matchstone/matchstone/LevelIndex$Node" "next" "Lcom/example/matchstone/matchstone/LevelIndex$Node;" .null) → (Fld Z hc nd "com/example/matchstone/matchstone/LevelIndex$Node" "previous" "Lcom/example/matchstone/matchstone/LevelIndex$Node;" .null) → (Exa Z hc nd "com/example/matchstone/matchstone/LevelIndex$Node") → (AryJ Z hc kr 65 gk) → (RAr Z hc lr "com/example/matchstone/matchstone/PriceLevel" 65 gl) → (n0 ≤ nd) → (n0 ≤ kr) → (n0 ≤ lr) → (kr ≠ lr) → (own_I 1 gk gl false true false av kb kc qa qb qc) → Go p e below s (Q0 Z av bv cv fl h0 n0) 32 704 (Tc.setTop (own_f2 m 263 av bv cv fl kb kc 0 1 0 li qa qb qc 1 (fl &&& (3 : Int32)) [])) := by
    intro Tc hc lc kb kc li qa qb qc nd kr lr gk gl aw Xc ec Nc Zc F_root_li F_last_li F_ahead_li E_li g_li F_keys_nd F_levels_nd F_children_nd F_size_nd F_next_nd F_previous_nd E_nd A_kr R_lr g_nd g_kr g_lr ne_kr_lr hI
    show Go _ _ _ _ _ _ _ (Tc.setTop (own_f2 m 263 av bv cv fl kb kc 0 1 0 li qa qb qc 1 (fl &&& (3 : Int32)) []))
    refine Go.step (fun t k => XS.iload Xc.here hx rfl (hb hby at_263) rfl (XS.iconst Xc.here hx rfl (hb hby at_265) (XS.ishr Xc.here hx rfl (hb hby at_266) rfl (XS.iconst Xc.here hx rfl (hb hby at_267) (XS.iand Xc.here hx rfl (hb hby at_268) rfl (XS.istore Xc.here hx rfl (hb hby at_269) rfl (l' := #[.val (.long av), .second, .val (.long bv), .second, .val (.long cv), .second, .val (.int fl), .val (.long kb), .second, .val (.long kc), .second, .val (.int (0 : Int32)), .val (.int (1 : Int32)), .val (.int (0 : Int32)), .val (.ref li), .val (.ref qa), .val (.ref qb), .val (.ref qc), .val (.int (1 : Int32)), .val (.int (fl &&& (3 : Int32))), .val (.int ((fl >>> ((4 : Int32) &&& 31)) &&& (3 : Int32))), .unset]) rfl (XS.iload Xc.here hx rfl (hb hby at_271) rfl (XS.iconst Xc.here hx rfl (hb hby at_273) k)))))))) ?_
    show Go _ _ _ _ _ _ _ (Tc.setTop (own_f3 m 274 av bv cv fl kb kc 0 1 0 li qa qb qc 1 (fl &&& (3 : Int32)) ((fl >>> ((4 : Int32) &&& 31)) &&& (3 : Int32)) [(.int (1 : Int32)), (.int ((fl >>> ((4 : Int32) &&& 31)) &&& (3 : Int32)))]))
    by_cases hc274_25 : ((fl >>> ((4 : Int32) &&& 31)) &&& (3 : Int32)) = (1 : Int32)
    · refine Go.step (fun t k => XS.icmpNo Xc.here hx rfl (hb hby at_274) rfl (teq hc274_25).2 k) ?_
      show Go _ _ _ _ _ _ _ (Tc.setTop (own_f3 m 277 av bv cv fl kb kc 0 1 0 li qa qb qc 1 (fl &&& (3 : Int32)) ((fl >>> ((4 : Int32) &&& 31)) &&& (3 : Int32)) []))
      refine Go.step (fun t k => XS.iload Xc.here hx rfl (hb hby at_277) rfl k) ?_
      show Go _ _ _ _ _ _ _ (Tc.setTop (own_f3 m 279 av bv cv fl kb kc 0 1 0 li qa qb qc 1 (fl &&& (3 : Int32)) ((fl >>> ((4 : Int32) &&& 31)) &&& (3 : Int32)) [(.int (0 : Int32))]))
      refine Go.step (fun t k => XS.ifYes Xc.here hx rfl (pc0 := 279) (pc' := 294) rfl (hb hby at_279) rfl ((if0 _ _).trans (teq (by decide : (0 : Int32) = (0 : Int32))).1) (by decide) (by decide) k) ?_
      show Go _ _ _ _ _ _ _ (Tc.setTop (own_f3 m 294 av bv cv fl kb kc 0 1 0 li qa qb qc 1 (fl &&& (3 : Int32)) ((fl >>> ((4 : Int32) &&& 31)) &&& (3 : Int32)) []))
      refine Go.step (fun t k => XS.iload Xc.here hx rfl (hb hby at_294) rfl (XS.iconst Xc.here hx rfl (hb hby at_296) k)) ?_
      show Go _ _ _ _ _ _ _ (Tc.setTop (own_f3 m 297 av bv cv fl kb kc 0 1 0 li qa qb qc 1 (fl &&& (3 : Int32)) ((fl >>> ((4 : Int32) &&& 31)) &&& (3 : Int32)) [(.int (2 : Int32)), (.int ((fl >>> ((4 : Int32) &&& 31)) &&& (3 : Int32)))]))
      refine Go.step (fun t k => XS.icmpYes Xc.here hx rfl (pc0 := 297) (pc' := 318) rfl (hb hby at_297) rfl (feq (fun q => absurd (hc274_25.symm.trans q) (by decide) : ¬ ((fl >>> ((4 : Int32) &&& 31)) &&& (3 : Int32)) = (2 : Int32))).2 (by decide) (by decide) k) ?_
      show Go _ _ _ _ _ _ _ (Tc.setTop (own_f3 m 318 av bv cv fl kb kc 0 1 0 li qa qb qc 1 (fl &&& (3 : Int32)) ((fl >>> ((4 : Int32) &&& 31)) &&& (3 : Int32)) []))
      refine Go.step (fun t k => XS.iload Xc.here hx rfl (hb hby at_318) rfl (XS.iconst Xc.here hx rfl (hb hby at_320) k)) ?_
      show Go _ _ _ _ _ _ _ (Tc.setTop (own_f3 m 321 av bv cv fl kb kc 0 1 0 li qa qb qc 1 (fl &&& (3 : Int32)) ((fl >>> ((4 : Int32) &&& 31)) &&& (3 : Int32)) [(.int (3 : Int32)), (.int ((fl >>> ((4 : Int32) &&& 31)) &&& (3 : Int32)))]))
      refine Go.step (fun t k => XS.icmpYes Xc.here hx rfl (pc0 := 321) (pc' := 339) rfl (hb hby at_321) rfl (feq (fun q => absurd (hc274_25.symm.trans q) (by decide) : ¬ ((fl >>> ((4 : Int32) &&& 31)) &&& (3 : Int32)) = (3 : Int32))).2 (by decide) (by decide) k) ?_
      show Go _ _ _ _ _ _ _ (Tc.setTop (own_f3 m 339 av bv cv fl kb kc 0 1 0 li qa qb qc 1 (fl &&& (3 : Int32)) ((fl >>> ((4 : Int32) &&& 31)) &&& (3 : Int32)) []))
      exact L339_010 _ _ _ kb kc li qa qb qc nd kr lr gk gl aw Xc ec Nc Zc F_last_li E_li F_keys_nd F_levels_nd F_size_nd R_lr hI
    · refine Go.step (fun t k => XS.icmpYes Xc.here hx rfl (pc0 := 274) (pc' := 294) rfl (hb hby at_274) rfl (feq hc274_25).2 (by decide) (by decide) k) ?_
      show Go _ _ _ _ _ _ _ (Tc.setTop (own_f3 m 294 av bv cv fl kb kc 0 1 0 li qa qb qc 1 (fl &&& (3 : Int32)) ((fl >>> ((4 : Int32) &&& 31)) &&& (3 : Int32)) []))
      refine Go.step (fun t k => XS.iload Xc.here hx rfl (hb hby at_294) rfl (XS.iconst Xc.here hx rfl (hb hby at_296) k)) ?_
      show Go _ _ _ _ _ _ _ (Tc.setTop (own_f3 m 297 av bv cv fl kb kc 0 1 0 li qa qb qc 1 (fl &&& (3 : Int32)) ((fl >>> ((4 : Int32) &&& 31)) &&& (3 : Int32)) [(.int (2 : Int32)), (.int ((fl >>> ((4 : Int32) &&& 31)) &&& (3 : Int32)))]))
      by_cases hc297_26 : ((fl >>> ((4 : Int32) &&& 31)) &&& (3 : Int32)) = (2 : Int32)
      · refine Go.step (fun t k => XS.icmpNo Xc.here hx rfl (hb hby at_297) rfl (teq hc297_26).2 k) ?_
        show Go _ _ _ _ _ _ _ (Tc.setTop (own_f3 m 300 av bv cv fl kb kc 0 1 0 li qa qb qc 1 (fl &&& (3 : Int32)) ((fl >>> ((4 : Int32) &&& 31)) &&& (3 : Int32)) []))
        refine Go.step (fun t k => XS.iload Xc.here hx rfl (hb hby at_300) rfl k) ?_
        show Go _ _ _ _ _ _ _ (Tc.setTop (own_f3 m 302 av bv cv fl kb kc 0 1 0 li qa qb qc 1 (fl &&& (3 : Int32)) ((fl >>> ((4 : Int32) &&& 31)) &&& (3 : Int32)) [(.int (1 : Int32))]))
        refine Go.step (fun t k => XS.ifNo Xc.here hx rfl (hb hby at_302) rfl ((if0 _ _).trans (feq (by decide : ¬ (1 : Int32) = (0 : Int32))).1) k) ?_
        show Go _ _ _ _ _ _ _ (Tc.setTop (own_f3 m 305 av bv cv fl kb kc 0 1 0 li qa qb qc 1 (fl &&& (3 : Int32)) ((fl >>> ((4 : Int32) &&& 31)) &&& (3 : Int32)) []))
        refine Go.step (fun t k => XS.aload Xc.here hx rfl (hb hby at_305) rfl rfl (XS.lload Xc.here hx rfl (hb hby at_307) rfl k)) ?_
        show Go _ _ _ _ _ _ _ (Tc.setTop (own_f3 m 309 av bv cv fl kb kc 0 1 0 li qa qb qc 1 (fl &&& (3 : Int32)) ((fl >>> ((4 : Int32) &&& 31)) &&& (3 : Int32)) [(.long kb), (.ref li)]))
        obtain ⟨cq27, kq27, q27a, q27b, q27c⟩ := isOf hZ ec E_li
        obtain ⟨_, _, ⟨T27, L27, k27, n27⟩, -, X27, ⟨Lc27, hQ27, l27, y27, z27⟩, st27⟩ := Xc.virtualBack hx (y := (⟨"com/example/matchstone/matchstone/LevelIndex", "remove", "(J)V"⟩ : MethodName)) (z := (⟨"com/example/matchstone/matchstone/LevelIndex", "remove", "(J)V"⟩ : MethodName)) hown (mvT hZ (hw _ (List.mem_of_getElem? (i := 93) rfl))) (mvT hZ (hw _ (List.mem_of_getElem? (i := 94) rfl))) (notFace_of_selects (args := #[]) (mvT hZ (hw _ (List.mem_of_getElem? (i := 96) rfl)))) (mvT hZ (hw _ (List.mem_of_getElem? (i := 96) rfl))) (mvT hZ (hw _ (List.mem_of_getElem? (i := 95) rfl))) (by decide) (backOf (W := 0) (rm15_1 l Z a0 hw [] li kb nd kr lr gk gl aw hc n0 Zc F_root_li F_last_li F_ahead_li E_li g_li F_keys_nd F_levels_nd F_children_nd F_size_nd F_next_nd F_previous_nd E_nd A_kr R_lr g_nd g_kr g_lr ne_kr_lr (own_I.srt hI) (own_I.inB hI)) hZ (hw _ (List.mem_of_getElem? (i := 97) rfl)) (hw _ (List.mem_of_getElem? (i := 2) rfl)) (by decide) (by decide)) q27a q27c (g := (own_f3 m 309 av bv cv fl kb kc 0 1 0 li qa qb qc 1 (fl &&& (3 : Int32)) ((fl >>> ((4 : Int32) &&& 31)) &&& (3 : Int32)) [(.long kb), (.ref li)])) rfl (by rw [hml]; rfl) (Steps.refl _) (argsL := [(.long kb)]) (rest := []) (lenOf pd_0_2 rfl) rfl (by show 2 * 0 + _ ≤ _; exact Nat.le_of_eq rfl) (hb hby at_309) (fun _ _ => ⟨rfl, ec, (by decide : 7 + 3 ≤ _), (by decide : 164 + 136 ≤ _)⟩)
        dsimp only [Pt.U, Pt.locs, Pt.cells, Pt.slots] at X27 l27 y27 z27 st27 hQ27
        subst l27 y27 z27
        obtain ⟨nd2_27, kr2_27, lr2_27, rfl, N27q, K27q, o27_nw_nd2_27, o27_nw_kr2_27, o27_nw_lr2_27, o27_ne_kr2_27_lr2_27, o27_F_root_li, o27_F_last_li, o27_F_ahead_li, o27_E_li, o27_F_keys_nd2_27, o27_F_levels_nd2_27, o27_F_children_nd2_27, o27_F_size_nd2_27, o27_F_next_nd2_27, o27_F_previous_nd2_27, o27_E_nd2_27, o27_A_kr2_27, o27_R_lr2_27⟩ := hQ27
        have N27 := Fr.app Nc N27q
        have ne_li_nd2_27 : li ≠ nd2_27 := Nat.ne_of_lt (Nat.lt_of_lt_of_le F_root_li.lt o27_nw_nd2_27)
        have ne_nd_nd2_27 : nd ≠ nd2_27 := Nat.ne_of_lt (Nat.lt_of_lt_of_le F_keys_nd.lt o27_nw_nd2_27)
        have ne_kr_nd2_27 : kr ≠ nd2_27 := Nat.ne_of_lt (Nat.lt_of_lt_of_le A_kr.lt o27_nw_nd2_27)
        have ne_lr_nd2_27 : lr ≠ nd2_27 := Nat.ne_of_lt (Nat.lt_of_lt_of_le R_lr.lt o27_nw_nd2_27)
        have g_nd2_27 : n0 ≤ nd2_27 := Nat.le_trans Zc o27_nw_nd2_27
        have ne_li_kr2_27 : li ≠ kr2_27 := Nat.ne_of_lt (Nat.lt_of_lt_of_le F_root_li.lt o27_nw_kr2_27)
        have ne_nd_kr2_27 : nd ≠ kr2_27 := Nat.ne_of_lt (Nat.lt_of_lt_of_le F_keys_nd.lt o27_nw_kr2_27)
        have ne_kr_kr2_27 : kr ≠ kr2_27 := Nat.ne_of_lt (Nat.lt_of_lt_of_le A_kr.lt o27_nw_kr2_27)
        have ne_lr_kr2_27 : lr ≠ kr2_27 := Nat.ne_of_lt (Nat.lt_of_lt_of_le R_lr.lt o27_nw_kr2_27)
        have g_kr2_27 : n0 ≤ kr2_27 := Nat.le_trans Zc o27_nw_kr2_27
        have ne_li_lr2_27 : li ≠ lr2_27 := Nat.ne_of_lt (Nat.lt_of_lt_of_le F_root_li.lt o27_nw_lr2_27)
        have ne_nd_lr2_27 : nd ≠ lr2_27 := Nat.ne_of_lt (Nat.lt_of_lt_of_le F_keys_nd.lt o27_nw_lr2_27)
        have ne_kr_lr2_27 : kr ≠ lr2_27 := Nat.ne_of_lt (Nat.lt_of_lt_of_le A_kr.lt o27_nw_lr2_27)
        have ne_lr_lr2_27 : lr ≠ lr2_27 := Nat.ne_of_lt (Nat.lt_of_lt_of_le R_lr.lt o27_nw_lr2_27)
        have g_lr2_27 : n0 ≤ lr2_27 := Nat.le_trans Zc o27_nw_lr2_27
        replace E_li := E_li.keep K27q
        replace E_nd := E_nd.keep K27q
        have Z27 := Nat.le_trans Zc K27q.1
        have F_root_li := o27_F_root_li
        have F_last_li := o27_F_last_li
        have F_ahead_li := o27_F_ahead_li
        have E_li := o27_E_li
        have F_keys_nd2_27 := o27_F_keys_nd2_27
        have F_levels_nd2_27 := o27_F_levels_nd2_27
        have F_children_nd2_27 := o27_F_children_nd2_27
        have F_size_nd2_27 := o27_F_size_nd2_27
        have F_next_nd2_27 := o27_F_next_nd2_27
        have F_previous_nd2_27 := o27_F_previous_nd2_27
        have E_nd2_27 := o27_E_nd2_27
        have A_kr2_27 := o27_A_kr2_27
        have R_lr2_27 := o27_R_lr2_27
        refine Go.step (fun t k => st27.trans k) ?_
        show Go _ _ _ _ _ _ _ (T27.setTop (own_f3 m 312 av bv cv fl kb kc 0 1 0 li qa qb qc 1 (fl &&& (3 : Int32)) ((fl >>> ((4 : Int32) &&& 31)) &&& (3 : Int32)) []))
        have hI_28 : own_I 0 (fun _ => (0 : Int64)) (fun _ => .null) false false false av kb kc qa qb qc := by exact own_I.nil
        refine Go.step (fun t k => XS.iconst X27.here hx rfl (hb hby at_312) (XS.istore X27.here hx rfl (hb hby at_313) rfl (l' := #[.val (.long av), .second, .val (.long bv), .second, .val (.long cv), .second, .val (.int fl), .val (.long kb), .second, .val (.long kc), .second, .val (.int (0 : Int32)), .val (.int (0 : Int32)), .val (.int (0 : Int32)), .val (.ref li), .val (.ref qa), .val (.ref qb), .val (.ref qc), .val (.int (1 : Int32)), .val (.int (fl &&& (3 : Int32))), .val (.int ((fl >>> ((4 : Int32) &&& 31)) &&& (3 : Int32))), .unset]) rfl k)) ?_
        show Go _ _ _ _ _ _ _ (T27.setTop (own_f3 m 315 av bv cv fl kb kc 0 0 0 li qa qb qc 1 (fl &&& (3 : Int32)) ((fl >>> ((4 : Int32) &&& 31)) &&& (3 : Int32)) []))
        refine Go.step (fun t k => XS.goto X27.here hx rfl (pc0 := 315) (pc' := 339) rfl (hb hby at_315) (by decide) (by decide) k) ?_
        show Go _ _ _ _ _ _ _ (T27.setTop (own_f3 m 339 av bv cv fl kb kc 0 0 0 li qa qb qc 1 (fl &&& (3 : Int32)) ((fl >>> ((4 : Int32) &&& 31)) &&& (3 : Int32)) []))
        exact L339_000 _ _ _ kb kc li qa qb qc nd2_27 kr2_27 lr2_27 (fun _ => (0 : Int64)) (fun _ => .null) aw X27 rfl N27 Z27 F_last_li E_li F_keys_nd2_27 F_levels_nd2_27 F_size_nd2_27 R_lr2_27 hI_28
      · refine Go.step (fun t k => XS.icmpYes Xc.here hx rfl (pc0 := 297) (pc' := 318) rfl (hb hby at_297) rfl (feq hc297_26).2 (by decide) (by decide) k) ?_
        show Go _ _ _ _ _ _ _ (Tc.setTop (own_f3 m 318 av bv cv fl kb kc 0 1 0 li qa qb qc 1 (fl &&& (3 : Int32)) ((fl >>> ((4 : Int32) &&& 31)) &&& (3 : Int32)) []))
        refine Go.step (fun t k => XS.iload Xc.here hx rfl (hb hby at_318) rfl (XS.iconst Xc.here hx rfl (hb hby at_320) k)) ?_
        show Go _ _ _ _ _ _ _ (Tc.setTop (own_f3 m 321 av bv cv fl kb kc 0 1 0 li qa qb qc 1 (fl &&& (3 : Int32)) ((fl >>> ((4 : Int32) &&& 31)) &&& (3 : Int32)) [(.int (3 : Int32)), (.int ((fl >>> ((4 : Int32) &&& 31)) &&& (3 : Int32)))]))
        by_cases hc321_29 : ((fl >>> ((4 : Int32) &&& 31)) &&& (3 : Int32)) = (3 : Int32)
        · refine Go.step (fun t k => XS.icmpNo Xc.here hx rfl (hb hby at_321) rfl (teq hc321_29).2 k) ?_
          show Go _ _ _ _ _ _ _ (Tc.setTop (own_f3 m 324 av bv cv fl kb kc 0 1 0 li qa qb qc 1 (fl &&& (3 : Int32)) ((fl >>> ((4 : Int32) &&& 31)) &&& (3 : Int32)) []))
          refine Go.step (fun t k => XS.iload Xc.here hx rfl (hb hby at_324) rfl k) ?_
          show Go _ _ _ _ _ _ _ (Tc.setTop (own_f3 m 326 av bv cv fl kb kc 0 1 0 li qa qb qc 1 (fl &&& (3 : Int32)) ((fl >>> ((4 : Int32) &&& 31)) &&& (3 : Int32)) [(.int (0 : Int32))]))
          refine Go.step (fun t k => XS.ifYes Xc.here hx rfl (pc0 := 326) (pc' := 339) rfl (hb hby at_326) rfl ((if0 _ _).trans (teq (by decide : (0 : Int32) = (0 : Int32))).1) (by decide) (by decide) k) ?_
          show Go _ _ _ _ _ _ _ (Tc.setTop (own_f3 m 339 av bv cv fl kb kc 0 1 0 li qa qb qc 1 (fl &&& (3 : Int32)) ((fl >>> ((4 : Int32) &&& 31)) &&& (3 : Int32)) []))
          exact L339_010 _ _ _ kb kc li qa qb qc nd kr lr gk gl aw Xc ec Nc Zc F_last_li E_li F_keys_nd F_levels_nd F_size_nd R_lr hI
        · refine Go.step (fun t k => XS.icmpYes Xc.here hx rfl (pc0 := 321) (pc' := 339) rfl (hb hby at_321) rfl (feq hc321_29).2 (by decide) (by decide) k) ?_
          show Go _ _ _ _ _ _ _ (Tc.setTop (own_f3 m 339 av bv cv fl kb kc 0 1 0 li qa qb qc 1 (fl &&& (3 : Int32)) ((fl >>> ((4 : Int32) &&& 31)) &&& (3 : Int32)) []))
          exact L339_010 _ _ _ kb kc li qa qb qc nd kr lr gk gl aw Xc ec Nc Zc F_last_li E_li F_keys_nd F_levels_nd F_size_nd R_lr hI
  have L263_011 : ∀ (Tc : State) (hc : Heap) (lc : List Loc) (kb : Int64) (kc : Int64) (li : Addr) (qa : Addr) (qb : Addr) (qc : Addr) (nd : Addr) (kr : Addr) (lr : Addr) (gk : Nat → Int64) (gl : Nat → Value) (aw : Value), (Stand p l e room_1 s m #[(.long av), (.long bv), (.long cv), (.int fl)] below meth c Tc lc 7 164) → (Tc.heap = hc) → (Fr n0 lc) → (n0 ≤ hc.size) → (Fld Z hc li "com/example/matchstone/matchstone/LevelIndex" "root" "Lcom/example/matchstone/matchstone/LevelIndex$Node;" (.ref nd)) → (Fld Z hc li "com/example/matchstone/matchstone/LevelIndex" "last" "Lcom/example/matchstone/matchstone/LevelIndex$Node;" (.ref nd)) → (Fld Z hc li "com/example/matchstone/matchstone/LevelIndex" "ahead" "Lcom/example/matchstone/matchstone/PriceLevel;" aw) → (Exa Z hc li "com/example/matchstone/matchstone/LevelIndex") → (n0 ≤ li) → (Fld Z hc nd "com/example/matchstone/matchstone/LevelIndex$Node" "keys" "[J" (.ref kr)) → (Fld Z hc nd "com/example/matchstone/matchstone/LevelIndex$Node" "levels" "[Lcom/example/matchstone/matchstone/PriceLevel;" (.ref lr)) → (Fld Z hc nd "com/example/matchstone/matchstone/LevelIndex$Node" "children" "[Lcom/example/matchstone/matchstone/LevelIndex$Node;" .null) → (Fld Z hc nd "com/example/matchstone/matchstone/LevelIndex$Node" "size" "I" (.int (2 : Int32))) → (Fld Z hc nd "com/example/matchstone/matchstone/LevelIndex$Node" "next" "Lcom/example/matchstone/matchstone/LevelIndex$Node;" .null) → (Fld Z hc nd "com/example/matchstone/matchstone/LevelIndex$Node" "previous" "Lcom/example/matchstone/matchstone/LevelIndex$Node;" .null) → (Exa Z hc nd "com/example/matchstone/matchstone/LevelIndex$Node") → (AryJ Z hc kr 65 gk) → (RAr Z hc lr "com/example/matchstone/matchstone/PriceLevel" 65 gl) → (n0 ≤ nd) → (n0 ≤ kr) → (n0 ≤ lr) → (kr ≠ lr) → (own_I 2 gk gl false true true av kb kc qa qb qc) → Go p e below s (Q0 Z av bv cv fl h0 n0) 32 704 (Tc.setTop (own_f2 m 263 av bv cv fl kb kc 0 1 1 li qa qb qc 1 (fl &&& (3 : Int32)) [])) := by
    intro Tc hc lc kb kc li qa qb qc nd kr lr gk gl aw Xc ec Nc Zc F_root_li F_last_li F_ahead_li E_li g_li F_keys_nd F_levels_nd F_children_nd F_size_nd F_next_nd F_previous_nd E_nd A_kr R_lr g_nd g_kr g_lr ne_kr_lr hI
    show Go _ _ _ _ _ _ _ (Tc.setTop (own_f2 m 263 av bv cv fl kb kc 0 1 1 li qa qb qc 1 (fl &&& (3 : Int32)) []))
    refine Go.step (fun t k => XS.iload Xc.here hx rfl (hb hby at_263) rfl (XS.iconst Xc.here hx rfl (hb hby at_265) (XS.ishr Xc.here hx rfl (hb hby at_266) rfl (XS.iconst Xc.here hx rfl (hb hby at_267) (XS.iand Xc.here hx rfl (hb hby at_268) rfl (XS.istore Xc.here hx rfl (hb hby at_269) rfl (l' := #[.val (.long av), .second, .val (.long bv), .second, .val (.long cv), .second, .val (.int fl), .val (.long kb), .second, .val (.long kc), .second, .val (.int (0 : Int32)), .val (.int (1 : Int32)), .val (.int (1 : Int32)), .val (.ref li), .val (.ref qa), .val (.ref qb), .val (.ref qc), .val (.int (1 : Int32)), .val (.int (fl &&& (3 : Int32))), .val (.int ((fl >>> ((4 : Int32) &&& 31)) &&& (3 : Int32))), .unset]) rfl (XS.iload Xc.here hx rfl (hb hby at_271) rfl (XS.iconst Xc.here hx rfl (hb hby at_273) k)))))))) ?_
    show Go _ _ _ _ _ _ _ (Tc.setTop (own_f3 m 274 av bv cv fl kb kc 0 1 1 li qa qb qc 1 (fl &&& (3 : Int32)) ((fl >>> ((4 : Int32) &&& 31)) &&& (3 : Int32)) [(.int (1 : Int32)), (.int ((fl >>> ((4 : Int32) &&& 31)) &&& (3 : Int32)))]))
    by_cases hc274_30 : ((fl >>> ((4 : Int32) &&& 31)) &&& (3 : Int32)) = (1 : Int32)
    · refine Go.step (fun t k => XS.icmpNo Xc.here hx rfl (hb hby at_274) rfl (teq hc274_30).2 k) ?_
      show Go _ _ _ _ _ _ _ (Tc.setTop (own_f3 m 277 av bv cv fl kb kc 0 1 1 li qa qb qc 1 (fl &&& (3 : Int32)) ((fl >>> ((4 : Int32) &&& 31)) &&& (3 : Int32)) []))
      refine Go.step (fun t k => XS.iload Xc.here hx rfl (hb hby at_277) rfl k) ?_
      show Go _ _ _ _ _ _ _ (Tc.setTop (own_f3 m 279 av bv cv fl kb kc 0 1 1 li qa qb qc 1 (fl &&& (3 : Int32)) ((fl >>> ((4 : Int32) &&& 31)) &&& (3 : Int32)) [(.int (0 : Int32))]))
      refine Go.step (fun t k => XS.ifYes Xc.here hx rfl (pc0 := 279) (pc' := 294) rfl (hb hby at_279) rfl ((if0 _ _).trans (teq (by decide : (0 : Int32) = (0 : Int32))).1) (by decide) (by decide) k) ?_
      show Go _ _ _ _ _ _ _ (Tc.setTop (own_f3 m 294 av bv cv fl kb kc 0 1 1 li qa qb qc 1 (fl &&& (3 : Int32)) ((fl >>> ((4 : Int32) &&& 31)) &&& (3 : Int32)) []))
      refine Go.step (fun t k => XS.iload Xc.here hx rfl (hb hby at_294) rfl (XS.iconst Xc.here hx rfl (hb hby at_296) k)) ?_
      show Go _ _ _ _ _ _ _ (Tc.setTop (own_f3 m 297 av bv cv fl kb kc 0 1 1 li qa qb qc 1 (fl &&& (3 : Int32)) ((fl >>> ((4 : Int32) &&& 31)) &&& (3 : Int32)) [(.int (2 : Int32)), (.int ((fl >>> ((4 : Int32) &&& 31)) &&& (3 : Int32)))]))
      refine Go.step (fun t k => XS.icmpYes Xc.here hx rfl (pc0 := 297) (pc' := 318) rfl (hb hby at_297) rfl (feq (fun q => absurd (hc274_30.symm.trans q) (by decide) : ¬ ((fl >>> ((4 : Int32) &&& 31)) &&& (3 : Int32)) = (2 : Int32))).2 (by decide) (by decide) k) ?_
      show Go _ _ _ _ _ _ _ (Tc.setTop (own_f3 m 318 av bv cv fl kb kc 0 1 1 li qa qb qc 1 (fl &&& (3 : Int32)) ((fl >>> ((4 : Int32) &&& 31)) &&& (3 : Int32)) []))
      refine Go.step (fun t k => XS.iload Xc.here hx rfl (hb hby at_318) rfl (XS.iconst Xc.here hx rfl (hb hby at_320) k)) ?_
      show Go _ _ _ _ _ _ _ (Tc.setTop (own_f3 m 321 av bv cv fl kb kc 0 1 1 li qa qb qc 1 (fl &&& (3 : Int32)) ((fl >>> ((4 : Int32) &&& 31)) &&& (3 : Int32)) [(.int (3 : Int32)), (.int ((fl >>> ((4 : Int32) &&& 31)) &&& (3 : Int32)))]))
      refine Go.step (fun t k => XS.icmpYes Xc.here hx rfl (pc0 := 321) (pc' := 339) rfl (hb hby at_321) rfl (feq (fun q => absurd (hc274_30.symm.trans q) (by decide) : ¬ ((fl >>> ((4 : Int32) &&& 31)) &&& (3 : Int32)) = (3 : Int32))).2 (by decide) (by decide) k) ?_
      show Go _ _ _ _ _ _ _ (Tc.setTop (own_f3 m 339 av bv cv fl kb kc 0 1 1 li qa qb qc 1 (fl &&& (3 : Int32)) ((fl >>> ((4 : Int32) &&& 31)) &&& (3 : Int32)) []))
      exact L339_011 _ _ _ kb kc li qa qb qc nd kr lr gk gl aw Xc ec Nc Zc F_last_li E_li F_keys_nd F_levels_nd F_size_nd R_lr hI
    · refine Go.step (fun t k => XS.icmpYes Xc.here hx rfl (pc0 := 274) (pc' := 294) rfl (hb hby at_274) rfl (feq hc274_30).2 (by decide) (by decide) k) ?_
      show Go _ _ _ _ _ _ _ (Tc.setTop (own_f3 m 294 av bv cv fl kb kc 0 1 1 li qa qb qc 1 (fl &&& (3 : Int32)) ((fl >>> ((4 : Int32) &&& 31)) &&& (3 : Int32)) []))
      refine Go.step (fun t k => XS.iload Xc.here hx rfl (hb hby at_294) rfl (XS.iconst Xc.here hx rfl (hb hby at_296) k)) ?_
      show Go _ _ _ _ _ _ _ (Tc.setTop (own_f3 m 297 av bv cv fl kb kc 0 1 1 li qa qb qc 1 (fl &&& (3 : Int32)) ((fl >>> ((4 : Int32) &&& 31)) &&& (3 : Int32)) [(.int (2 : Int32)), (.int ((fl >>> ((4 : Int32) &&& 31)) &&& (3 : Int32)))]))
      by_cases hc297_31 : ((fl >>> ((4 : Int32) &&& 31)) &&& (3 : Int32)) = (2 : Int32)
      · refine Go.step (fun t k => XS.icmpNo Xc.here hx rfl (hb hby at_297) rfl (teq hc297_31).2 k) ?_
        show Go _ _ _ _ _ _ _ (Tc.setTop (own_f3 m 300 av bv cv fl kb kc 0 1 1 li qa qb qc 1 (fl &&& (3 : Int32)) ((fl >>> ((4 : Int32) &&& 31)) &&& (3 : Int32)) []))
        refine Go.step (fun t k => XS.iload Xc.here hx rfl (hb hby at_300) rfl k) ?_
        show Go _ _ _ _ _ _ _ (Tc.setTop (own_f3 m 302 av bv cv fl kb kc 0 1 1 li qa qb qc 1 (fl &&& (3 : Int32)) ((fl >>> ((4 : Int32) &&& 31)) &&& (3 : Int32)) [(.int (1 : Int32))]))
        refine Go.step (fun t k => XS.ifNo Xc.here hx rfl (hb hby at_302) rfl ((if0 _ _).trans (feq (by decide : ¬ (1 : Int32) = (0 : Int32))).1) k) ?_
        show Go _ _ _ _ _ _ _ (Tc.setTop (own_f3 m 305 av bv cv fl kb kc 0 1 1 li qa qb qc 1 (fl &&& (3 : Int32)) ((fl >>> ((4 : Int32) &&& 31)) &&& (3 : Int32)) []))
        refine Go.step (fun t k => XS.aload Xc.here hx rfl (hb hby at_305) rfl rfl (XS.lload Xc.here hx rfl (hb hby at_307) rfl k)) ?_
        show Go _ _ _ _ _ _ _ (Tc.setTop (own_f3 m 309 av bv cv fl kb kc 0 1 1 li qa qb qc 1 (fl &&& (3 : Int32)) ((fl >>> ((4 : Int32) &&& 31)) &&& (3 : Int32)) [(.long kb), (.ref li)]))
        obtain ⟨cq32, kq32, q32a, q32b, q32c⟩ := isOf hZ ec E_li
        obtain ⟨_, _, ⟨T32, L32, k32, n32⟩, -, X32, ⟨Lc32, hQ32, l32, y32, z32⟩, st32⟩ := Xc.virtualBack hx (y := (⟨"com/example/matchstone/matchstone/LevelIndex", "remove", "(J)V"⟩ : MethodName)) (z := (⟨"com/example/matchstone/matchstone/LevelIndex", "remove", "(J)V"⟩ : MethodName)) hown (mvT hZ (hw _ (List.mem_of_getElem? (i := 93) rfl))) (mvT hZ (hw _ (List.mem_of_getElem? (i := 94) rfl))) (notFace_of_selects (args := #[]) (mvT hZ (hw _ (List.mem_of_getElem? (i := 96) rfl)))) (mvT hZ (hw _ (List.mem_of_getElem? (i := 96) rfl))) (mvT hZ (hw _ (List.mem_of_getElem? (i := 95) rfl))) (by decide) (backOf (W := 0) (rm15 l Z a0 hw [] li kb nd kr lr gk gl (2 : Int32) 1 aw hc n0 Zc F_root_li F_last_li F_ahead_li E_li g_li F_keys_nd F_levels_nd F_children_nd F_size_nd F_next_nd F_previous_nd E_nd A_kr R_lr g_nd g_kr g_lr ne_kr_lr (by decide) (by decide) (by decide) (own_I.srt hI) (own_I.inB hI)) hZ (hw _ (List.mem_of_getElem? (i := 97) rfl)) (hw _ (List.mem_of_getElem? (i := 2) rfl)) (by decide) (by decide)) q32a q32c (g := (own_f3 m 309 av bv cv fl kb kc 0 1 1 li qa qb qc 1 (fl &&& (3 : Int32)) ((fl >>> ((4 : Int32) &&& 31)) &&& (3 : Int32)) [(.long kb), (.ref li)])) rfl (by rw [hml]; rfl) (Steps.refl _) (argsL := [(.long kb)]) (rest := []) (lenOf pd_0_2 rfl) rfl (by show 2 * 0 + _ ≤ _; exact Nat.le_of_eq rfl) (hb hby at_309) (fun _ _ => ⟨rfl, ec, (by decide : 7 + 0 ≤ _), (by decide : 164 + 0 ≤ _)⟩)
        dsimp only [Pt.U, Pt.locs, Pt.cells, Pt.slots] at X32 l32 y32 z32 st32 hQ32
        subst l32 y32 z32
        obtain ⟨im_32, gk2_32, gl2_32, rfl, N32q, K32q, o32_him, o32_hgi, o32_hgk, o32_hgl, o32_F_root_li, o32_F_last_li, o32_F_ahead_li, o32_E_li, o32_F_keys_nd, o32_F_levels_nd, o32_F_children_nd, o32_F_size_nd, o32_F_next_nd, o32_F_previous_nd, o32_E_nd, o32_A_kr, o32_R_lr⟩ := hQ32
        have N32 := Fr.app Nc N32q
        replace E_li := E_li.keep K32q
        replace E_nd := E_nd.keep K32q
        have Z32 := Nat.le_trans Zc K32q.1
        have F_root_li := o32_F_root_li
        have F_last_li := o32_F_last_li
        have F_ahead_li := o32_F_ahead_li
        have E_li := o32_E_li
        have F_keys_nd := o32_F_keys_nd
        have F_levels_nd := o32_F_levels_nd
        have F_children_nd := o32_F_children_nd
        have F_size_nd := o32_F_size_nd
        have F_next_nd := o32_F_next_nd
        have F_previous_nd := o32_F_previous_nd
        have E_nd := o32_E_nd
        have A_kr := o32_A_kr
        have R_lr := o32_R_lr
        refine Go.step (fun t k => st32.trans k) ?_
        show Go _ _ _ _ _ _ _ (T32.setTop (own_f3 m 312 av bv cv fl kb kc 0 1 1 li qa qb qc 1 (fl &&& (3 : Int32)) ((fl >>> ((4 : Int32) &&& 31)) &&& (3 : Int32)) []))
        have hI_33 : own_I 1 gk2_32 gl2_32 false false true av kb kc qa qb qc := by rw [o32_hgk, o32_hgl]; exact own_I.remB (n := 1) hI o32_him o32_hgi
        refine Go.step (fun t k => XS.iconst X32.here hx rfl (hb hby at_312) (XS.istore X32.here hx rfl (hb hby at_313) rfl (l' := #[.val (.long av), .second, .val (.long bv), .second, .val (.long cv), .second, .val (.int fl), .val (.long kb), .second, .val (.long kc), .second, .val (.int (0 : Int32)), .val (.int (0 : Int32)), .val (.int (1 : Int32)), .val (.ref li), .val (.ref qa), .val (.ref qb), .val (.ref qc), .val (.int (1 : Int32)), .val (.int (fl &&& (3 : Int32))), .val (.int ((fl >>> ((4 : Int32) &&& 31)) &&& (3 : Int32))), .unset]) rfl k)) ?_
        show Go _ _ _ _ _ _ _ (T32.setTop (own_f3 m 315 av bv cv fl kb kc 0 0 1 li qa qb qc 1 (fl &&& (3 : Int32)) ((fl >>> ((4 : Int32) &&& 31)) &&& (3 : Int32)) []))
        refine Go.step (fun t k => XS.goto X32.here hx rfl (pc0 := 315) (pc' := 339) rfl (hb hby at_315) (by decide) (by decide) k) ?_
        show Go _ _ _ _ _ _ _ (T32.setTop (own_f3 m 339 av bv cv fl kb kc 0 0 1 li qa qb qc 1 (fl &&& (3 : Int32)) ((fl >>> ((4 : Int32) &&& 31)) &&& (3 : Int32)) []))
        exact L339_001 _ _ _ kb kc li qa qb qc nd kr lr gk2_32 gl2_32 aw X32 rfl N32 Z32 F_last_li E_li F_keys_nd F_levels_nd F_size_nd R_lr hI_33
      · refine Go.step (fun t k => XS.icmpYes Xc.here hx rfl (pc0 := 297) (pc' := 318) rfl (hb hby at_297) rfl (feq hc297_31).2 (by decide) (by decide) k) ?_
        show Go _ _ _ _ _ _ _ (Tc.setTop (own_f3 m 318 av bv cv fl kb kc 0 1 1 li qa qb qc 1 (fl &&& (3 : Int32)) ((fl >>> ((4 : Int32) &&& 31)) &&& (3 : Int32)) []))
        refine Go.step (fun t k => XS.iload Xc.here hx rfl (hb hby at_318) rfl (XS.iconst Xc.here hx rfl (hb hby at_320) k)) ?_
        show Go _ _ _ _ _ _ _ (Tc.setTop (own_f3 m 321 av bv cv fl kb kc 0 1 1 li qa qb qc 1 (fl &&& (3 : Int32)) ((fl >>> ((4 : Int32) &&& 31)) &&& (3 : Int32)) [(.int (3 : Int32)), (.int ((fl >>> ((4 : Int32) &&& 31)) &&& (3 : Int32)))]))
        by_cases hc321_34 : ((fl >>> ((4 : Int32) &&& 31)) &&& (3 : Int32)) = (3 : Int32)
        · refine Go.step (fun t k => XS.icmpNo Xc.here hx rfl (hb hby at_321) rfl (teq hc321_34).2 k) ?_
          show Go _ _ _ _ _ _ _ (Tc.setTop (own_f3 m 324 av bv cv fl kb kc 0 1 1 li qa qb qc 1 (fl &&& (3 : Int32)) ((fl >>> ((4 : Int32) &&& 31)) &&& (3 : Int32)) []))
          refine Go.step (fun t k => XS.iload Xc.here hx rfl (hb hby at_324) rfl k) ?_
          show Go _ _ _ _ _ _ _ (Tc.setTop (own_f3 m 326 av bv cv fl kb kc 0 1 1 li qa qb qc 1 (fl &&& (3 : Int32)) ((fl >>> ((4 : Int32) &&& 31)) &&& (3 : Int32)) [(.int (1 : Int32))]))
          refine Go.step (fun t k => XS.ifNo Xc.here hx rfl (hb hby at_326) rfl ((if0 _ _).trans (feq (by decide : ¬ (1 : Int32) = (0 : Int32))).1) k) ?_
          show Go _ _ _ _ _ _ _ (Tc.setTop (own_f3 m 329 av bv cv fl kb kc 0 1 1 li qa qb qc 1 (fl &&& (3 : Int32)) ((fl >>> ((4 : Int32) &&& 31)) &&& (3 : Int32)) []))
          refine Go.step (fun t k => XS.aload Xc.here hx rfl (hb hby at_329) rfl rfl (XS.lload Xc.here hx rfl (hb hby at_331) rfl k)) ?_
          show Go _ _ _ _ _ _ _ (Tc.setTop (own_f3 m 333 av bv cv fl kb kc 0 1 1 li qa qb qc 1 (fl &&& (3 : Int32)) ((fl >>> ((4 : Int32) &&& 31)) &&& (3 : Int32)) [(.long kc), (.ref li)]))
          obtain ⟨cq35, kq35, q35a, q35b, q35c⟩ := isOf hZ ec E_li
          obtain ⟨_, _, ⟨T35, L35, k35, n35⟩, -, X35, ⟨Lc35, hQ35, l35, y35, z35⟩, st35⟩ := Xc.virtualBack hx (y := (⟨"com/example/matchstone/matchstone/LevelIndex", "remove", "(J)V"⟩ : MethodName)) (z := (⟨"com/example/matchstone/matchstone/LevelIndex", "remove", "(J)V"⟩ : MethodName)) hown (mvT hZ (hw _ (List.mem_of_getElem? (i := 93) rfl))) (mvT hZ (hw _ (List.mem_of_getElem? (i := 94) rfl))) (notFace_of_selects (args := #[]) (mvT hZ (hw _ (List.mem_of_getElem? (i := 96) rfl)))) (mvT hZ (hw _ (List.mem_of_getElem? (i := 96) rfl))) (mvT hZ (hw _ (List.mem_of_getElem? (i := 95) rfl))) (by decide) (backOf (W := 0) (rm15 l Z a0 hw [] li kc nd kr lr gk gl (2 : Int32) 1 aw hc n0 Zc F_root_li F_last_li F_ahead_li E_li g_li F_keys_nd F_levels_nd F_children_nd F_size_nd F_next_nd F_previous_nd E_nd A_kr R_lr g_nd g_kr g_lr ne_kr_lr (by decide) (by decide) (by decide) (own_I.srt hI) (own_I.inC hI)) hZ (hw _ (List.mem_of_getElem? (i := 97) rfl)) (hw _ (List.mem_of_getElem? (i := 2) rfl)) (by decide) (by decide)) q35a q35c (g := (own_f3 m 333 av bv cv fl kb kc 0 1 1 li qa qb qc 1 (fl &&& (3 : Int32)) ((fl >>> ((4 : Int32) &&& 31)) &&& (3 : Int32)) [(.long kc), (.ref li)])) rfl (by rw [hml]; rfl) (Steps.refl _) (argsL := [(.long kc)]) (rest := []) (lenOf pd_0_2 rfl) rfl (by show 2 * 0 + _ ≤ _; exact Nat.le_of_eq rfl) (hb hby at_333) (fun _ _ => ⟨rfl, ec, (by decide : 7 + 0 ≤ _), (by decide : 164 + 0 ≤ _)⟩)
          dsimp only [Pt.U, Pt.locs, Pt.cells, Pt.slots] at X35 l35 y35 z35 st35 hQ35
          subst l35 y35 z35
          obtain ⟨im_35, gk2_35, gl2_35, rfl, N35q, K35q, o35_him, o35_hgi, o35_hgk, o35_hgl, o35_F_root_li, o35_F_last_li, o35_F_ahead_li, o35_E_li, o35_F_keys_nd, o35_F_levels_nd, o35_F_children_nd, o35_F_size_nd, o35_F_next_nd, o35_F_previous_nd, o35_E_nd, o35_A_kr, o35_R_lr⟩ := hQ35
          have N35 := Fr.app Nc N35q
          replace E_li := E_li.keep K35q
          replace E_nd := E_nd.keep K35q
          have Z35 := Nat.le_trans Zc K35q.1
          have F_root_li := o35_F_root_li
          have F_last_li := o35_F_last_li
          have F_ahead_li := o35_F_ahead_li
          have E_li := o35_E_li
          have F_keys_nd := o35_F_keys_nd
          have F_levels_nd := o35_F_levels_nd
          have F_children_nd := o35_F_children_nd
          have F_size_nd := o35_F_size_nd
          have F_next_nd := o35_F_next_nd
          have F_previous_nd := o35_F_previous_nd
          have E_nd := o35_E_nd
          have A_kr := o35_A_kr
          have R_lr := o35_R_lr
          refine Go.step (fun t k => st35.trans k) ?_
          show Go _ _ _ _ _ _ _ (T35.setTop (own_f3 m 336 av bv cv fl kb kc 0 1 1 li qa qb qc 1 (fl &&& (3 : Int32)) ((fl >>> ((4 : Int32) &&& 31)) &&& (3 : Int32)) []))
          have hI_36 : own_I 1 gk2_35 gl2_35 false true false av kb kc qa qb qc := by rw [o35_hgk, o35_hgl]; exact own_I.remC (n := 1) hI o35_him o35_hgi
          refine Go.step (fun t k => XS.iconst X35.here hx rfl (hb hby at_336) (XS.istore X35.here hx rfl (hb hby at_337) rfl (l' := #[.val (.long av), .second, .val (.long bv), .second, .val (.long cv), .second, .val (.int fl), .val (.long kb), .second, .val (.long kc), .second, .val (.int (0 : Int32)), .val (.int (1 : Int32)), .val (.int (0 : Int32)), .val (.ref li), .val (.ref qa), .val (.ref qb), .val (.ref qc), .val (.int (1 : Int32)), .val (.int (fl &&& (3 : Int32))), .val (.int ((fl >>> ((4 : Int32) &&& 31)) &&& (3 : Int32))), .unset]) rfl k)) ?_
          show Go _ _ _ _ _ _ _ (T35.setTop (own_f3 m 339 av bv cv fl kb kc 0 1 0 li qa qb qc 1 (fl &&& (3 : Int32)) ((fl >>> ((4 : Int32) &&& 31)) &&& (3 : Int32)) []))
          exact L339_010 _ _ _ kb kc li qa qb qc nd kr lr gk2_35 gl2_35 aw X35 rfl N35 Z35 F_last_li E_li F_keys_nd F_levels_nd F_size_nd R_lr hI_36
        · refine Go.step (fun t k => XS.icmpYes Xc.here hx rfl (pc0 := 321) (pc' := 339) rfl (hb hby at_321) rfl (feq hc321_34).2 (by decide) (by decide) k) ?_
          show Go _ _ _ _ _ _ _ (Tc.setTop (own_f3 m 339 av bv cv fl kb kc 0 1 1 li qa qb qc 1 (fl &&& (3 : Int32)) ((fl >>> ((4 : Int32) &&& 31)) &&& (3 : Int32)) []))
          exact L339_011 _ _ _ kb kc li qa qb qc nd kr lr gk gl aw Xc ec Nc Zc F_last_li E_li F_keys_nd F_levels_nd F_size_nd R_lr hI
  have L263_100 : ∀ (Tc : State) (hc : Heap) (lc : List Loc) (kb : Int64) (kc : Int64) (li : Addr) (qa : Addr) (qb : Addr) (qc : Addr) (nd : Addr) (kr : Addr) (lr : Addr) (gk : Nat → Int64) (gl : Nat → Value) (aw : Value), (Stand p l e room_1 s m #[(.long av), (.long bv), (.long cv), (.int fl)] below meth c Tc lc 7 164) → (Tc.heap = hc) → (Fr n0 lc) → (n0 ≤ hc.size) → (Fld Z hc li "com/example/matchstone/matchstone/LevelIndex" "root" "Lcom/example/matchstone/matchstone/LevelIndex$Node;" (.ref nd)) → (Fld Z hc li "com/example/matchstone/matchstone/LevelIndex" "last" "Lcom/example/matchstone/matchstone/LevelIndex$Node;" (.ref nd)) → (Fld Z hc li "com/example/matchstone/matchstone/LevelIndex" "ahead" "Lcom/example/matchstone/matchstone/PriceLevel;" aw) → (Exa Z hc li "com/example/matchstone/matchstone/LevelIndex") → (n0 ≤ li) → (Fld Z hc nd "com/example/matchstone/matchstone/LevelIndex$Node" "keys" "[J" (.ref kr)) → (Fld Z hc nd "com/example/matchstone/matchstone/LevelIndex$Node" "levels" "[Lcom/example/matchstone/matchstone/PriceLevel;" (.ref lr)) → (Fld Z hc nd "com/example/matchstone/matchstone/LevelIndex$Node" "children" "[Lcom/example/matchstone/matchstone/LevelIndex$Node;" .null) → (Fld Z hc nd "com/example/matchstone/matchstone/LevelIndex$Node" "size" "I" (.int (1 : Int32))) → (Fld Z hc nd "com/example/matchstone/matchstone/LevelIndex$Node" "next" "Lcom/example/matchstone/matchstone/LevelIndex$Node;" .null) → (Fld Z hc nd "com/example/matchstone/matchstone/LevelIndex$Node" "previous" "Lcom/example/matchstone/matchstone/LevelIndex$Node;" .null) → (Exa Z hc nd "com/example/matchstone/matchstone/LevelIndex$Node") → (AryJ Z hc kr 65 gk) → (RAr Z hc lr "com/example/matchstone/matchstone/PriceLevel" 65 gl) → (n0 ≤ nd) → (n0 ≤ kr) → (n0 ≤ lr) → (kr ≠ lr) → (own_I 1 gk gl true false false av kb kc qa qb qc) → Go p e below s (Q0 Z av bv cv fl h0 n0) 32 704 (Tc.setTop (own_f2 m 263 av bv cv fl kb kc 1 0 0 li qa qb qc 1 (fl &&& (3 : Int32)) [])) := by
    intro Tc hc lc kb kc li qa qb qc nd kr lr gk gl aw Xc ec Nc Zc F_root_li F_last_li F_ahead_li E_li g_li F_keys_nd F_levels_nd F_children_nd F_size_nd F_next_nd F_previous_nd E_nd A_kr R_lr g_nd g_kr g_lr ne_kr_lr hI
    show Go _ _ _ _ _ _ _ (Tc.setTop (own_f2 m 263 av bv cv fl kb kc 1 0 0 li qa qb qc 1 (fl &&& (3 : Int32)) []))
    refine Go.step (fun t k => XS.iload Xc.here hx rfl (hb hby at_263) rfl (XS.iconst Xc.here hx rfl (hb hby at_265) (XS.ishr Xc.here hx rfl (hb hby at_266) rfl (XS.iconst Xc.here hx rfl (hb hby at_267) (XS.iand Xc.here hx rfl (hb hby at_268) rfl (XS.istore Xc.here hx rfl (hb hby at_269) rfl (l' := #[.val (.long av), .second, .val (.long bv), .second, .val (.long cv), .second, .val (.int fl), .val (.long kb), .second, .val (.long kc), .second, .val (.int (1 : Int32)), .val (.int (0 : Int32)), .val (.int (0 : Int32)), .val (.ref li), .val (.ref qa), .val (.ref qb), .val (.ref qc), .val (.int (1 : Int32)), .val (.int (fl &&& (3 : Int32))), .val (.int ((fl >>> ((4 : Int32) &&& 31)) &&& (3 : Int32))), .unset]) rfl (XS.iload Xc.here hx rfl (hb hby at_271) rfl (XS.iconst Xc.here hx rfl (hb hby at_273) k)))))))) ?_
    show Go _ _ _ _ _ _ _ (Tc.setTop (own_f3 m 274 av bv cv fl kb kc 1 0 0 li qa qb qc 1 (fl &&& (3 : Int32)) ((fl >>> ((4 : Int32) &&& 31)) &&& (3 : Int32)) [(.int (1 : Int32)), (.int ((fl >>> ((4 : Int32) &&& 31)) &&& (3 : Int32)))]))
    by_cases hc274_37 : ((fl >>> ((4 : Int32) &&& 31)) &&& (3 : Int32)) = (1 : Int32)
    · refine Go.step (fun t k => XS.icmpNo Xc.here hx rfl (hb hby at_274) rfl (teq hc274_37).2 k) ?_
      show Go _ _ _ _ _ _ _ (Tc.setTop (own_f3 m 277 av bv cv fl kb kc 1 0 0 li qa qb qc 1 (fl &&& (3 : Int32)) ((fl >>> ((4 : Int32) &&& 31)) &&& (3 : Int32)) []))
      refine Go.step (fun t k => XS.iload Xc.here hx rfl (hb hby at_277) rfl k) ?_
      show Go _ _ _ _ _ _ _ (Tc.setTop (own_f3 m 279 av bv cv fl kb kc 1 0 0 li qa qb qc 1 (fl &&& (3 : Int32)) ((fl >>> ((4 : Int32) &&& 31)) &&& (3 : Int32)) [(.int (1 : Int32))]))
      refine Go.step (fun t k => XS.ifNo Xc.here hx rfl (hb hby at_279) rfl ((if0 _ _).trans (feq (by decide : ¬ (1 : Int32) = (0 : Int32))).1) k) ?_
      show Go _ _ _ _ _ _ _ (Tc.setTop (own_f3 m 282 av bv cv fl kb kc 1 0 0 li qa qb qc 1 (fl &&& (3 : Int32)) ((fl >>> ((4 : Int32) &&& 31)) &&& (3 : Int32)) []))
      refine Go.step (fun t k => XS.aload Xc.here hx rfl (hb hby at_282) rfl rfl (XS.lloadN Xc.here hx rfl (hb hby at_284) rfl k)) ?_
      show Go _ _ _ _ _ _ _ (Tc.setTop (own_f3 m 285 av bv cv fl kb kc 1 0 0 li qa qb qc 1 (fl &&& (3 : Int32)) ((fl >>> ((4 : Int32) &&& 31)) &&& (3 : Int32)) [(.long av), (.ref li)]))
      obtain ⟨cq38, kq38, q38a, q38b, q38c⟩ := isOf hZ ec E_li
      obtain ⟨_, _, ⟨T38, L38, k38, n38⟩, -, X38, ⟨Lc38, hQ38, l38, y38, z38⟩, st38⟩ := Xc.virtualBack hx (y := (⟨"com/example/matchstone/matchstone/LevelIndex", "remove", "(J)V"⟩ : MethodName)) (z := (⟨"com/example/matchstone/matchstone/LevelIndex", "remove", "(J)V"⟩ : MethodName)) hown (mvT hZ (hw _ (List.mem_of_getElem? (i := 93) rfl))) (mvT hZ (hw _ (List.mem_of_getElem? (i := 94) rfl))) (notFace_of_selects (args := #[]) (mvT hZ (hw _ (List.mem_of_getElem? (i := 96) rfl)))) (mvT hZ (hw _ (List.mem_of_getElem? (i := 96) rfl))) (mvT hZ (hw _ (List.mem_of_getElem? (i := 95) rfl))) (by decide) (backOf (W := 0) (rm15_1 l Z a0 hw [] li av nd kr lr gk gl aw hc n0 Zc F_root_li F_last_li F_ahead_li E_li g_li F_keys_nd F_levels_nd F_children_nd F_size_nd F_next_nd F_previous_nd E_nd A_kr R_lr g_nd g_kr g_lr ne_kr_lr (own_I.srt hI) (own_I.inA hI)) hZ (hw _ (List.mem_of_getElem? (i := 97) rfl)) (hw _ (List.mem_of_getElem? (i := 2) rfl)) (by decide) (by decide)) q38a q38c (g := (own_f3 m 285 av bv cv fl kb kc 1 0 0 li qa qb qc 1 (fl &&& (3 : Int32)) ((fl >>> ((4 : Int32) &&& 31)) &&& (3 : Int32)) [(.long av), (.ref li)])) rfl (by rw [hml]; rfl) (Steps.refl _) (argsL := [(.long av)]) (rest := []) (lenOf pd_0_2 rfl) rfl (by show 2 * 0 + _ ≤ _; exact Nat.le_of_eq rfl) (hb hby at_285) (fun _ _ => ⟨rfl, ec, (by decide : 7 + 3 ≤ _), (by decide : 164 + 136 ≤ _)⟩)
      dsimp only [Pt.U, Pt.locs, Pt.cells, Pt.slots] at X38 l38 y38 z38 st38 hQ38
      subst l38 y38 z38
      obtain ⟨nd2_38, kr2_38, lr2_38, rfl, N38q, K38q, o38_nw_nd2_38, o38_nw_kr2_38, o38_nw_lr2_38, o38_ne_kr2_38_lr2_38, o38_F_root_li, o38_F_last_li, o38_F_ahead_li, o38_E_li, o38_F_keys_nd2_38, o38_F_levels_nd2_38, o38_F_children_nd2_38, o38_F_size_nd2_38, o38_F_next_nd2_38, o38_F_previous_nd2_38, o38_E_nd2_38, o38_A_kr2_38, o38_R_lr2_38⟩ := hQ38
      have N38 := Fr.app Nc N38q
      have ne_li_nd2_38 : li ≠ nd2_38 := Nat.ne_of_lt (Nat.lt_of_lt_of_le F_root_li.lt o38_nw_nd2_38)
      have ne_nd_nd2_38 : nd ≠ nd2_38 := Nat.ne_of_lt (Nat.lt_of_lt_of_le F_keys_nd.lt o38_nw_nd2_38)
      have ne_kr_nd2_38 : kr ≠ nd2_38 := Nat.ne_of_lt (Nat.lt_of_lt_of_le A_kr.lt o38_nw_nd2_38)
      have ne_lr_nd2_38 : lr ≠ nd2_38 := Nat.ne_of_lt (Nat.lt_of_lt_of_le R_lr.lt o38_nw_nd2_38)
      have g_nd2_38 : n0 ≤ nd2_38 := Nat.le_trans Zc o38_nw_nd2_38
      have ne_li_kr2_38 : li ≠ kr2_38 := Nat.ne_of_lt (Nat.lt_of_lt_of_le F_root_li.lt o38_nw_kr2_38)
      have ne_nd_kr2_38 : nd ≠ kr2_38 := Nat.ne_of_lt (Nat.lt_of_lt_of_le F_keys_nd.lt o38_nw_kr2_38)
      have ne_kr_kr2_38 : kr ≠ kr2_38 := Nat.ne_of_lt (Nat.lt_of_lt_of_le A_kr.lt o38_nw_kr2_38)
      have ne_lr_kr2_38 : lr ≠ kr2_38 := Nat.ne_of_lt (Nat.lt_of_lt_of_le R_lr.lt o38_nw_kr2_38)
      have g_kr2_38 : n0 ≤ kr2_38 := Nat.le_trans Zc o38_nw_kr2_38
      have ne_li_lr2_38 : li ≠ lr2_38 := Nat.ne_of_lt (Nat.lt_of_lt_of_le F_root_li.lt o38_nw_lr2_38)
      have ne_nd_lr2_38 : nd ≠ lr2_38 := Nat.ne_of_lt (Nat.lt_of_lt_of_le F_keys_nd.lt o38_nw_lr2_38)
      have ne_kr_lr2_38 : kr ≠ lr2_38 := Nat.ne_of_lt (Nat.lt_of_lt_of_le A_kr.lt o38_nw_lr2_38)
      have ne_lr_lr2_38 : lr ≠ lr2_38 := Nat.ne_of_lt (Nat.lt_of_lt_of_le R_lr.lt o38_nw_lr2_38)
      have g_lr2_38 : n0 ≤ lr2_38 := Nat.le_trans Zc o38_nw_lr2_38
      replace E_li := E_li.keep K38q
      replace E_nd := E_nd.keep K38q
      have Z38 := Nat.le_trans Zc K38q.1
      have F_root_li := o38_F_root_li
      have F_last_li := o38_F_last_li
      have F_ahead_li := o38_F_ahead_li
      have E_li := o38_E_li
      have F_keys_nd2_38 := o38_F_keys_nd2_38
      have F_levels_nd2_38 := o38_F_levels_nd2_38
      have F_children_nd2_38 := o38_F_children_nd2_38
      have F_size_nd2_38 := o38_F_size_nd2_38
      have F_next_nd2_38 := o38_F_next_nd2_38
      have F_previous_nd2_38 := o38_F_previous_nd2_38
      have E_nd2_38 := o38_E_nd2_38
      have A_kr2_38 := o38_A_kr2_38
      have R_lr2_38 := o38_R_lr2_38
      refine Go.step (fun t k => st38.trans k) ?_
      show Go _ _ _ _ _ _ _ (T38.setTop (own_f3 m 288 av bv cv fl kb kc 1 0 0 li qa qb qc 1 (fl &&& (3 : Int32)) ((fl >>> ((4 : Int32) &&& 31)) &&& (3 : Int32)) []))
      have hI_39 : own_I 0 (fun _ => (0 : Int64)) (fun _ => .null) false false false av kb kc qa qb qc := by exact own_I.nil
      refine Go.step (fun t k => XS.iconst X38.here hx rfl (hb hby at_288) (XS.istore X38.here hx rfl (hb hby at_289) rfl (l' := #[.val (.long av), .second, .val (.long bv), .second, .val (.long cv), .second, .val (.int fl), .val (.long kb), .second, .val (.long kc), .second, .val (.int (0 : Int32)), .val (.int (0 : Int32)), .val (.int (0 : Int32)), .val (.ref li), .val (.ref qa), .val (.ref qb), .val (.ref qc), .val (.int (1 : Int32)), .val (.int (fl &&& (3 : Int32))), .val (.int ((fl >>> ((4 : Int32) &&& 31)) &&& (3 : Int32))), .unset]) rfl k)) ?_
      show Go _ _ _ _ _ _ _ (T38.setTop (own_f3 m 291 av bv cv fl kb kc 0 0 0 li qa qb qc 1 (fl &&& (3 : Int32)) ((fl >>> ((4 : Int32) &&& 31)) &&& (3 : Int32)) []))
      refine Go.step (fun t k => XS.goto X38.here hx rfl (pc0 := 291) (pc' := 339) rfl (hb hby at_291) (by decide) (by decide) k) ?_
      show Go _ _ _ _ _ _ _ (T38.setTop (own_f3 m 339 av bv cv fl kb kc 0 0 0 li qa qb qc 1 (fl &&& (3 : Int32)) ((fl >>> ((4 : Int32) &&& 31)) &&& (3 : Int32)) []))
      exact L339_000 _ _ _ kb kc li qa qb qc nd2_38 kr2_38 lr2_38 (fun _ => (0 : Int64)) (fun _ => .null) aw X38 rfl N38 Z38 F_last_li E_li F_keys_nd2_38 F_levels_nd2_38 F_size_nd2_38 R_lr2_38 hI_39
    · refine Go.step (fun t k => XS.icmpYes Xc.here hx rfl (pc0 := 274) (pc' := 294) rfl (hb hby at_274) rfl (feq hc274_37).2 (by decide) (by decide) k) ?_
      show Go _ _ _ _ _ _ _ (Tc.setTop (own_f3 m 294 av bv cv fl kb kc 1 0 0 li qa qb qc 1 (fl &&& (3 : Int32)) ((fl >>> ((4 : Int32) &&& 31)) &&& (3 : Int32)) []))
      refine Go.step (fun t k => XS.iload Xc.here hx rfl (hb hby at_294) rfl (XS.iconst Xc.here hx rfl (hb hby at_296) k)) ?_
      show Go _ _ _ _ _ _ _ (Tc.setTop (own_f3 m 297 av bv cv fl kb kc 1 0 0 li qa qb qc 1 (fl &&& (3 : Int32)) ((fl >>> ((4 : Int32) &&& 31)) &&& (3 : Int32)) [(.int (2 : Int32)), (.int ((fl >>> ((4 : Int32) &&& 31)) &&& (3 : Int32)))]))
      by_cases hc297_40 : ((fl >>> ((4 : Int32) &&& 31)) &&& (3 : Int32)) = (2 : Int32)
      · refine Go.step (fun t k => XS.icmpNo Xc.here hx rfl (hb hby at_297) rfl (teq hc297_40).2 k) ?_
        show Go _ _ _ _ _ _ _ (Tc.setTop (own_f3 m 300 av bv cv fl kb kc 1 0 0 li qa qb qc 1 (fl &&& (3 : Int32)) ((fl >>> ((4 : Int32) &&& 31)) &&& (3 : Int32)) []))
        refine Go.step (fun t k => XS.iload Xc.here hx rfl (hb hby at_300) rfl k) ?_
        show Go _ _ _ _ _ _ _ (Tc.setTop (own_f3 m 302 av bv cv fl kb kc 1 0 0 li qa qb qc 1 (fl &&& (3 : Int32)) ((fl >>> ((4 : Int32) &&& 31)) &&& (3 : Int32)) [(.int (0 : Int32))]))
        refine Go.step (fun t k => XS.ifYes Xc.here hx rfl (pc0 := 302) (pc' := 318) rfl (hb hby at_302) rfl ((if0 _ _).trans (teq (by decide : (0 : Int32) = (0 : Int32))).1) (by decide) (by decide) k) ?_
        show Go _ _ _ _ _ _ _ (Tc.setTop (own_f3 m 318 av bv cv fl kb kc 1 0 0 li qa qb qc 1 (fl &&& (3 : Int32)) ((fl >>> ((4 : Int32) &&& 31)) &&& (3 : Int32)) []))
        refine Go.step (fun t k => XS.iload Xc.here hx rfl (hb hby at_318) rfl (XS.iconst Xc.here hx rfl (hb hby at_320) k)) ?_
        show Go _ _ _ _ _ _ _ (Tc.setTop (own_f3 m 321 av bv cv fl kb kc 1 0 0 li qa qb qc 1 (fl &&& (3 : Int32)) ((fl >>> ((4 : Int32) &&& 31)) &&& (3 : Int32)) [(.int (3 : Int32)), (.int ((fl >>> ((4 : Int32) &&& 31)) &&& (3 : Int32)))]))
        refine Go.step (fun t k => XS.icmpYes Xc.here hx rfl (pc0 := 321) (pc' := 339) rfl (hb hby at_321) rfl (feq (fun q => absurd (hc297_40.symm.trans q) (by decide) : ¬ ((fl >>> ((4 : Int32) &&& 31)) &&& (3 : Int32)) = (3 : Int32))).2 (by decide) (by decide) k) ?_
        show Go _ _ _ _ _ _ _ (Tc.setTop (own_f3 m 339 av bv cv fl kb kc 1 0 0 li qa qb qc 1 (fl &&& (3 : Int32)) ((fl >>> ((4 : Int32) &&& 31)) &&& (3 : Int32)) []))
        exact L339_100 _ _ _ kb kc li qa qb qc nd kr lr gk gl aw Xc ec Nc Zc F_last_li E_li F_keys_nd F_levels_nd F_size_nd R_lr hI
      · refine Go.step (fun t k => XS.icmpYes Xc.here hx rfl (pc0 := 297) (pc' := 318) rfl (hb hby at_297) rfl (feq hc297_40).2 (by decide) (by decide) k) ?_
        show Go _ _ _ _ _ _ _ (Tc.setTop (own_f3 m 318 av bv cv fl kb kc 1 0 0 li qa qb qc 1 (fl &&& (3 : Int32)) ((fl >>> ((4 : Int32) &&& 31)) &&& (3 : Int32)) []))
        refine Go.step (fun t k => XS.iload Xc.here hx rfl (hb hby at_318) rfl (XS.iconst Xc.here hx rfl (hb hby at_320) k)) ?_
        show Go _ _ _ _ _ _ _ (Tc.setTop (own_f3 m 321 av bv cv fl kb kc 1 0 0 li qa qb qc 1 (fl &&& (3 : Int32)) ((fl >>> ((4 : Int32) &&& 31)) &&& (3 : Int32)) [(.int (3 : Int32)), (.int ((fl >>> ((4 : Int32) &&& 31)) &&& (3 : Int32)))]))
        by_cases hc321_41 : ((fl >>> ((4 : Int32) &&& 31)) &&& (3 : Int32)) = (3 : Int32)
        · refine Go.step (fun t k => XS.icmpNo Xc.here hx rfl (hb hby at_321) rfl (teq hc321_41).2 k) ?_
          show Go _ _ _ _ _ _ _ (Tc.setTop (own_f3 m 324 av bv cv fl kb kc 1 0 0 li qa qb qc 1 (fl &&& (3 : Int32)) ((fl >>> ((4 : Int32) &&& 31)) &&& (3 : Int32)) []))
          refine Go.step (fun t k => XS.iload Xc.here hx rfl (hb hby at_324) rfl k) ?_
          show Go _ _ _ _ _ _ _ (Tc.setTop (own_f3 m 326 av bv cv fl kb kc 1 0 0 li qa qb qc 1 (fl &&& (3 : Int32)) ((fl >>> ((4 : Int32) &&& 31)) &&& (3 : Int32)) [(.int (0 : Int32))]))
          refine Go.step (fun t k => XS.ifYes Xc.here hx rfl (pc0 := 326) (pc' := 339) rfl (hb hby at_326) rfl ((if0 _ _).trans (teq (by decide : (0 : Int32) = (0 : Int32))).1) (by decide) (by decide) k) ?_
          show Go _ _ _ _ _ _ _ (Tc.setTop (own_f3 m 339 av bv cv fl kb kc 1 0 0 li qa qb qc 1 (fl &&& (3 : Int32)) ((fl >>> ((4 : Int32) &&& 31)) &&& (3 : Int32)) []))
          exact L339_100 _ _ _ kb kc li qa qb qc nd kr lr gk gl aw Xc ec Nc Zc F_last_li E_li F_keys_nd F_levels_nd F_size_nd R_lr hI
        · refine Go.step (fun t k => XS.icmpYes Xc.here hx rfl (pc0 := 321) (pc' := 339) rfl (hb hby at_321) rfl (feq hc321_41).2 (by decide) (by decide) k) ?_
          show Go _ _ _ _ _ _ _ (Tc.setTop (own_f3 m 339 av bv cv fl kb kc 1 0 0 li qa qb qc 1 (fl &&& (3 : Int32)) ((fl >>> ((4 : Int32) &&& 31)) &&& (3 : Int32)) []))
          exact L339_100 _ _ _ kb kc li qa qb qc nd kr lr gk gl aw Xc ec Nc Zc F_last_li E_li F_keys_nd F_levels_nd F_size_nd R_lr hI
  have L263_101 : ∀ (Tc : State) (hc : Heap) (lc : List Loc) (kb : Int64) (kc : Int64) (li : Addr) (qa : Addr) (qb : Addr) (qc : Addr) (nd : Addr) (kr : Addr) (lr : Addr) (gk : Nat → Int64) (gl : Nat → Value) (aw : Value), (Stand p l e room_1 s m #[(.long av), (.long bv), (.long cv), (.int fl)] below meth c Tc lc 7 164) → (Tc.heap = hc) → (Fr n0 lc) → (n0 ≤ hc.size) → (Fld Z hc li "com/example/matchstone/matchstone/LevelIndex" "root" "Lcom/example/matchstone/matchstone/LevelIndex$Node;" (.ref nd)) → (Fld Z hc li "com/example/matchstone/matchstone/LevelIndex" "last" "Lcom/example/matchstone/matchstone/LevelIndex$Node;" (.ref nd)) → (Fld Z hc li "com/example/matchstone/matchstone/LevelIndex" "ahead" "Lcom/example/matchstone/matchstone/PriceLevel;" aw) → (Exa Z hc li "com/example/matchstone/matchstone/LevelIndex") → (n0 ≤ li) → (Fld Z hc nd "com/example/matchstone/matchstone/LevelIndex$Node" "keys" "[J" (.ref kr)) → (Fld Z hc nd "com/example/matchstone/matchstone/LevelIndex$Node" "levels" "[Lcom/example/matchstone/matchstone/PriceLevel;" (.ref lr)) → (Fld Z hc nd "com/example/matchstone/matchstone/LevelIndex$Node" "children" "[Lcom/example/matchstone/matchstone/LevelIndex$Node;" .null) → (Fld Z hc nd "com/example/matchstone/matchstone/LevelIndex$Node" "size" "I" (.int (2 : Int32))) → (Fld Z hc nd "com/example/matchstone/matchstone/LevelIndex$Node" "next" "Lcom/example/matchstone/matchstone/LevelIndex$Node;" .null) → (Fld Z hc nd "com/example/matchstone/matchstone/LevelIndex$Node" "previous" "Lcom/example/matchstone/matchstone/LevelIndex$Node;" .null) → (Exa Z hc nd "com/example/matchstone/matchstone/LevelIndex$Node") → (AryJ Z hc kr 65 gk) → (RAr Z hc lr "com/example/matchstone/matchstone/PriceLevel" 65 gl) → (n0 ≤ nd) → (n0 ≤ kr) → (n0 ≤ lr) → (kr ≠ lr) → (own_I 2 gk gl true false true av kb kc qa qb qc) → Go p e below s (Q0 Z av bv cv fl h0 n0) 32 704 (Tc.setTop (own_f2 m 263 av bv cv fl kb kc 1 0 1 li qa qb qc 1 (fl &&& (3 : Int32)) [])) := by
    intro Tc hc lc kb kc li qa qb qc nd kr lr gk gl aw Xc ec Nc Zc F_root_li F_last_li F_ahead_li E_li g_li F_keys_nd F_levels_nd F_children_nd F_size_nd F_next_nd F_previous_nd E_nd A_kr R_lr g_nd g_kr g_lr ne_kr_lr hI
    show Go _ _ _ _ _ _ _ (Tc.setTop (own_f2 m 263 av bv cv fl kb kc 1 0 1 li qa qb qc 1 (fl &&& (3 : Int32)) []))
    refine Go.step (fun t k => XS.iload Xc.here hx rfl (hb hby at_263) rfl (XS.iconst Xc.here hx rfl (hb hby at_265) (XS.ishr Xc.here hx rfl (hb hby at_266) rfl (XS.iconst Xc.here hx rfl (hb hby at_267) (XS.iand Xc.here hx rfl (hb hby at_268) rfl (XS.istore Xc.here hx rfl (hb hby at_269) rfl (l' := #[.val (.long av), .second, .val (.long bv), .second, .val (.long cv), .second, .val (.int fl), .val (.long kb), .second, .val (.long kc), .second, .val (.int (1 : Int32)), .val (.int (0 : Int32)), .val (.int (1 : Int32)), .val (.ref li), .val (.ref qa), .val (.ref qb), .val (.ref qc), .val (.int (1 : Int32)), .val (.int (fl &&& (3 : Int32))), .val (.int ((fl >>> ((4 : Int32) &&& 31)) &&& (3 : Int32))), .unset]) rfl (XS.iload Xc.here hx rfl (hb hby at_271) rfl (XS.iconst Xc.here hx rfl (hb hby at_273) k)))))))) ?_
    show Go _ _ _ _ _ _ _ (Tc.setTop (own_f3 m 274 av bv cv fl kb kc 1 0 1 li qa qb qc 1 (fl &&& (3 : Int32)) ((fl >>> ((4 : Int32) &&& 31)) &&& (3 : Int32)) [(.int (1 : Int32)), (.int ((fl >>> ((4 : Int32) &&& 31)) &&& (3 : Int32)))]))
    by_cases hc274_42 : ((fl >>> ((4 : Int32) &&& 31)) &&& (3 : Int32)) = (1 : Int32)
    · refine Go.step (fun t k => XS.icmpNo Xc.here hx rfl (hb hby at_274) rfl (teq hc274_42).2 k) ?_
      show Go _ _ _ _ _ _ _ (Tc.setTop (own_f3 m 277 av bv cv fl kb kc 1 0 1 li qa qb qc 1 (fl &&& (3 : Int32)) ((fl >>> ((4 : Int32) &&& 31)) &&& (3 : Int32)) []))
      refine Go.step (fun t k => XS.iload Xc.here hx rfl (hb hby at_277) rfl k) ?_
      show Go _ _ _ _ _ _ _ (Tc.setTop (own_f3 m 279 av bv cv fl kb kc 1 0 1 li qa qb qc 1 (fl &&& (3 : Int32)) ((fl >>> ((4 : Int32) &&& 31)) &&& (3 : Int32)) [(.int (1 : Int32))]))
      refine Go.step (fun t k => XS.ifNo Xc.here hx rfl (hb hby at_279) rfl ((if0 _ _).trans (feq (by decide : ¬ (1 : Int32) = (0 : Int32))).1) k) ?_
      show Go _ _ _ _ _ _ _ (Tc.setTop (own_f3 m 282 av bv cv fl kb kc 1 0 1 li qa qb qc 1 (fl &&& (3 : Int32)) ((fl >>> ((4 : Int32) &&& 31)) &&& (3 : Int32)) []))
      refine Go.step (fun t k => XS.aload Xc.here hx rfl (hb hby at_282) rfl rfl (XS.lloadN Xc.here hx rfl (hb hby at_284) rfl k)) ?_
      show Go _ _ _ _ _ _ _ (Tc.setTop (own_f3 m 285 av bv cv fl kb kc 1 0 1 li qa qb qc 1 (fl &&& (3 : Int32)) ((fl >>> ((4 : Int32) &&& 31)) &&& (3 : Int32)) [(.long av), (.ref li)]))
      obtain ⟨cq43, kq43, q43a, q43b, q43c⟩ := isOf hZ ec E_li
      obtain ⟨_, _, ⟨T43, L43, k43, n43⟩, -, X43, ⟨Lc43, hQ43, l43, y43, z43⟩, st43⟩ := Xc.virtualBack hx (y := (⟨"com/example/matchstone/matchstone/LevelIndex", "remove", "(J)V"⟩ : MethodName)) (z := (⟨"com/example/matchstone/matchstone/LevelIndex", "remove", "(J)V"⟩ : MethodName)) hown (mvT hZ (hw _ (List.mem_of_getElem? (i := 93) rfl))) (mvT hZ (hw _ (List.mem_of_getElem? (i := 94) rfl))) (notFace_of_selects (args := #[]) (mvT hZ (hw _ (List.mem_of_getElem? (i := 96) rfl)))) (mvT hZ (hw _ (List.mem_of_getElem? (i := 96) rfl))) (mvT hZ (hw _ (List.mem_of_getElem? (i := 95) rfl))) (by decide) (backOf (W := 0) (rm15 l Z a0 hw [] li av nd kr lr gk gl (2 : Int32) 1 aw hc n0 Zc F_root_li F_last_li F_ahead_li E_li g_li F_keys_nd F_levels_nd F_children_nd F_size_nd F_next_nd F_previous_nd E_nd A_kr R_lr g_nd g_kr g_lr ne_kr_lr (by decide) (by decide) (by decide) (own_I.srt hI) (own_I.inA hI)) hZ (hw _ (List.mem_of_getElem? (i := 97) rfl)) (hw _ (List.mem_of_getElem? (i := 2) rfl)) (by decide) (by decide)) q43a q43c (g := (own_f3 m 285 av bv cv fl kb kc 1 0 1 li qa qb qc 1 (fl &&& (3 : Int32)) ((fl >>> ((4 : Int32) &&& 31)) &&& (3 : Int32)) [(.long av), (.ref li)])) rfl (by rw [hml]; rfl) (Steps.refl _) (argsL := [(.long av)]) (rest := []) (lenOf pd_0_2 rfl) rfl (by show 2 * 0 + _ ≤ _; exact Nat.le_of_eq rfl) (hb hby at_285) (fun _ _ => ⟨rfl, ec, (by decide : 7 + 0 ≤ _), (by decide : 164 + 0 ≤ _)⟩)
      dsimp only [Pt.U, Pt.locs, Pt.cells, Pt.slots] at X43 l43 y43 z43 st43 hQ43
      subst l43 y43 z43
      obtain ⟨im_43, gk2_43, gl2_43, rfl, N43q, K43q, o43_him, o43_hgi, o43_hgk, o43_hgl, o43_F_root_li, o43_F_last_li, o43_F_ahead_li, o43_E_li, o43_F_keys_nd, o43_F_levels_nd, o43_F_children_nd, o43_F_size_nd, o43_F_next_nd, o43_F_previous_nd, o43_E_nd, o43_A_kr, o43_R_lr⟩ := hQ43
      have N43 := Fr.app Nc N43q
      replace E_li := E_li.keep K43q
      replace E_nd := E_nd.keep K43q
      have Z43 := Nat.le_trans Zc K43q.1
      have F_root_li := o43_F_root_li
      have F_last_li := o43_F_last_li
      have F_ahead_li := o43_F_ahead_li
      have E_li := o43_E_li
      have F_keys_nd := o43_F_keys_nd
      have F_levels_nd := o43_F_levels_nd
      have F_children_nd := o43_F_children_nd
      have F_size_nd := o43_F_size_nd
      have F_next_nd := o43_F_next_nd
      have F_previous_nd := o43_F_previous_nd
      have E_nd := o43_E_nd
      have A_kr := o43_A_kr
      have R_lr := o43_R_lr
      refine Go.step (fun t k => st43.trans k) ?_
      show Go _ _ _ _ _ _ _ (T43.setTop (own_f3 m 288 av bv cv fl kb kc 1 0 1 li qa qb qc 1 (fl &&& (3 : Int32)) ((fl >>> ((4 : Int32) &&& 31)) &&& (3 : Int32)) []))
      have hI_44 : own_I 1 gk2_43 gl2_43 false false true av kb kc qa qb qc := by rw [o43_hgk, o43_hgl]; exact own_I.remA (n := 1) hI o43_him o43_hgi
      refine Go.step (fun t k => XS.iconst X43.here hx rfl (hb hby at_288) (XS.istore X43.here hx rfl (hb hby at_289) rfl (l' := #[.val (.long av), .second, .val (.long bv), .second, .val (.long cv), .second, .val (.int fl), .val (.long kb), .second, .val (.long kc), .second, .val (.int (0 : Int32)), .val (.int (0 : Int32)), .val (.int (1 : Int32)), .val (.ref li), .val (.ref qa), .val (.ref qb), .val (.ref qc), .val (.int (1 : Int32)), .val (.int (fl &&& (3 : Int32))), .val (.int ((fl >>> ((4 : Int32) &&& 31)) &&& (3 : Int32))), .unset]) rfl k)) ?_
      show Go _ _ _ _ _ _ _ (T43.setTop (own_f3 m 291 av bv cv fl kb kc 0 0 1 li qa qb qc 1 (fl &&& (3 : Int32)) ((fl >>> ((4 : Int32) &&& 31)) &&& (3 : Int32)) []))
      refine Go.step (fun t k => XS.goto X43.here hx rfl (pc0 := 291) (pc' := 339) rfl (hb hby at_291) (by decide) (by decide) k) ?_
      show Go _ _ _ _ _ _ _ (T43.setTop (own_f3 m 339 av bv cv fl kb kc 0 0 1 li qa qb qc 1 (fl &&& (3 : Int32)) ((fl >>> ((4 : Int32) &&& 31)) &&& (3 : Int32)) []))
      exact L339_001 _ _ _ kb kc li qa qb qc nd kr lr gk2_43 gl2_43 aw X43 rfl N43 Z43 F_last_li E_li F_keys_nd F_levels_nd F_size_nd R_lr hI_44
    · refine Go.step (fun t k => XS.icmpYes Xc.here hx rfl (pc0 := 274) (pc' := 294) rfl (hb hby at_274) rfl (feq hc274_42).2 (by decide) (by decide) k) ?_
      show Go _ _ _ _ _ _ _ (Tc.setTop (own_f3 m 294 av bv cv fl kb kc 1 0 1 li qa qb qc 1 (fl &&& (3 : Int32)) ((fl >>> ((4 : Int32) &&& 31)) &&& (3 : Int32)) []))
      refine Go.step (fun t k => XS.iload Xc.here hx rfl (hb hby at_294) rfl (XS.iconst Xc.here hx rfl (hb hby at_296) k)) ?_
      show Go _ _ _ _ _ _ _ (Tc.setTop (own_f3 m 297 av bv cv fl kb kc 1 0 1 li qa qb qc 1 (fl &&& (3 : Int32)) ((fl >>> ((4 : Int32) &&& 31)) &&& (3 : Int32)) [(.int (2 : Int32)), (.int ((fl >>> ((4 : Int32) &&& 31)) &&& (3 : Int32)))]))
      by_cases hc297_45 : ((fl >>> ((4 : Int32) &&& 31)) &&& (3 : Int32)) = (2 : Int32)
      · refine Go.step (fun t k => XS.icmpNo Xc.here hx rfl (hb hby at_297) rfl (teq hc297_45).2 k) ?_
        show Go _ _ _ _ _ _ _ (Tc.setTop (own_f3 m 300 av bv cv fl kb kc 1 0 1 li qa qb qc 1 (fl &&& (3 : Int32)) ((fl >>> ((4 : Int32) &&& 31)) &&& (3 : Int32)) []))
        refine Go.step (fun t k => XS.iload Xc.here hx rfl (hb hby at_300) rfl k) ?_
        show Go _ _ _ _ _ _ _ (Tc.setTop (own_f3 m 302 av bv cv fl kb kc 1 0 1 li qa qb qc 1 (fl &&& (3 : Int32)) ((fl >>> ((4 : Int32) &&& 31)) &&& (3 : Int32)) [(.int (0 : Int32))]))
        refine Go.step (fun t k => XS.ifYes Xc.here hx rfl (pc0 := 302) (pc' := 318) rfl (hb hby at_302) rfl ((if0 _ _).trans (teq (by decide : (0 : Int32) = (0 : Int32))).1) (by decide) (by decide) k) ?_
        show Go _ _ _ _ _ _ _ (Tc.setTop (own_f3 m 318 av bv cv fl kb kc 1 0 1 li qa qb qc 1 (fl &&& (3 : Int32)) ((fl >>> ((4 : Int32) &&& 31)) &&& (3 : Int32)) []))
        refine Go.step (fun t k => XS.iload Xc.here hx rfl (hb hby at_318) rfl (XS.iconst Xc.here hx rfl (hb hby at_320) k)) ?_
        show Go _ _ _ _ _ _ _ (Tc.setTop (own_f3 m 321 av bv cv fl kb kc 1 0 1 li qa qb qc 1 (fl &&& (3 : Int32)) ((fl >>> ((4 : Int32) &&& 31)) &&& (3 : Int32)) [(.int (3 : Int32)), (.int ((fl >>> ((4 : Int32) &&& 31)) &&& (3 : Int32)))]))
        refine Go.step (fun t k => XS.icmpYes Xc.here hx rfl (pc0 := 321) (pc' := 339) rfl (hb hby at_321) rfl (feq (fun q => absurd (hc297_45.symm.trans q) (by decide) : ¬ ((fl >>> ((4 : Int32) &&& 31)) &&& (3 : Int32)) = (3 : Int32))).2 (by decide) (by decide) k) ?_
        show Go _ _ _ _ _ _ _ (Tc.setTop (own_f3 m 339 av bv cv fl kb kc 1 0 1 li qa qb qc 1 (fl &&& (3 : Int32)) ((fl >>> ((4 : Int32) &&& 31)) &&& (3 : Int32)) []))
        exact L339_101 _ _ _ kb kc li qa qb qc nd kr lr gk gl aw Xc ec Nc Zc F_last_li E_li F_keys_nd F_levels_nd F_size_nd R_lr hI
      · refine Go.step (fun t k => XS.icmpYes Xc.here hx rfl (pc0 := 297) (pc' := 318) rfl (hb hby at_297) rfl (feq hc297_45).2 (by decide) (by decide) k) ?_
        show Go _ _ _ _ _ _ _ (Tc.setTop (own_f3 m 318 av bv cv fl kb kc 1 0 1 li qa qb qc 1 (fl &&& (3 : Int32)) ((fl >>> ((4 : Int32) &&& 31)) &&& (3 : Int32)) []))
        refine Go.step (fun t k => XS.iload Xc.here hx rfl (hb hby at_318) rfl (XS.iconst Xc.here hx rfl (hb hby at_320) k)) ?_
        show Go _ _ _ _ _ _ _ (Tc.setTop (own_f3 m 321 av bv cv fl kb kc 1 0 1 li qa qb qc 1 (fl &&& (3 : Int32)) ((fl >>> ((4 : Int32) &&& 31)) &&& (3 : Int32)) [(.int (3 : Int32)), (.int ((fl >>> ((4 : Int32) &&& 31)) &&& (3 : Int32)))]))
        by_cases hc321_46 : ((fl >>> ((4 : Int32) &&& 31)) &&& (3 : Int32)) = (3 : Int32)
        · refine Go.step (fun t k => XS.icmpNo Xc.here hx rfl (hb hby at_321) rfl (teq hc321_46).2 k) ?_
          show Go _ _ _ _ _ _ _ (Tc.setTop (own_f3 m 324 av bv cv fl kb kc 1 0 1 li qa qb qc 1 (fl &&& (3 : Int32)) ((fl >>> ((4 : Int32) &&& 31)) &&& (3 : Int32)) []))
          refine Go.step (fun t k => XS.iload Xc.here hx rfl (hb hby at_324) rfl k) ?_
          show Go _ _ _ _ _ _ _ (Tc.setTop (own_f3 m 326 av bv cv fl kb kc 1 0 1 li qa qb qc 1 (fl &&& (3 : Int32)) ((fl >>> ((4 : Int32) &&& 31)) &&& (3 : Int32)) [(.int (1 : Int32))]))
          refine Go.step (fun t k => XS.ifNo Xc.here hx rfl (hb hby at_326) rfl ((if0 _ _).trans (feq (by decide : ¬ (1 : Int32) = (0 : Int32))).1) k) ?_
          show Go _ _ _ _ _ _ _ (Tc.setTop (own_f3 m 329 av bv cv fl kb kc 1 0 1 li qa qb qc 1 (fl &&& (3 : Int32)) ((fl >>> ((4 : Int32) &&& 31)) &&& (3 : Int32)) []))
          refine Go.step (fun t k => XS.aload Xc.here hx rfl (hb hby at_329) rfl rfl (XS.lload Xc.here hx rfl (hb hby at_331) rfl k)) ?_
          show Go _ _ _ _ _ _ _ (Tc.setTop (own_f3 m 333 av bv cv fl kb kc 1 0 1 li qa qb qc 1 (fl &&& (3 : Int32)) ((fl >>> ((4 : Int32) &&& 31)) &&& (3 : Int32)) [(.long kc), (.ref li)]))
          obtain ⟨cq47, kq47, q47a, q47b, q47c⟩ := isOf hZ ec E_li
          obtain ⟨_, _, ⟨T47, L47, k47, n47⟩, -, X47, ⟨Lc47, hQ47, l47, y47, z47⟩, st47⟩ := Xc.virtualBack hx (y := (⟨"com/example/matchstone/matchstone/LevelIndex", "remove", "(J)V"⟩ : MethodName)) (z := (⟨"com/example/matchstone/matchstone/LevelIndex", "remove", "(J)V"⟩ : MethodName)) hown (mvT hZ (hw _ (List.mem_of_getElem? (i := 93) rfl))) (mvT hZ (hw _ (List.mem_of_getElem? (i := 94) rfl))) (notFace_of_selects (args := #[]) (mvT hZ (hw _ (List.mem_of_getElem? (i := 96) rfl)))) (mvT hZ (hw _ (List.mem_of_getElem? (i := 96) rfl))) (mvT hZ (hw _ (List.mem_of_getElem? (i := 95) rfl))) (by decide) (backOf (W := 0) (rm15 l Z a0 hw [] li kc nd kr lr gk gl (2 : Int32) 1 aw hc n0 Zc F_root_li F_last_li F_ahead_li E_li g_li F_keys_nd F_levels_nd F_children_nd F_size_nd F_next_nd F_previous_nd E_nd A_kr R_lr g_nd g_kr g_lr ne_kr_lr (by decide) (by decide) (by decide) (own_I.srt hI) (own_I.inC hI)) hZ (hw _ (List.mem_of_getElem? (i := 97) rfl)) (hw _ (List.mem_of_getElem? (i := 2) rfl)) (by decide) (by decide)) q47a q47c (g := (own_f3 m 333 av bv cv fl kb kc 1 0 1 li qa qb qc 1 (fl &&& (3 : Int32)) ((fl >>> ((4 : Int32) &&& 31)) &&& (3 : Int32)) [(.long kc), (.ref li)])) rfl (by rw [hml]; rfl) (Steps.refl _) (argsL := [(.long kc)]) (rest := []) (lenOf pd_0_2 rfl) rfl (by show 2 * 0 + _ ≤ _; exact Nat.le_of_eq rfl) (hb hby at_333) (fun _ _ => ⟨rfl, ec, (by decide : 7 + 0 ≤ _), (by decide : 164 + 0 ≤ _)⟩)
          dsimp only [Pt.U, Pt.locs, Pt.cells, Pt.slots] at X47 l47 y47 z47 st47 hQ47
          subst l47 y47 z47
          obtain ⟨im_47, gk2_47, gl2_47, rfl, N47q, K47q, o47_him, o47_hgi, o47_hgk, o47_hgl, o47_F_root_li, o47_F_last_li, o47_F_ahead_li, o47_E_li, o47_F_keys_nd, o47_F_levels_nd, o47_F_children_nd, o47_F_size_nd, o47_F_next_nd, o47_F_previous_nd, o47_E_nd, o47_A_kr, o47_R_lr⟩ := hQ47
          have N47 := Fr.app Nc N47q
          replace E_li := E_li.keep K47q
          replace E_nd := E_nd.keep K47q
          have Z47 := Nat.le_trans Zc K47q.1
          have F_root_li := o47_F_root_li
          have F_last_li := o47_F_last_li
          have F_ahead_li := o47_F_ahead_li
          have E_li := o47_E_li
          have F_keys_nd := o47_F_keys_nd
          have F_levels_nd := o47_F_levels_nd
          have F_children_nd := o47_F_children_nd
          have F_size_nd := o47_F_size_nd
          have F_next_nd := o47_F_next_nd
          have F_previous_nd := o47_F_previous_nd
          have E_nd := o47_E_nd
          have A_kr := o47_A_kr
          have R_lr := o47_R_lr
          refine Go.step (fun t k => st47.trans k) ?_
          show Go _ _ _ _ _ _ _ (T47.setTop (own_f3 m 336 av bv cv fl kb kc 1 0 1 li qa qb qc 1 (fl &&& (3 : Int32)) ((fl >>> ((4 : Int32) &&& 31)) &&& (3 : Int32)) []))
          have hI_48 : own_I 1 gk2_47 gl2_47 true false false av kb kc qa qb qc := by rw [o47_hgk, o47_hgl]; exact own_I.remC (n := 1) hI o47_him o47_hgi
          refine Go.step (fun t k => XS.iconst X47.here hx rfl (hb hby at_336) (XS.istore X47.here hx rfl (hb hby at_337) rfl (l' := #[.val (.long av), .second, .val (.long bv), .second, .val (.long cv), .second, .val (.int fl), .val (.long kb), .second, .val (.long kc), .second, .val (.int (1 : Int32)), .val (.int (0 : Int32)), .val (.int (0 : Int32)), .val (.ref li), .val (.ref qa), .val (.ref qb), .val (.ref qc), .val (.int (1 : Int32)), .val (.int (fl &&& (3 : Int32))), .val (.int ((fl >>> ((4 : Int32) &&& 31)) &&& (3 : Int32))), .unset]) rfl k)) ?_
          show Go _ _ _ _ _ _ _ (T47.setTop (own_f3 m 339 av bv cv fl kb kc 1 0 0 li qa qb qc 1 (fl &&& (3 : Int32)) ((fl >>> ((4 : Int32) &&& 31)) &&& (3 : Int32)) []))
          exact L339_100 _ _ _ kb kc li qa qb qc nd kr lr gk2_47 gl2_47 aw X47 rfl N47 Z47 F_last_li E_li F_keys_nd F_levels_nd F_size_nd R_lr hI_48
        · refine Go.step (fun t k => XS.icmpYes Xc.here hx rfl (pc0 := 321) (pc' := 339) rfl (hb hby at_321) rfl (feq hc321_46).2 (by decide) (by decide) k) ?_
          show Go _ _ _ _ _ _ _ (Tc.setTop (own_f3 m 339 av bv cv fl kb kc 1 0 1 li qa qb qc 1 (fl &&& (3 : Int32)) ((fl >>> ((4 : Int32) &&& 31)) &&& (3 : Int32)) []))
          exact L339_101 _ _ _ kb kc li qa qb qc nd kr lr gk gl aw Xc ec Nc Zc F_last_li E_li F_keys_nd F_levels_nd F_size_nd R_lr hI
  have L263_110 : ∀ (Tc : State) (hc : Heap) (lc : List Loc) (kb : Int64) (kc : Int64) (li : Addr) (qa : Addr) (qb : Addr) (qc : Addr) (nd : Addr) (kr : Addr) (lr : Addr) (gk : Nat → Int64) (gl : Nat → Value) (aw : Value), (Stand p l e room_1 s m #[(.long av), (.long bv), (.long cv), (.int fl)] below meth c Tc lc 7 164) → (Tc.heap = hc) → (Fr n0 lc) → (n0 ≤ hc.size) → (Fld Z hc li "com/example/matchstone/matchstone/LevelIndex" "root" "Lcom/example/matchstone/matchstone/LevelIndex$Node;" (.ref nd)) → (Fld Z hc li "com/example/matchstone/matchstone/LevelIndex" "last" "Lcom/example/matchstone/matchstone/LevelIndex$Node;" (.ref nd)) → (Fld Z hc li "com/example/matchstone/matchstone/LevelIndex" "ahead" "Lcom/example/matchstone/matchstone/PriceLevel;" aw) → (Exa Z hc li "com/example/matchstone/matchstone/LevelIndex") → (n0 ≤ li) → (Fld Z hc nd "com/example/matchstone/matchstone/LevelIndex$Node" "keys" "[J" (.ref kr)) → (Fld Z hc nd "com/example/matchstone/matchstone/LevelIndex$Node" "levels" "[Lcom/example/matchstone/matchstone/PriceLevel;" (.ref lr)) → (Fld Z hc nd "com/example/matchstone/matchstone/LevelIndex$Node" "children" "[Lcom/example/matchstone/matchstone/LevelIndex$Node;" .null) → (Fld Z hc nd "com/example/matchstone/matchstone/LevelIndex$Node" "size" "I" (.int (2 : Int32))) → (Fld Z hc nd "com/example/matchstone/matchstone/LevelIndex$Node" "next" "Lcom/example/matchstone/matchstone/LevelIndex$Node;" .null) → (Fld Z hc nd "com/example/matchstone/matchstone/LevelIndex$Node" "previous" "Lcom/example/matchstone/matchstone/LevelIndex$Node;" .null) → (Exa Z hc nd "com/example/matchstone/matchstone/LevelIndex$Node") → (AryJ Z hc kr 65 gk) → (RAr Z hc lr "com/example/matchstone/matchstone/PriceLevel" 65 gl) → (n0 ≤ nd) → (n0 ≤ kr) → (n0 ≤ lr) → (kr ≠ lr) → (own_I 2 gk gl true true false av kb kc qa qb qc) → Go p e below s (Q0 Z av bv cv fl h0 n0) 32 704 (Tc.setTop (own_f2 m 263 av bv cv fl kb kc 1 1 0 li qa qb qc 1 (fl &&& (3 : Int32)) [])) := by
    intro Tc hc lc kb kc li qa qb qc nd kr lr gk gl aw Xc ec Nc Zc F_root_li F_last_li F_ahead_li E_li g_li F_keys_nd F_levels_nd F_children_nd F_size_nd F_next_nd F_previous_nd E_nd A_kr R_lr g_nd g_kr g_lr ne_kr_lr hI
    show Go _ _ _ _ _ _ _ (Tc.setTop (own_f2 m 263 av bv cv fl kb kc 1 1 0 li qa qb qc 1 (fl &&& (3 : Int32)) []))
    refine Go.step (fun t k => XS.iload Xc.here hx rfl (hb hby at_263) rfl (XS.iconst Xc.here hx rfl (hb hby at_265) (XS.ishr Xc.here hx rfl (hb hby at_266) rfl (XS.iconst Xc.here hx rfl (hb hby at_267) (XS.iand Xc.here hx rfl (hb hby at_268) rfl (XS.istore Xc.here hx rfl (hb hby at_269) rfl (l' := #[.val (.long av), .second, .val (.long bv), .second, .val (.long cv), .second, .val (.int fl), .val (.long kb), .second, .val (.long kc), .second, .val (.int (1 : Int32)), .val (.int (1 : Int32)), .val (.int (0 : Int32)), .val (.ref li), .val (.ref qa), .val (.ref qb), .val (.ref qc), .val (.int (1 : Int32)), .val (.int (fl &&& (3 : Int32))), .val (.int ((fl >>> ((4 : Int32) &&& 31)) &&& (3 : Int32))), .unset]) rfl (XS.iload Xc.here hx rfl (hb hby at_271) rfl (XS.iconst Xc.here hx rfl (hb hby at_273) k)))))))) ?_
    show Go _ _ _ _ _ _ _ (Tc.setTop (own_f3 m 274 av bv cv fl kb kc 1 1 0 li qa qb qc 1 (fl &&& (3 : Int32)) ((fl >>> ((4 : Int32) &&& 31)) &&& (3 : Int32)) [(.int (1 : Int32)), (.int ((fl >>> ((4 : Int32) &&& 31)) &&& (3 : Int32)))]))
    by_cases hc274_49 : ((fl >>> ((4 : Int32) &&& 31)) &&& (3 : Int32)) = (1 : Int32)
    · refine Go.step (fun t k => XS.icmpNo Xc.here hx rfl (hb hby at_274) rfl (teq hc274_49).2 k) ?_
      show Go _ _ _ _ _ _ _ (Tc.setTop (own_f3 m 277 av bv cv fl kb kc 1 1 0 li qa qb qc 1 (fl &&& (3 : Int32)) ((fl >>> ((4 : Int32) &&& 31)) &&& (3 : Int32)) []))
      refine Go.step (fun t k => XS.iload Xc.here hx rfl (hb hby at_277) rfl k) ?_
      show Go _ _ _ _ _ _ _ (Tc.setTop (own_f3 m 279 av bv cv fl kb kc 1 1 0 li qa qb qc 1 (fl &&& (3 : Int32)) ((fl >>> ((4 : Int32) &&& 31)) &&& (3 : Int32)) [(.int (1 : Int32))]))
      refine Go.step (fun t k => XS.ifNo Xc.here hx rfl (hb hby at_279) rfl ((if0 _ _).trans (feq (by decide : ¬ (1 : Int32) = (0 : Int32))).1) k) ?_
      show Go _ _ _ _ _ _ _ (Tc.setTop (own_f3 m 282 av bv cv fl kb kc 1 1 0 li qa qb qc 1 (fl &&& (3 : Int32)) ((fl >>> ((4 : Int32) &&& 31)) &&& (3 : Int32)) []))
      refine Go.step (fun t k => XS.aload Xc.here hx rfl (hb hby at_282) rfl rfl (XS.lloadN Xc.here hx rfl (hb hby at_284) rfl k)) ?_
      show Go _ _ _ _ _ _ _ (Tc.setTop (own_f3 m 285 av bv cv fl kb kc 1 1 0 li qa qb qc 1 (fl &&& (3 : Int32)) ((fl >>> ((4 : Int32) &&& 31)) &&& (3 : Int32)) [(.long av), (.ref li)]))
      obtain ⟨cq50, kq50, q50a, q50b, q50c⟩ := isOf hZ ec E_li
      obtain ⟨_, _, ⟨T50, L50, k50, n50⟩, -, X50, ⟨Lc50, hQ50, l50, y50, z50⟩, st50⟩ := Xc.virtualBack hx (y := (⟨"com/example/matchstone/matchstone/LevelIndex", "remove", "(J)V"⟩ : MethodName)) (z := (⟨"com/example/matchstone/matchstone/LevelIndex", "remove", "(J)V"⟩ : MethodName)) hown (mvT hZ (hw _ (List.mem_of_getElem? (i := 93) rfl))) (mvT hZ (hw _ (List.mem_of_getElem? (i := 94) rfl))) (notFace_of_selects (args := #[]) (mvT hZ (hw _ (List.mem_of_getElem? (i := 96) rfl)))) (mvT hZ (hw _ (List.mem_of_getElem? (i := 96) rfl))) (mvT hZ (hw _ (List.mem_of_getElem? (i := 95) rfl))) (by decide) (backOf (W := 0) (rm15 l Z a0 hw [] li av nd kr lr gk gl (2 : Int32) 1 aw hc n0 Zc F_root_li F_last_li F_ahead_li E_li g_li F_keys_nd F_levels_nd F_children_nd F_size_nd F_next_nd F_previous_nd E_nd A_kr R_lr g_nd g_kr g_lr ne_kr_lr (by decide) (by decide) (by decide) (own_I.srt hI) (own_I.inA hI)) hZ (hw _ (List.mem_of_getElem? (i := 97) rfl)) (hw _ (List.mem_of_getElem? (i := 2) rfl)) (by decide) (by decide)) q50a q50c (g := (own_f3 m 285 av bv cv fl kb kc 1 1 0 li qa qb qc 1 (fl &&& (3 : Int32)) ((fl >>> ((4 : Int32) &&& 31)) &&& (3 : Int32)) [(.long av), (.ref li)])) rfl (by rw [hml]; rfl) (Steps.refl _) (argsL := [(.long av)]) (rest := []) (lenOf pd_0_2 rfl) rfl (by show 2 * 0 + _ ≤ _; exact Nat.le_of_eq rfl) (hb hby at_285) (fun _ _ => ⟨rfl, ec, (by decide : 7 + 0 ≤ _), (by decide : 164 + 0 ≤ _)⟩)
      dsimp only [Pt.U, Pt.locs, Pt.cells, Pt.slots] at X50 l50 y50 z50 st50 hQ50
      subst l50 y50 z50
      obtain ⟨im_50, gk2_50, gl2_50, rfl, N50q, K50q, o50_him, o50_hgi, o50_hgk, o50_hgl, o50_F_root_li, o50_F_last_li, o50_F_ahead_li, o50_E_li, o50_F_keys_nd, o50_F_levels_nd, o50_F_children_nd, o50_F_size_nd, o50_F_next_nd, o50_F_previous_nd, o50_E_nd, o50_A_kr, o50_R_lr⟩ := hQ50
      have N50 := Fr.app Nc N50q
      replace E_li := E_li.keep K50q
      replace E_nd := E_nd.keep K50q
      have Z50 := Nat.le_trans Zc K50q.1
      have F_root_li := o50_F_root_li
      have F_last_li := o50_F_last_li
      have F_ahead_li := o50_F_ahead_li
      have E_li := o50_E_li
      have F_keys_nd := o50_F_keys_nd
      have F_levels_nd := o50_F_levels_nd
      have F_children_nd := o50_F_children_nd
      have F_size_nd := o50_F_size_nd
      have F_next_nd := o50_F_next_nd
      have F_previous_nd := o50_F_previous_nd
      have E_nd := o50_E_nd
      have A_kr := o50_A_kr
      have R_lr := o50_R_lr
      refine Go.step (fun t k => st50.trans k) ?_
      show Go _ _ _ _ _ _ _ (T50.setTop (own_f3 m 288 av bv cv fl kb kc 1 1 0 li qa qb qc 1 (fl &&& (3 : Int32)) ((fl >>> ((4 : Int32) &&& 31)) &&& (3 : Int32)) []))
      have hI_51 : own_I 1 gk2_50 gl2_50 false true false av kb kc qa qb qc := by rw [o50_hgk, o50_hgl]; exact own_I.remA (n := 1) hI o50_him o50_hgi
      refine Go.step (fun t k => XS.iconst X50.here hx rfl (hb hby at_288) (XS.istore X50.here hx rfl (hb hby at_289) rfl (l' := #[.val (.long av), .second, .val (.long bv), .second, .val (.long cv), .second, .val (.int fl), .val (.long kb), .second, .val (.long kc), .second, .val (.int (0 : Int32)), .val (.int (1 : Int32)), .val (.int (0 : Int32)), .val (.ref li), .val (.ref qa), .val (.ref qb), .val (.ref qc), .val (.int (1 : Int32)), .val (.int (fl &&& (3 : Int32))), .val (.int ((fl >>> ((4 : Int32) &&& 31)) &&& (3 : Int32))), .unset]) rfl k)) ?_
      show Go _ _ _ _ _ _ _ (T50.setTop (own_f3 m 291 av bv cv fl kb kc 0 1 0 li qa qb qc 1 (fl &&& (3 : Int32)) ((fl >>> ((4 : Int32) &&& 31)) &&& (3 : Int32)) []))
      refine Go.step (fun t k => XS.goto X50.here hx rfl (pc0 := 291) (pc' := 339) rfl (hb hby at_291) (by decide) (by decide) k) ?_
      show Go _ _ _ _ _ _ _ (T50.setTop (own_f3 m 339 av bv cv fl kb kc 0 1 0 li qa qb qc 1 (fl &&& (3 : Int32)) ((fl >>> ((4 : Int32) &&& 31)) &&& (3 : Int32)) []))
      exact L339_010 _ _ _ kb kc li qa qb qc nd kr lr gk2_50 gl2_50 aw X50 rfl N50 Z50 F_last_li E_li F_keys_nd F_levels_nd F_size_nd R_lr hI_51
    · refine Go.step (fun t k => XS.icmpYes Xc.here hx rfl (pc0 := 274) (pc' := 294) rfl (hb hby at_274) rfl (feq hc274_49).2 (by decide) (by decide) k) ?_
      show Go _ _ _ _ _ _ _ (Tc.setTop (own_f3 m 294 av bv cv fl kb kc 1 1 0 li qa qb qc 1 (fl &&& (3 : Int32)) ((fl >>> ((4 : Int32) &&& 31)) &&& (3 : Int32)) []))
      refine Go.step (fun t k => XS.iload Xc.here hx rfl (hb hby at_294) rfl (XS.iconst Xc.here hx rfl (hb hby at_296) k)) ?_
      show Go _ _ _ _ _ _ _ (Tc.setTop (own_f3 m 297 av bv cv fl kb kc 1 1 0 li qa qb qc 1 (fl &&& (3 : Int32)) ((fl >>> ((4 : Int32) &&& 31)) &&& (3 : Int32)) [(.int (2 : Int32)), (.int ((fl >>> ((4 : Int32) &&& 31)) &&& (3 : Int32)))]))
      by_cases hc297_52 : ((fl >>> ((4 : Int32) &&& 31)) &&& (3 : Int32)) = (2 : Int32)
      · refine Go.step (fun t k => XS.icmpNo Xc.here hx rfl (hb hby at_297) rfl (teq hc297_52).2 k) ?_
        show Go _ _ _ _ _ _ _ (Tc.setTop (own_f3 m 300 av bv cv fl kb kc 1 1 0 li qa qb qc 1 (fl &&& (3 : Int32)) ((fl >>> ((4 : Int32) &&& 31)) &&& (3 : Int32)) []))
        refine Go.step (fun t k => XS.iload Xc.here hx rfl (hb hby at_300) rfl k) ?_
        show Go _ _ _ _ _ _ _ (Tc.setTop (own_f3 m 302 av bv cv fl kb kc 1 1 0 li qa qb qc 1 (fl &&& (3 : Int32)) ((fl >>> ((4 : Int32) &&& 31)) &&& (3 : Int32)) [(.int (1 : Int32))]))
        refine Go.step (fun t k => XS.ifNo Xc.here hx rfl (hb hby at_302) rfl ((if0 _ _).trans (feq (by decide : ¬ (1 : Int32) = (0 : Int32))).1) k) ?_
        show Go _ _ _ _ _ _ _ (Tc.setTop (own_f3 m 305 av bv cv fl kb kc 1 1 0 li qa qb qc 1 (fl &&& (3 : Int32)) ((fl >>> ((4 : Int32) &&& 31)) &&& (3 : Int32)) []))
        refine Go.step (fun t k => XS.aload Xc.here hx rfl (hb hby at_305) rfl rfl (XS.lload Xc.here hx rfl (hb hby at_307) rfl k)) ?_
        show Go _ _ _ _ _ _ _ (Tc.setTop (own_f3 m 309 av bv cv fl kb kc 1 1 0 li qa qb qc 1 (fl &&& (3 : Int32)) ((fl >>> ((4 : Int32) &&& 31)) &&& (3 : Int32)) [(.long kb), (.ref li)]))
        obtain ⟨cq53, kq53, q53a, q53b, q53c⟩ := isOf hZ ec E_li
        obtain ⟨_, _, ⟨T53, L53, k53, n53⟩, -, X53, ⟨Lc53, hQ53, l53, y53, z53⟩, st53⟩ := Xc.virtualBack hx (y := (⟨"com/example/matchstone/matchstone/LevelIndex", "remove", "(J)V"⟩ : MethodName)) (z := (⟨"com/example/matchstone/matchstone/LevelIndex", "remove", "(J)V"⟩ : MethodName)) hown (mvT hZ (hw _ (List.mem_of_getElem? (i := 93) rfl))) (mvT hZ (hw _ (List.mem_of_getElem? (i := 94) rfl))) (notFace_of_selects (args := #[]) (mvT hZ (hw _ (List.mem_of_getElem? (i := 96) rfl)))) (mvT hZ (hw _ (List.mem_of_getElem? (i := 96) rfl))) (mvT hZ (hw _ (List.mem_of_getElem? (i := 95) rfl))) (by decide) (backOf (W := 0) (rm15 l Z a0 hw [] li kb nd kr lr gk gl (2 : Int32) 1 aw hc n0 Zc F_root_li F_last_li F_ahead_li E_li g_li F_keys_nd F_levels_nd F_children_nd F_size_nd F_next_nd F_previous_nd E_nd A_kr R_lr g_nd g_kr g_lr ne_kr_lr (by decide) (by decide) (by decide) (own_I.srt hI) (own_I.inB hI)) hZ (hw _ (List.mem_of_getElem? (i := 97) rfl)) (hw _ (List.mem_of_getElem? (i := 2) rfl)) (by decide) (by decide)) q53a q53c (g := (own_f3 m 309 av bv cv fl kb kc 1 1 0 li qa qb qc 1 (fl &&& (3 : Int32)) ((fl >>> ((4 : Int32) &&& 31)) &&& (3 : Int32)) [(.long kb), (.ref li)])) rfl (by rw [hml]; rfl) (Steps.refl _) (argsL := [(.long kb)]) (rest := []) (lenOf pd_0_2 rfl) rfl (by show 2 * 0 + _ ≤ _; exact Nat.le_of_eq rfl) (hb hby at_309) (fun _ _ => ⟨rfl, ec, (by decide : 7 + 0 ≤ _), (by decide : 164 + 0 ≤ _)⟩)
        dsimp only [Pt.U, Pt.locs, Pt.cells, Pt.slots] at X53 l53 y53 z53 st53 hQ53
        subst l53 y53 z53
        obtain ⟨im_53, gk2_53, gl2_53, rfl, N53q, K53q, o53_him, o53_hgi, o53_hgk, o53_hgl, o53_F_root_li, o53_F_last_li, o53_F_ahead_li, o53_E_li, o53_F_keys_nd, o53_F_levels_nd, o53_F_children_nd, o53_F_size_nd, o53_F_next_nd, o53_F_previous_nd, o53_E_nd, o53_A_kr, o53_R_lr⟩ := hQ53
        have N53 := Fr.app Nc N53q
        replace E_li := E_li.keep K53q
        replace E_nd := E_nd.keep K53q
        have Z53 := Nat.le_trans Zc K53q.1
        have F_root_li := o53_F_root_li
        have F_last_li := o53_F_last_li
        have F_ahead_li := o53_F_ahead_li
        have E_li := o53_E_li
        have F_keys_nd := o53_F_keys_nd
        have F_levels_nd := o53_F_levels_nd
        have F_children_nd := o53_F_children_nd
        have F_size_nd := o53_F_size_nd
        have F_next_nd := o53_F_next_nd
        have F_previous_nd := o53_F_previous_nd
        have E_nd := o53_E_nd
        have A_kr := o53_A_kr
        have R_lr := o53_R_lr
        refine Go.step (fun t k => st53.trans k) ?_
        show Go _ _ _ _ _ _ _ (T53.setTop (own_f3 m 312 av bv cv fl kb kc 1 1 0 li qa qb qc 1 (fl &&& (3 : Int32)) ((fl >>> ((4 : Int32) &&& 31)) &&& (3 : Int32)) []))
        have hI_54 : own_I 1 gk2_53 gl2_53 true false false av kb kc qa qb qc := by rw [o53_hgk, o53_hgl]; exact own_I.remB (n := 1) hI o53_him o53_hgi
        refine Go.step (fun t k => XS.iconst X53.here hx rfl (hb hby at_312) (XS.istore X53.here hx rfl (hb hby at_313) rfl (l' := #[.val (.long av), .second, .val (.long bv), .second, .val (.long cv), .second, .val (.int fl), .val (.long kb), .second, .val (.long kc), .second, .val (.int (1 : Int32)), .val (.int (0 : Int32)), .val (.int (0 : Int32)), .val (.ref li), .val (.ref qa), .val (.ref qb), .val (.ref qc), .val (.int (1 : Int32)), .val (.int (fl &&& (3 : Int32))), .val (.int ((fl >>> ((4 : Int32) &&& 31)) &&& (3 : Int32))), .unset]) rfl k)) ?_
        show Go _ _ _ _ _ _ _ (T53.setTop (own_f3 m 315 av bv cv fl kb kc 1 0 0 li qa qb qc 1 (fl &&& (3 : Int32)) ((fl >>> ((4 : Int32) &&& 31)) &&& (3 : Int32)) []))
        refine Go.step (fun t k => XS.goto X53.here hx rfl (pc0 := 315) (pc' := 339) rfl (hb hby at_315) (by decide) (by decide) k) ?_
        show Go _ _ _ _ _ _ _ (T53.setTop (own_f3 m 339 av bv cv fl kb kc 1 0 0 li qa qb qc 1 (fl &&& (3 : Int32)) ((fl >>> ((4 : Int32) &&& 31)) &&& (3 : Int32)) []))
        exact L339_100 _ _ _ kb kc li qa qb qc nd kr lr gk2_53 gl2_53 aw X53 rfl N53 Z53 F_last_li E_li F_keys_nd F_levels_nd F_size_nd R_lr hI_54
      · refine Go.step (fun t k => XS.icmpYes Xc.here hx rfl (pc0 := 297) (pc' := 318) rfl (hb hby at_297) rfl (feq hc297_52).2 (by decide) (by decide) k) ?_
        show Go _ _ _ _ _ _ _ (Tc.setTop (own_f3 m 318 av bv cv fl kb kc 1 1 0 li qa qb qc 1 (fl &&& (3 : Int32)) ((fl >>> ((4 : Int32) &&& 31)) &&& (3 : Int32)) []))
        refine Go.step (fun t k => XS.iload Xc.here hx rfl (hb hby at_318) rfl (XS.iconst Xc.here hx rfl (hb hby at_320) k)) ?_
        show Go _ _ _ _ _ _ _ (Tc.setTop (own_f3 m 321 av bv cv fl kb kc 1 1 0 li qa qb qc 1 (fl &&& (3 : Int32)) ((fl >>> ((4 : Int32) &&& 31)) &&& (3 : Int32)) [(.int (3 : Int32)), (.int ((fl >>> ((4 : Int32) &&& 31)) &&& (3 : Int32)))]))
        by_cases hc321_55 : ((fl >>> ((4 : Int32) &&& 31)) &&& (3 : Int32)) = (3 : Int32)
        · refine Go.step (fun t k => XS.icmpNo Xc.here hx rfl (hb hby at_321) rfl (teq hc321_55).2 k) ?_
          show Go _ _ _ _ _ _ _ (Tc.setTop (own_f3 m 324 av bv cv fl kb kc 1 1 0 li qa qb qc 1 (fl &&& (3 : Int32)) ((fl >>> ((4 : Int32) &&& 31)) &&& (3 : Int32)) []))
          refine Go.step (fun t k => XS.iload Xc.here hx rfl (hb hby at_324) rfl k) ?_
          show Go _ _ _ _ _ _ _ (Tc.setTop (own_f3 m 326 av bv cv fl kb kc 1 1 0 li qa qb qc 1 (fl &&& (3 : Int32)) ((fl >>> ((4 : Int32) &&& 31)) &&& (3 : Int32)) [(.int (0 : Int32))]))
          refine Go.step (fun t k => XS.ifYes Xc.here hx rfl (pc0 := 326) (pc' := 339) rfl (hb hby at_326) rfl ((if0 _ _).trans (teq (by decide : (0 : Int32) = (0 : Int32))).1) (by decide) (by decide) k) ?_
          show Go _ _ _ _ _ _ _ (Tc.setTop (own_f3 m 339 av bv cv fl kb kc 1 1 0 li qa qb qc 1 (fl &&& (3 : Int32)) ((fl >>> ((4 : Int32) &&& 31)) &&& (3 : Int32)) []))
          exact L339_110 _ _ _ kb kc li qa qb qc nd kr lr gk gl aw Xc ec Nc Zc F_last_li E_li F_keys_nd F_levels_nd F_size_nd R_lr hI
        · refine Go.step (fun t k => XS.icmpYes Xc.here hx rfl (pc0 := 321) (pc' := 339) rfl (hb hby at_321) rfl (feq hc321_55).2 (by decide) (by decide) k) ?_
          show Go _ _ _ _ _ _ _ (Tc.setTop (own_f3 m 339 av bv cv fl kb kc 1 1 0 li qa qb qc 1 (fl &&& (3 : Int32)) ((fl >>> ((4 : Int32) &&& 31)) &&& (3 : Int32)) []))
          exact L339_110 _ _ _ kb kc li qa qb qc nd kr lr gk gl aw Xc ec Nc Zc F_last_li E_li F_keys_nd F_levels_nd F_size_nd R_lr hI
  have L263_111 : ∀ (Tc : State) (hc : Heap) (lc : List Loc) (kb : Int64) (kc : Int64) (li : Addr) (qa : Addr) (qb : Addr) (qc : Addr) (nd : Addr) (kr : Addr) (lr : Addr) (gk : Nat → Int64) (gl : Nat → Value) (aw : Value), (Stand p l e room_1 s m #[(.long av), (.long bv), (.long cv), (.int fl)] below meth c Tc lc 7 164) → (Tc.heap = hc) → (Fr n0 lc) → (n0 ≤ hc.size) → (Fld Z hc li "com/example/matchstone/matchstone/LevelIndex" "root" "Lcom/example/matchstone/matchstone/LevelIndex$Node;" (.ref nd)) → (Fld Z hc li "com/example/matchstone/matchstone/LevelIndex" "last" "Lcom/example/matchstone/matchstone/LevelIndex$Node;" (.ref nd)) → (Fld Z hc li "com/example/matchstone/matchstone/LevelIndex" "ahead" "Lcom/example/matchstone/matchstone/PriceLevel;" aw) → (Exa Z hc li "com/example/matchstone/matchstone/LevelIndex") → (n0 ≤ li) → (Fld Z hc nd "com/example/matchstone/matchstone/LevelIndex$Node" "keys" "[J" (.ref kr)) → (Fld Z hc nd "com/example/matchstone/matchstone/LevelIndex$Node" "levels" "[Lcom/example/matchstone/matchstone/PriceLevel;" (.ref lr)) → (Fld Z hc nd "com/example/matchstone/matchstone/LevelIndex$Node" "children" "[Lcom/example/matchstone/matchstone/LevelIndex$Node;" .null) → (Fld Z hc nd "com/example/matchstone/matchstone/LevelIndex$Node" "size" "I" (.int (3 : Int32))) → (Fld Z hc nd "com/example/matchstone/matchstone/LevelIndex$Node" "next" "Lcom/example/matchstone/matchstone/LevelIndex$Node;" .null) → (Fld Z hc nd "com/example/matchstone/matchstone/LevelIndex$Node" "previous" "Lcom/example/matchstone/matchstone/LevelIndex$Node;" .null) → (Exa Z hc nd "com/example/matchstone/matchstone/LevelIndex$Node") → (AryJ Z hc kr 65 gk) → (RAr Z hc lr "com/example/matchstone/matchstone/PriceLevel" 65 gl) → (n0 ≤ nd) → (n0 ≤ kr) → (n0 ≤ lr) → (kr ≠ lr) → (own_I 3 gk gl true true true av kb kc qa qb qc) → Go p e below s (Q0 Z av bv cv fl h0 n0) 32 704 (Tc.setTop (own_f2 m 263 av bv cv fl kb kc 1 1 1 li qa qb qc 1 (fl &&& (3 : Int32)) [])) := by
    intro Tc hc lc kb kc li qa qb qc nd kr lr gk gl aw Xc ec Nc Zc F_root_li F_last_li F_ahead_li E_li g_li F_keys_nd F_levels_nd F_children_nd F_size_nd F_next_nd F_previous_nd E_nd A_kr R_lr g_nd g_kr g_lr ne_kr_lr hI
    show Go _ _ _ _ _ _ _ (Tc.setTop (own_f2 m 263 av bv cv fl kb kc 1 1 1 li qa qb qc 1 (fl &&& (3 : Int32)) []))
    refine Go.step (fun t k => XS.iload Xc.here hx rfl (hb hby at_263) rfl (XS.iconst Xc.here hx rfl (hb hby at_265) (XS.ishr Xc.here hx rfl (hb hby at_266) rfl (XS.iconst Xc.here hx rfl (hb hby at_267) (XS.iand Xc.here hx rfl (hb hby at_268) rfl (XS.istore Xc.here hx rfl (hb hby at_269) rfl (l' := #[.val (.long av), .second, .val (.long bv), .second, .val (.long cv), .second, .val (.int fl), .val (.long kb), .second, .val (.long kc), .second, .val (.int (1 : Int32)), .val (.int (1 : Int32)), .val (.int (1 : Int32)), .val (.ref li), .val (.ref qa), .val (.ref qb), .val (.ref qc), .val (.int (1 : Int32)), .val (.int (fl &&& (3 : Int32))), .val (.int ((fl >>> ((4 : Int32) &&& 31)) &&& (3 : Int32))), .unset]) rfl (XS.iload Xc.here hx rfl (hb hby at_271) rfl (XS.iconst Xc.here hx rfl (hb hby at_273) k)))))))) ?_
    show Go _ _ _ _ _ _ _ (Tc.setTop (own_f3 m 274 av bv cv fl kb kc 1 1 1 li qa qb qc 1 (fl &&& (3 : Int32)) ((fl >>> ((4 : Int32) &&& 31)) &&& (3 : Int32)) [(.int (1 : Int32)), (.int ((fl >>> ((4 : Int32) &&& 31)) &&& (3 : Int32)))]))
    by_cases hc274_56 : ((fl >>> ((4 : Int32) &&& 31)) &&& (3 : Int32)) = (1 : Int32)
    · refine Go.step (fun t k => XS.icmpNo Xc.here hx rfl (hb hby at_274) rfl (teq hc274_56).2 k) ?_
      show Go _ _ _ _ _ _ _ (Tc.setTop (own_f3 m 277 av bv cv fl kb kc 1 1 1 li qa qb qc 1 (fl &&& (3 : Int32)) ((fl >>> ((4 : Int32) &&& 31)) &&& (3 : Int32)) []))
      refine Go.step (fun t k => XS.iload Xc.here hx rfl (hb hby at_277) rfl k) ?_
      show Go _ _ _ _ _ _ _ (Tc.setTop (own_f3 m 279 av bv cv fl kb kc 1 1 1 li qa qb qc 1 (fl &&& (3 : Int32)) ((fl >>> ((4 : Int32) &&& 31)) &&& (3 : Int32)) [(.int (1 : Int32))]))
      refine Go.step (fun t k => XS.ifNo Xc.here hx rfl (hb hby at_279) rfl ((if0 _ _).trans (feq (by decide : ¬ (1 : Int32) = (0 : Int32))).1) k) ?_
      show Go _ _ _ _ _ _ _ (Tc.setTop (own_f3 m 282 av bv cv fl kb kc 1 1 1 li qa qb qc 1 (fl &&& (3 : Int32)) ((fl >>> ((4 : Int32) &&& 31)) &&& (3 : Int32)) []))
      refine Go.step (fun t k => XS.aload Xc.here hx rfl (hb hby at_282) rfl rfl (XS.lloadN Xc.here hx rfl (hb hby at_284) rfl k)) ?_
      show Go _ _ _ _ _ _ _ (Tc.setTop (own_f3 m 285 av bv cv fl kb kc 1 1 1 li qa qb qc 1 (fl &&& (3 : Int32)) ((fl >>> ((4 : Int32) &&& 31)) &&& (3 : Int32)) [(.long av), (.ref li)]))
      obtain ⟨cq57, kq57, q57a, q57b, q57c⟩ := isOf hZ ec E_li
      obtain ⟨_, _, ⟨T57, L57, k57, n57⟩, -, X57, ⟨Lc57, hQ57, l57, y57, z57⟩, st57⟩ := Xc.virtualBack hx (y := (⟨"com/example/matchstone/matchstone/LevelIndex", "remove", "(J)V"⟩ : MethodName)) (z := (⟨"com/example/matchstone/matchstone/LevelIndex", "remove", "(J)V"⟩ : MethodName)) hown (mvT hZ (hw _ (List.mem_of_getElem? (i := 93) rfl))) (mvT hZ (hw _ (List.mem_of_getElem? (i := 94) rfl))) (notFace_of_selects (args := #[]) (mvT hZ (hw _ (List.mem_of_getElem? (i := 96) rfl)))) (mvT hZ (hw _ (List.mem_of_getElem? (i := 96) rfl))) (mvT hZ (hw _ (List.mem_of_getElem? (i := 95) rfl))) (by decide) (backOf (W := 0) (rm15 l Z a0 hw [] li av nd kr lr gk gl (3 : Int32) 2 aw hc n0 Zc F_root_li F_last_li F_ahead_li E_li g_li F_keys_nd F_levels_nd F_children_nd F_size_nd F_next_nd F_previous_nd E_nd A_kr R_lr g_nd g_kr g_lr ne_kr_lr (by decide) (by decide) (by decide) (own_I.srt hI) (own_I.inA hI)) hZ (hw _ (List.mem_of_getElem? (i := 97) rfl)) (hw _ (List.mem_of_getElem? (i := 2) rfl)) (by decide) (by decide)) q57a q57c (g := (own_f3 m 285 av bv cv fl kb kc 1 1 1 li qa qb qc 1 (fl &&& (3 : Int32)) ((fl >>> ((4 : Int32) &&& 31)) &&& (3 : Int32)) [(.long av), (.ref li)])) rfl (by rw [hml]; rfl) (Steps.refl _) (argsL := [(.long av)]) (rest := []) (lenOf pd_0_2 rfl) rfl (by show 2 * 0 + _ ≤ _; exact Nat.le_of_eq rfl) (hb hby at_285) (fun _ _ => ⟨rfl, ec, (by decide : 7 + 0 ≤ _), (by decide : 164 + 0 ≤ _)⟩)
      dsimp only [Pt.U, Pt.locs, Pt.cells, Pt.slots] at X57 l57 y57 z57 st57 hQ57
      subst l57 y57 z57
      obtain ⟨im_57, gk2_57, gl2_57, rfl, N57q, K57q, o57_him, o57_hgi, o57_hgk, o57_hgl, o57_F_root_li, o57_F_last_li, o57_F_ahead_li, o57_E_li, o57_F_keys_nd, o57_F_levels_nd, o57_F_children_nd, o57_F_size_nd, o57_F_next_nd, o57_F_previous_nd, o57_E_nd, o57_A_kr, o57_R_lr⟩ := hQ57
      have N57 := Fr.app Nc N57q
      replace E_li := E_li.keep K57q
      replace E_nd := E_nd.keep K57q
      have Z57 := Nat.le_trans Zc K57q.1
      have F_root_li := o57_F_root_li
      have F_last_li := o57_F_last_li
      have F_ahead_li := o57_F_ahead_li
      have E_li := o57_E_li
      have F_keys_nd := o57_F_keys_nd
      have F_levels_nd := o57_F_levels_nd
      have F_children_nd := o57_F_children_nd
      have F_size_nd := o57_F_size_nd
      have F_next_nd := o57_F_next_nd
      have F_previous_nd := o57_F_previous_nd
      have E_nd := o57_E_nd
      have A_kr := o57_A_kr
      have R_lr := o57_R_lr
      refine Go.step (fun t k => st57.trans k) ?_
      show Go _ _ _ _ _ _ _ (T57.setTop (own_f3 m 288 av bv cv fl kb kc 1 1 1 li qa qb qc 1 (fl &&& (3 : Int32)) ((fl >>> ((4 : Int32) &&& 31)) &&& (3 : Int32)) []))
      have hI_58 : own_I 2 gk2_57 gl2_57 false true true av kb kc qa qb qc := by rw [o57_hgk, o57_hgl]; exact own_I.remA (n := 2) hI o57_him o57_hgi
      refine Go.step (fun t k => XS.iconst X57.here hx rfl (hb hby at_288) (XS.istore X57.here hx rfl (hb hby at_289) rfl (l' := #[.val (.long av), .second, .val (.long bv), .second, .val (.long cv), .second, .val (.int fl), .val (.long kb), .second, .val (.long kc), .second, .val (.int (0 : Int32)), .val (.int (1 : Int32)), .val (.int (1 : Int32)), .val (.ref li), .val (.ref qa), .val (.ref qb), .val (.ref qc), .val (.int (1 : Int32)), .val (.int (fl &&& (3 : Int32))), .val (.int ((fl >>> ((4 : Int32) &&& 31)) &&& (3 : Int32))), .unset]) rfl k)) ?_
      show Go _ _ _ _ _ _ _ (T57.setTop (own_f3 m 291 av bv cv fl kb kc 0 1 1 li qa qb qc 1 (fl &&& (3 : Int32)) ((fl >>> ((4 : Int32) &&& 31)) &&& (3 : Int32)) []))
      refine Go.step (fun t k => XS.goto X57.here hx rfl (pc0 := 291) (pc' := 339) rfl (hb hby at_291) (by decide) (by decide) k) ?_
      show Go _ _ _ _ _ _ _ (T57.setTop (own_f3 m 339 av bv cv fl kb kc 0 1 1 li qa qb qc 1 (fl &&& (3 : Int32)) ((fl >>> ((4 : Int32) &&& 31)) &&& (3 : Int32)) []))
      exact L339_011 _ _ _ kb kc li qa qb qc nd kr lr gk2_57 gl2_57 aw X57 rfl N57 Z57 F_last_li E_li F_keys_nd F_levels_nd F_size_nd R_lr hI_58
    · refine Go.step (fun t k => XS.icmpYes Xc.here hx rfl (pc0 := 274) (pc' := 294) rfl (hb hby at_274) rfl (feq hc274_56).2 (by decide) (by decide) k) ?_
      show Go _ _ _ _ _ _ _ (Tc.setTop (own_f3 m 294 av bv cv fl kb kc 1 1 1 li qa qb qc 1 (fl &&& (3 : Int32)) ((fl >>> ((4 : Int32) &&& 31)) &&& (3 : Int32)) []))
      refine Go.step (fun t k => XS.iload Xc.here hx rfl (hb hby at_294) rfl (XS.iconst Xc.here hx rfl (hb hby at_296) k)) ?_
      show Go _ _ _ _ _ _ _ (Tc.setTop (own_f3 m 297 av bv cv fl kb kc 1 1 1 li qa qb qc 1 (fl &&& (3 : Int32)) ((fl >>> ((4 : Int32) &&& 31)) &&& (3 : Int32)) [(.int (2 : Int32)), (.int ((fl >>> ((4 : Int32) &&& 31)) &&& (3 : Int32)))]))
      by_cases hc297_59 : ((fl >>> ((4 : Int32) &&& 31)) &&& (3 : Int32)) = (2 : Int32)
      · refine Go.step (fun t k => XS.icmpNo Xc.here hx rfl (hb hby at_297) rfl (teq hc297_59).2 k) ?_
        show Go _ _ _ _ _ _ _ (Tc.setTop (own_f3 m 300 av bv cv fl kb kc 1 1 1 li qa qb qc 1 (fl &&& (3 : Int32)) ((fl >>> ((4 : Int32) &&& 31)) &&& (3 : Int32)) []))
        refine Go.step (fun t k => XS.iload Xc.here hx rfl (hb hby at_300) rfl k) ?_
        show Go _ _ _ _ _ _ _ (Tc.setTop (own_f3 m 302 av bv cv fl kb kc 1 1 1 li qa qb qc 1 (fl &&& (3 : Int32)) ((fl >>> ((4 : Int32) &&& 31)) &&& (3 : Int32)) [(.int (1 : Int32))]))
        refine Go.step (fun t k => XS.ifNo Xc.here hx rfl (hb hby at_302) rfl ((if0 _ _).trans (feq (by decide : ¬ (1 : Int32) = (0 : Int32))).1) k) ?_
        show Go _ _ _ _ _ _ _ (Tc.setTop (own_f3 m 305 av bv cv fl kb kc 1 1 1 li qa qb qc 1 (fl &&& (3 : Int32)) ((fl >>> ((4 : Int32) &&& 31)) &&& (3 : Int32)) []))
        refine Go.step (fun t k => XS.aload Xc.here hx rfl (hb hby at_305) rfl rfl (XS.lload Xc.here hx rfl (hb hby at_307) rfl k)) ?_
        show Go _ _ _ _ _ _ _ (Tc.setTop (own_f3 m 309 av bv cv fl kb kc 1 1 1 li qa qb qc 1 (fl &&& (3 : Int32)) ((fl >>> ((4 : Int32) &&& 31)) &&& (3 : Int32)) [(.long kb), (.ref li)]))
        obtain ⟨cq60, kq60, q60a, q60b, q60c⟩ := isOf hZ ec E_li
        obtain ⟨_, _, ⟨T60, L60, k60, n60⟩, -, X60, ⟨Lc60, hQ60, l60, y60, z60⟩, st60⟩ := Xc.virtualBack hx (y := (⟨"com/example/matchstone/matchstone/LevelIndex", "remove", "(J)V"⟩ : MethodName)) (z := (⟨"com/example/matchstone/matchstone/LevelIndex", "remove", "(J)V"⟩ : MethodName)) hown (mvT hZ (hw _ (List.mem_of_getElem? (i := 93) rfl))) (mvT hZ (hw _ (List.mem_of_getElem? (i := 94) rfl))) (notFace_of_selects (args := #[]) (mvT hZ (hw _ (List.mem_of_getElem? (i := 96) rfl)))) (mvT hZ (hw _ (List.mem_of_getElem? (i := 96) rfl))) (mvT hZ (hw _ (List.mem_of_getElem? (i := 95) rfl))) (by decide) (backOf (W := 0) (rm15 l Z a0 hw [] li kb nd kr lr gk gl (3 : Int32) 2 aw hc n0 Zc F_root_li F_last_li F_ahead_li E_li g_li F_keys_nd F_levels_nd F_children_nd F_size_nd F_next_nd F_previous_nd E_nd A_kr R_lr g_nd g_kr g_lr ne_kr_lr (by decide) (by decide) (by decide) (own_I.srt hI) (own_I.inB hI)) hZ (hw _ (List.mem_of_getElem? (i := 97) rfl)) (hw _ (List.mem_of_getElem? (i := 2) rfl)) (by decide) (by decide)) q60a q60c (g := (own_f3 m 309 av bv cv fl kb kc 1 1 1 li qa qb qc 1 (fl &&& (3 : Int32)) ((fl >>> ((4 : Int32) &&& 31)) &&& (3 : Int32)) [(.long kb), (.ref li)])) rfl (by rw [hml]; rfl) (Steps.refl _) (argsL := [(.long kb)]) (rest := []) (lenOf pd_0_2 rfl) rfl (by show 2 * 0 + _ ≤ _; exact Nat.le_of_eq rfl) (hb hby at_309) (fun _ _ => ⟨rfl, ec, (by decide : 7 + 0 ≤ _), (by decide : 164 + 0 ≤ _)⟩)
        dsimp only [Pt.U, Pt.locs, Pt.cells, Pt.slots] at X60 l60 y60 z60 st60 hQ60
        subst l60 y60 z60
        obtain ⟨im_60, gk2_60, gl2_60, rfl, N60q, K60q, o60_him, o60_hgi, o60_hgk, o60_hgl, o60_F_root_li, o60_F_last_li, o60_F_ahead_li, o60_E_li, o60_F_keys_nd, o60_F_levels_nd, o60_F_children_nd, o60_F_size_nd, o60_F_next_nd, o60_F_previous_nd, o60_E_nd, o60_A_kr, o60_R_lr⟩ := hQ60
        have N60 := Fr.app Nc N60q
        replace E_li := E_li.keep K60q
        replace E_nd := E_nd.keep K60q
        have Z60 := Nat.le_trans Zc K60q.1
        have F_root_li := o60_F_root_li
        have F_last_li := o60_F_last_li
        have F_ahead_li := o60_F_ahead_li
        have E_li := o60_E_li
        have F_keys_nd := o60_F_keys_nd
        have F_levels_nd := o60_F_levels_nd
        have F_children_nd := o60_F_children_nd
        have F_size_nd := o60_F_size_nd
        have F_next_nd := o60_F_next_nd
        have F_previous_nd := o60_F_previous_nd
        have E_nd := o60_E_nd
        have A_kr := o60_A_kr
        have R_lr := o60_R_lr
        refine Go.step (fun t k => st60.trans k) ?_
        show Go _ _ _ _ _ _ _ (T60.setTop (own_f3 m 312 av bv cv fl kb kc 1 1 1 li qa qb qc 1 (fl &&& (3 : Int32)) ((fl >>> ((4 : Int32) &&& 31)) &&& (3 : Int32)) []))
        have hI_61 : own_I 2 gk2_60 gl2_60 true false true av kb kc qa qb qc := by rw [o60_hgk, o60_hgl]; exact own_I.remB (n := 2) hI o60_him o60_hgi
        refine Go.step (fun t k => XS.iconst X60.here hx rfl (hb hby at_312) (XS.istore X60.here hx rfl (hb hby at_313) rfl (l' := #[.val (.long av), .second, .val (.long bv), .second, .val (.long cv), .second, .val (.int fl), .val (.long kb), .second, .val (.long kc), .second, .val (.int (1 : Int32)), .val (.int (0 : Int32)), .val (.int (1 : Int32)), .val (.ref li), .val (.ref qa), .val (.ref qb), .val (.ref qc), .val (.int (1 : Int32)), .val (.int (fl &&& (3 : Int32))), .val (.int ((fl >>> ((4 : Int32) &&& 31)) &&& (3 : Int32))), .unset]) rfl k)) ?_
        show Go _ _ _ _ _ _ _ (T60.setTop (own_f3 m 315 av bv cv fl kb kc 1 0 1 li qa qb qc 1 (fl &&& (3 : Int32)) ((fl >>> ((4 : Int32) &&& 31)) &&& (3 : Int32)) []))
        refine Go.step (fun t k => XS.goto X60.here hx rfl (pc0 := 315) (pc' := 339) rfl (hb hby at_315) (by decide) (by decide) k) ?_
        show Go _ _ _ _ _ _ _ (T60.setTop (own_f3 m 339 av bv cv fl kb kc 1 0 1 li qa qb qc 1 (fl &&& (3 : Int32)) ((fl >>> ((4 : Int32) &&& 31)) &&& (3 : Int32)) []))
        exact L339_101 _ _ _ kb kc li qa qb qc nd kr lr gk2_60 gl2_60 aw X60 rfl N60 Z60 F_last_li E_li F_keys_nd F_levels_nd F_size_nd R_lr hI_61
      · refine Go.step (fun t k => XS.icmpYes Xc.here hx rfl (pc0 := 297) (pc' := 318) rfl (hb hby at_297) rfl (feq hc297_59).2 (by decide) (by decide) k) ?_
        show Go _ _ _ _ _ _ _ (Tc.setTop (own_f3 m 318 av bv cv fl kb kc 1 1 1 li qa qb qc 1 (fl &&& (3 : Int32)) ((fl >>> ((4 : Int32) &&& 31)) &&& (3 : Int32)) []))
        refine Go.step (fun t k => XS.iload Xc.here hx rfl (hb hby at_318) rfl (XS.iconst Xc.here hx rfl (hb hby at_320) k)) ?_
        show Go _ _ _ _ _ _ _ (Tc.setTop (own_f3 m 321 av bv cv fl kb kc 1 1 1 li qa qb qc 1 (fl &&& (3 : Int32)) ((fl >>> ((4 : Int32) &&& 31)) &&& (3 : Int32)) [(.int (3 : Int32)), (.int ((fl >>> ((4 : Int32) &&& 31)) &&& (3 : Int32)))]))
        by_cases hc321_62 : ((fl >>> ((4 : Int32) &&& 31)) &&& (3 : Int32)) = (3 : Int32)
        · refine Go.step (fun t k => XS.icmpNo Xc.here hx rfl (hb hby at_321) rfl (teq hc321_62).2 k) ?_
          show Go _ _ _ _ _ _ _ (Tc.setTop (own_f3 m 324 av bv cv fl kb kc 1 1 1 li qa qb qc 1 (fl &&& (3 : Int32)) ((fl >>> ((4 : Int32) &&& 31)) &&& (3 : Int32)) []))
          refine Go.step (fun t k => XS.iload Xc.here hx rfl (hb hby at_324) rfl k) ?_
          show Go _ _ _ _ _ _ _ (Tc.setTop (own_f3 m 326 av bv cv fl kb kc 1 1 1 li qa qb qc 1 (fl &&& (3 : Int32)) ((fl >>> ((4 : Int32) &&& 31)) &&& (3 : Int32)) [(.int (1 : Int32))]))
          refine Go.step (fun t k => XS.ifNo Xc.here hx rfl (hb hby at_326) rfl ((if0 _ _).trans (feq (by decide : ¬ (1 : Int32) = (0 : Int32))).1) k) ?_
          show Go _ _ _ _ _ _ _ (Tc.setTop (own_f3 m 329 av bv cv fl kb kc 1 1 1 li qa qb qc 1 (fl &&& (3 : Int32)) ((fl >>> ((4 : Int32) &&& 31)) &&& (3 : Int32)) []))
          refine Go.step (fun t k => XS.aload Xc.here hx rfl (hb hby at_329) rfl rfl (XS.lload Xc.here hx rfl (hb hby at_331) rfl k)) ?_
          show Go _ _ _ _ _ _ _ (Tc.setTop (own_f3 m 333 av bv cv fl kb kc 1 1 1 li qa qb qc 1 (fl &&& (3 : Int32)) ((fl >>> ((4 : Int32) &&& 31)) &&& (3 : Int32)) [(.long kc), (.ref li)]))
          obtain ⟨cq63, kq63, q63a, q63b, q63c⟩ := isOf hZ ec E_li
          obtain ⟨_, _, ⟨T63, L63, k63, n63⟩, -, X63, ⟨Lc63, hQ63, l63, y63, z63⟩, st63⟩ := Xc.virtualBack hx (y := (⟨"com/example/matchstone/matchstone/LevelIndex", "remove", "(J)V"⟩ : MethodName)) (z := (⟨"com/example/matchstone/matchstone/LevelIndex", "remove", "(J)V"⟩ : MethodName)) hown (mvT hZ (hw _ (List.mem_of_getElem? (i := 93) rfl))) (mvT hZ (hw _ (List.mem_of_getElem? (i := 94) rfl))) (notFace_of_selects (args := #[]) (mvT hZ (hw _ (List.mem_of_getElem? (i := 96) rfl)))) (mvT hZ (hw _ (List.mem_of_getElem? (i := 96) rfl))) (mvT hZ (hw _ (List.mem_of_getElem? (i := 95) rfl))) (by decide) (backOf (W := 0) (rm15 l Z a0 hw [] li kc nd kr lr gk gl (3 : Int32) 2 aw hc n0 Zc F_root_li F_last_li F_ahead_li E_li g_li F_keys_nd F_levels_nd F_children_nd F_size_nd F_next_nd F_previous_nd E_nd A_kr R_lr g_nd g_kr g_lr ne_kr_lr (by decide) (by decide) (by decide) (own_I.srt hI) (own_I.inC hI)) hZ (hw _ (List.mem_of_getElem? (i := 97) rfl)) (hw _ (List.mem_of_getElem? (i := 2) rfl)) (by decide) (by decide)) q63a q63c (g := (own_f3 m 333 av bv cv fl kb kc 1 1 1 li qa qb qc 1 (fl &&& (3 : Int32)) ((fl >>> ((4 : Int32) &&& 31)) &&& (3 : Int32)) [(.long kc), (.ref li)])) rfl (by rw [hml]; rfl) (Steps.refl _) (argsL := [(.long kc)]) (rest := []) (lenOf pd_0_2 rfl) rfl (by show 2 * 0 + _ ≤ _; exact Nat.le_of_eq rfl) (hb hby at_333) (fun _ _ => ⟨rfl, ec, (by decide : 7 + 0 ≤ _), (by decide : 164 + 0 ≤ _)⟩)
          dsimp only [Pt.U, Pt.locs, Pt.cells, Pt.slots] at X63 l63 y63 z63 st63 hQ63
          subst l63 y63 z63
          obtain ⟨im_63, gk2_63, gl2_63, rfl, N63q, K63q, o63_him, o63_hgi, o63_hgk, o63_hgl, o63_F_root_li, o63_F_last_li, o63_F_ahead_li, o63_E_li, o63_F_keys_nd, o63_F_levels_nd, o63_F_children_nd, o63_F_size_nd, o63_F_next_nd, o63_F_previous_nd, o63_E_nd, o63_A_kr, o63_R_lr⟩ := hQ63
          have N63 := Fr.app Nc N63q
          replace E_li := E_li.keep K63q
          replace E_nd := E_nd.keep K63q
          have Z63 := Nat.le_trans Zc K63q.1
          have F_root_li := o63_F_root_li
          have F_last_li := o63_F_last_li
          have F_ahead_li := o63_F_ahead_li
          have E_li := o63_E_li
          have F_keys_nd := o63_F_keys_nd
          have F_levels_nd := o63_F_levels_nd
          have F_children_nd := o63_F_children_nd
          have F_size_nd := o63_F_size_nd
          have F_next_nd := o63_F_next_nd
          have F_previous_nd := o63_F_previous_nd
          have E_nd := o63_E_nd
          have A_kr := o63_A_kr
          have R_lr := o63_R_lr
          refine Go.step (fun t k => st63.trans k) ?_
          show Go _ _ _ _ _ _ _ (T63.setTop (own_f3 m 336 av bv cv fl kb kc 1 1 1 li qa qb qc 1 (fl &&& (3 : Int32)) ((fl >>> ((4 : Int32) &&& 31)) &&& (3 : Int32)) []))
          have hI_64 : own_I 2 gk2_63 gl2_63 true true false av kb kc qa qb qc := by rw [o63_hgk, o63_hgl]; exact own_I.remC (n := 2) hI o63_him o63_hgi
          refine Go.step (fun t k => XS.iconst X63.here hx rfl (hb hby at_336) (XS.istore X63.here hx rfl (hb hby at_337) rfl (l' := #[.val (.long av), .second, .val (.long bv), .second, .val (.long cv), .second, .val (.int fl), .val (.long kb), .second, .val (.long kc), .second, .val (.int (1 : Int32)), .val (.int (1 : Int32)), .val (.int (0 : Int32)), .val (.ref li), .val (.ref qa), .val (.ref qb), .val (.ref qc), .val (.int (1 : Int32)), .val (.int (fl &&& (3 : Int32))), .val (.int ((fl >>> ((4 : Int32) &&& 31)) &&& (3 : Int32))), .unset]) rfl k)) ?_
          show Go _ _ _ _ _ _ _ (T63.setTop (own_f3 m 339 av bv cv fl kb kc 1 1 0 li qa qb qc 1 (fl &&& (3 : Int32)) ((fl >>> ((4 : Int32) &&& 31)) &&& (3 : Int32)) []))
          exact L339_110 _ _ _ kb kc li qa qb qc nd kr lr gk2_63 gl2_63 aw X63 rfl N63 Z63 F_last_li E_li F_keys_nd F_levels_nd F_size_nd R_lr hI_64
        · refine Go.step (fun t k => XS.icmpYes Xc.here hx rfl (pc0 := 321) (pc' := 339) rfl (hb hby at_321) rfl (feq hc321_62).2 (by decide) (by decide) k) ?_
          show Go _ _ _ _ _ _ _ (Tc.setTop (own_f3 m 339 av bv cv fl kb kc 1 1 1 li qa qb qc 1 (fl &&& (3 : Int32)) ((fl >>> ((4 : Int32) &&& 31)) &&& (3 : Int32)) []))
          exact L339_111 _ _ _ kb kc li qa qb qc nd kr lr gk gl aw Xc ec Nc Zc F_last_li E_li F_keys_nd F_levels_nd F_size_nd R_lr hI
  have L154_100 : ∀ (Tc : State) (hc : Heap) (lc : List Loc) (kb : Int64) (kc : Int64) (li : Addr) (qa : Addr) (qb : Addr) (qc : Addr) (nd : Addr) (kr : Addr) (lr : Addr) (gk : Nat → Int64) (gl : Nat → Value) (aw : Value), (Stand p l e room_1 s m #[(.long av), (.long bv), (.long cv), (.int fl)] below meth c Tc lc 7 164) → (Tc.heap = hc) → (Fr n0 lc) → (n0 ≤ hc.size) → (Fld Z hc li "com/example/matchstone/matchstone/LevelIndex" "root" "Lcom/example/matchstone/matchstone/LevelIndex$Node;" (.ref nd)) → (Fld Z hc li "com/example/matchstone/matchstone/LevelIndex" "last" "Lcom/example/matchstone/matchstone/LevelIndex$Node;" (.ref nd)) → (Fld Z hc li "com/example/matchstone/matchstone/LevelIndex" "ahead" "Lcom/example/matchstone/matchstone/PriceLevel;" aw) → (Exa Z hc li "com/example/matchstone/matchstone/LevelIndex") → (n0 ≤ li) → (Fld Z hc nd "com/example/matchstone/matchstone/LevelIndex$Node" "keys" "[J" (.ref kr)) → (Fld Z hc nd "com/example/matchstone/matchstone/LevelIndex$Node" "levels" "[Lcom/example/matchstone/matchstone/PriceLevel;" (.ref lr)) → (Fld Z hc nd "com/example/matchstone/matchstone/LevelIndex$Node" "children" "[Lcom/example/matchstone/matchstone/LevelIndex$Node;" .null) → (Fld Z hc nd "com/example/matchstone/matchstone/LevelIndex$Node" "size" "I" (.int (1 : Int32))) → (Fld Z hc nd "com/example/matchstone/matchstone/LevelIndex$Node" "next" "Lcom/example/matchstone/matchstone/LevelIndex$Node;" .null) → (Fld Z hc nd "com/example/matchstone/matchstone/LevelIndex$Node" "previous" "Lcom/example/matchstone/matchstone/LevelIndex$Node;" .null) → (Exa Z hc nd "com/example/matchstone/matchstone/LevelIndex$Node") → (AryJ Z hc kr 65 gk) → (RAr Z hc lr "com/example/matchstone/matchstone/PriceLevel" 65 gl) → (n0 ≤ nd) → (n0 ≤ kr) → (n0 ≤ lr) → (kr ≠ lr) → (own_I 1 gk gl true false false av kb kc qa qb qc) → Go p e below s (Q0 Z av bv cv fl h0 n0) 32 704 (Tc.setTop (own_f0 m 154 av bv cv fl kb kc 1 0 0 li qa qb qc [])) := by
    intro Tc hc lc kb kc li qa qb qc nd kr lr gk gl aw Xc ec Nc Zc F_root_li F_last_li F_ahead_li E_li g_li F_keys_nd F_levels_nd F_children_nd F_size_nd F_next_nd F_previous_nd E_nd A_kr R_lr g_nd g_kr g_lr ne_kr_lr hI
    show Go _ _ _ _ _ _ _ (Tc.setTop (own_f0 m 154 av bv cv fl kb kc 1 0 0 li qa qb qc []))
    refine Go.step (fun t k => XS.aload Xc.here hx rfl (hb hby at_154) rfl rfl k) ?_
    show Go _ _ _ _ _ _ _ (Tc.setTop (own_f0 m 156 av bv cv fl kb kc 1 0 0 li qa qb qc [(.ref li)]))
    obtain ⟨cq65, kq65, q65a, q65b, q65c⟩ := isOf hZ ec E_li
    obtain ⟨_, _, ⟨T65, L65, k65, n65⟩, -, X65, ⟨Lc65, hQ65, l65, y65, z65⟩, st65⟩ := Xc.virtualBack hx (y := (⟨"com/example/matchstone/matchstone/LevelIndex", "best", "()Lcom/example/matchstone/matchstone/PriceLevel;"⟩ : MethodName)) (z := (⟨"com/example/matchstone/matchstone/LevelIndex", "best", "()Lcom/example/matchstone/matchstone/PriceLevel;"⟩ : MethodName)) hown (mvT hZ (hw _ (List.mem_of_getElem? (i := 84) rfl))) (mvT hZ (hw _ (List.mem_of_getElem? (i := 85) rfl))) (notFace_of_selects (args := #[]) (mvT hZ (hw _ (List.mem_of_getElem? (i := 87) rfl)))) (mvT hZ (hw _ (List.mem_of_getElem? (i := 87) rfl))) (mvT hZ (hw _ (List.mem_of_getElem? (i := 86) rfl))) (by decide) (backOf (W := 0) (rm13 l Z a0 hw [] li nd lr gl (1 : Int32) 0 hc n0 Zc F_last_li F_levels_nd F_size_nd R_lr (by decide) (by decide)) hZ (hw _ (List.mem_of_getElem? (i := 88) rfl)) (hw _ (List.mem_of_getElem? (i := 2) rfl)) (by decide) (by decide)) q65a q65c (g := (own_f0 m 156 av bv cv fl kb kc 1 0 0 li qa qb qc [(.ref li)])) rfl (by rw [hml]; rfl) (Steps.refl _) (argsL := []) (rest := []) (lenOf pd_0_0 rfl) rfl (by show 2 * 0 + _ ≤ _; exact Nat.le_of_eq rfl) (hb hby at_156) (fun _ _ => ⟨rfl, ec, (by decide : 7 + 0 ≤ _), (by decide : 164 + 0 ≤ _)⟩)
    dsimp only [Pt.U, Pt.locs, Pt.cells, Pt.slots] at X65 l65 y65 z65 st65 hQ65
    subst l65 y65 z65
    obtain ⟨rfl, N65q, K65q⟩ := hQ65
    have N65 := Fr.app Nc N65q
    refine Go.step (fun t k => st65.trans k) ?_
    show Go _ _ _ _ _ _ _ (T65.setTop (own_f0 m 159 av bv cv fl kb kc 1 0 0 li qa qb qc [(gl 0)]))
    refine Go.step (fun t k => XS.iload X65.here hx rfl (hb hby at_159) rfl (XS.lloadN X65.here hx rfl (hb hby at_161) rfl (XS.aload X65.here hx rfl (hb hby at_162) rfl rfl (XS.iload X65.here hx rfl (hb hby at_164) rfl (XS.lload X65.here hx rfl (hb hby at_166) rfl (XS.aload X65.here hx rfl (hb hby at_168) rfl rfl (XS.iload X65.here hx rfl (hb hby at_170) rfl (XS.lload X65.here hx rfl (hb hby at_172) rfl (XS.aload X65.here hx rfl (hb hby at_174) rfl rfl k))))))))) ?_
    show Go _ _ _ _ _ _ _ (T65.setTop (own_f0 m 176 av bv cv fl kb kc 1 0 0 li qa qb qc [(.ref qc), (.long kc), (.int (0 : Int32)), (.ref qb), (.long kb), (.int (0 : Int32)), (.ref qa), (.long av), (.int (1 : Int32)), (gl 0)]))
    obtain ⟨_, _, ⟨T66, L66, k66, n66⟩, -, X66, ⟨Lc66, hQ66, l66, y66, z66⟩, st66⟩ := Jvm.LawKit.callS X65 hx (y := (⟨"com/example/matchstone/matchstone/LevelIndexBestPinLaw", "expected", "(ZJLcom/example/matchstone/matchstone/PriceLevel;ZJLcom/example/matchstone/matchstone/PriceLevel;ZJLcom/example/matchstone/matchstone/PriceLevel;)Lcom/example/matchstone/matchstone/PriceLevel;"⟩ : MethodName)) hown (mvT hZ (hw _ (List.mem_of_getElem? (i := 89) rfl))) (mvT hZ (hw _ (List.mem_of_getElem? (i := 90) rfl))) (mvT hZ (hw _ (List.mem_of_getElem? (i := 91) rfl))) (mvT hZ (hw _ (List.mem_of_getElem? (i := 92) rfl))) (by decide) (backOf (W := 1) (rm14 l Z a0 hw [] (1 : Int32) av qa (0 : Int32) kb qb (0 : Int32) kc qc true false false hc n0 Zc (Or.inr ⟨rfl, rfl⟩) (Or.inl ⟨rfl, rfl⟩) (Or.inl ⟨rfl, rfl⟩)) hZ (hw _ (List.mem_of_getElem? (i := 92) rfl)) (hw _ (List.mem_of_getElem? (i := 91) rfl)) (by decide) (by decide)) (g := (own_f0 m 176 av bv cv fl kb kc 1 0 0 li qa qb qc [(.ref qc), (.long kc), (.int (0 : Int32)), (.ref qb), (.long kb), (.int (0 : Int32)), (.ref qa), (.long av), (.int (1 : Int32)), (gl 0)])) rfl (by rw [hml]; rfl) (argsL := [(.int (1 : Int32)), (.long av), (.ref qa), (.int (0 : Int32)), (.long kb), (.ref qb), (.int (0 : Int32)), (.long kc), (.ref qc)]) (rest := [(gl 0)]) (lenOf pd_0_1 rfl) rfl (by show 2 * 0 + _ ≤ _; exact own_w1 (RAr.ref R_lr (by decide))) (hb hby at_176) (fun _ _ => ⟨rfl, K65q, (by decide : 7 + 0 ≤ _), (by decide : 164 + 0 ≤ _)⟩)
    dsimp only [Pt.U, Pt.locs, Pt.cells, Pt.slots] at X66 l66 y66 z66 st66 hQ66
    subst l66 y66 z66
    obtain ⟨vv_66, rfl, N66q, K66q, o66_hvr, o66_hG⟩ := hQ66
    have N66 := Fr.app N65 N66q
    refine Go.step st66 ?_
    show Go _ _ _ _ _ _ _ (T66.setTop (own_f0 m 179 av bv cv fl kb kc 1 0 0 li qa qb qc [vv_66, (gl 0)]))
    refine Go.step (fun t k => Jvm.RoadKit.acmp (g := (own_f0 m 179 av bv cv fl kb kc 1 0 0 li qa qb qc [vv_66, (gl 0)])) X66 hx rfl (RAr.ref R_lr (by decide)) o66_hvr (pc0 := 179) (pc' := 182) (same := true) rfl (hb hby at_179) rfl (decide_eq_true (own_X1 (n := 0) hI o66_hG (by decide))) (by decide) (by decide) k) ?_
    show Go _ _ _ _ _ _ _ (T66.setTop (own_f0 m 182 av bv cv fl kb kc 1 0 0 li qa qb qc []))
    refine Go.step (fun t k => XS.iconst X66.here hx rfl (hb hby at_182) k) ?_
    show Go _ _ _ _ _ _ _ (T66.setTop (own_f0 m 183 av bv cv fl kb kc 1 0 0 li qa qb qc [(.int (1 : Int32))]))
    refine Go.step (fun t k => XS.goto X66.here hx rfl (pc0 := 183) (pc' := 187) rfl (hb hby at_183) (by decide) (by decide) (XS.istore X66.here hx rfl (hb hby at_187) rfl (l' := #[.val (.long av), .second, .val (.long bv), .second, .val (.long cv), .second, .val (.int fl), .val (.long kb), .second, .val (.long kc), .second, .val (.int (1 : Int32)), .val (.int (0 : Int32)), .val (.int (0 : Int32)), .val (.ref li), .val (.ref qa), .val (.ref qb), .val (.ref qc), .val (.int (1 : Int32)), .unset, .unset, .unset]) rfl (XS.iload X66.here hx rfl (hb hby at_189) rfl (XS.iconst X66.here hx rfl (hb hby at_191) (XS.iand X66.here hx rfl (hb hby at_192) rfl (XS.istore X66.here hx rfl (hb hby at_193) rfl (l' := #[.val (.long av), .second, .val (.long bv), .second, .val (.long cv), .second, .val (.int fl), .val (.long kb), .second, .val (.long kc), .second, .val (.int (1 : Int32)), .val (.int (0 : Int32)), .val (.int (0 : Int32)), .val (.ref li), .val (.ref qa), .val (.ref qb), .val (.ref qc), .val (.int (1 : Int32)), .val (.int (fl &&& (3 : Int32))), .unset, .unset]) rfl (XS.iload X66.here hx rfl (hb hby at_195) rfl (XS.iconst X66.here hx rfl (hb hby at_197) k)))))))) ?_
    show Go _ _ _ _ _ _ _ (T66.setTop (own_f2 m 198 av bv cv fl kb kc 1 0 0 li qa qb qc 1 (fl &&& (3 : Int32)) [(.int (1 : Int32)), (.int (fl &&& (3 : Int32)))]))
    by_cases hc198_67 : (fl &&& (3 : Int32)) = (1 : Int32)
    · refine Go.step (fun t k => XS.icmpNo X66.here hx rfl (hb hby at_198) rfl (teq hc198_67).2 k) ?_
      show Go _ _ _ _ _ _ _ (T66.setTop (own_f2 m 201 av bv cv fl kb kc 1 0 0 li qa qb qc 1 (fl &&& (3 : Int32)) []))
      refine Go.step (fun t k => XS.iload X66.here hx rfl (hb hby at_201) rfl k) ?_
      show Go _ _ _ _ _ _ _ (T66.setTop (own_f2 m 203 av bv cv fl kb kc 1 0 0 li qa qb qc 1 (fl &&& (3 : Int32)) [(.int (1 : Int32))]))
      refine Go.step (fun t k => XS.ifNo X66.here hx rfl (hb hby at_203) rfl ((if0 _ _).trans (feq (by decide : ¬ (1 : Int32) = (0 : Int32))).1) k) ?_
      show Go _ _ _ _ _ _ _ (T66.setTop (own_f2 m 206 av bv cv fl kb kc 1 0 0 li qa qb qc 1 (fl &&& (3 : Int32)) []))
      refine Go.step (fun t k => XS.aload X66.here hx rfl (hb hby at_206) rfl rfl (XS.lloadN X66.here hx rfl (hb hby at_208) rfl k)) ?_
      show Go _ _ _ _ _ _ _ (T66.setTop (own_f2 m 209 av bv cv fl kb kc 1 0 0 li qa qb qc 1 (fl &&& (3 : Int32)) [(.long av), (.ref li)]))
      obtain ⟨cq68, kq68, q68a, q68b, q68c⟩ := isOf hZ K66q E_li
      obtain ⟨_, _, ⟨T68, L68, k68, n68⟩, -, X68, ⟨Lc68, hQ68, l68, y68, z68⟩, st68⟩ := X66.virtualBack hx (y := (⟨"com/example/matchstone/matchstone/LevelIndex", "remove", "(J)V"⟩ : MethodName)) (z := (⟨"com/example/matchstone/matchstone/LevelIndex", "remove", "(J)V"⟩ : MethodName)) hown (mvT hZ (hw _ (List.mem_of_getElem? (i := 93) rfl))) (mvT hZ (hw _ (List.mem_of_getElem? (i := 94) rfl))) (notFace_of_selects (args := #[]) (mvT hZ (hw _ (List.mem_of_getElem? (i := 96) rfl)))) (mvT hZ (hw _ (List.mem_of_getElem? (i := 96) rfl))) (mvT hZ (hw _ (List.mem_of_getElem? (i := 95) rfl))) (by decide) (backOf (W := 0) (rm15_1 l Z a0 hw [] li av nd kr lr gk gl aw hc n0 Zc F_root_li F_last_li F_ahead_li E_li g_li F_keys_nd F_levels_nd F_children_nd F_size_nd F_next_nd F_previous_nd E_nd A_kr R_lr g_nd g_kr g_lr ne_kr_lr (own_I.srt hI) (own_I.inA hI)) hZ (hw _ (List.mem_of_getElem? (i := 97) rfl)) (hw _ (List.mem_of_getElem? (i := 2) rfl)) (by decide) (by decide)) q68a q68c (g := (own_f2 m 209 av bv cv fl kb kc 1 0 0 li qa qb qc 1 (fl &&& (3 : Int32)) [(.long av), (.ref li)])) rfl (by rw [hml]; rfl) (Steps.refl _) (argsL := [(.long av)]) (rest := []) (lenOf pd_0_2 rfl) rfl (by show 2 * 0 + _ ≤ _; exact Nat.le_of_eq rfl) (hb hby at_209) (fun _ _ => ⟨rfl, K66q, (by decide : 7 + 3 ≤ _), (by decide : 164 + 136 ≤ _)⟩)
      dsimp only [Pt.U, Pt.locs, Pt.cells, Pt.slots] at X68 l68 y68 z68 st68 hQ68
      subst l68 y68 z68
      obtain ⟨nd2_68, kr2_68, lr2_68, rfl, N68q, K68q, o68_nw_nd2_68, o68_nw_kr2_68, o68_nw_lr2_68, o68_ne_kr2_68_lr2_68, o68_F_root_li, o68_F_last_li, o68_F_ahead_li, o68_E_li, o68_F_keys_nd2_68, o68_F_levels_nd2_68, o68_F_children_nd2_68, o68_F_size_nd2_68, o68_F_next_nd2_68, o68_F_previous_nd2_68, o68_E_nd2_68, o68_A_kr2_68, o68_R_lr2_68⟩ := hQ68
      have N68 := Fr.app N66 N68q
      have ne_li_nd2_68 : li ≠ nd2_68 := Nat.ne_of_lt (Nat.lt_of_lt_of_le F_root_li.lt o68_nw_nd2_68)
      have ne_nd_nd2_68 : nd ≠ nd2_68 := Nat.ne_of_lt (Nat.lt_of_lt_of_le F_keys_nd.lt o68_nw_nd2_68)
      have ne_kr_nd2_68 : kr ≠ nd2_68 := Nat.ne_of_lt (Nat.lt_of_lt_of_le A_kr.lt o68_nw_nd2_68)
      have ne_lr_nd2_68 : lr ≠ nd2_68 := Nat.ne_of_lt (Nat.lt_of_lt_of_le R_lr.lt o68_nw_nd2_68)
      have g_nd2_68 : n0 ≤ nd2_68 := Nat.le_trans Zc o68_nw_nd2_68
      have ne_li_kr2_68 : li ≠ kr2_68 := Nat.ne_of_lt (Nat.lt_of_lt_of_le F_root_li.lt o68_nw_kr2_68)
      have ne_nd_kr2_68 : nd ≠ kr2_68 := Nat.ne_of_lt (Nat.lt_of_lt_of_le F_keys_nd.lt o68_nw_kr2_68)
      have ne_kr_kr2_68 : kr ≠ kr2_68 := Nat.ne_of_lt (Nat.lt_of_lt_of_le A_kr.lt o68_nw_kr2_68)
      have ne_lr_kr2_68 : lr ≠ kr2_68 := Nat.ne_of_lt (Nat.lt_of_lt_of_le R_lr.lt o68_nw_kr2_68)
      have g_kr2_68 : n0 ≤ kr2_68 := Nat.le_trans Zc o68_nw_kr2_68
      have ne_li_lr2_68 : li ≠ lr2_68 := Nat.ne_of_lt (Nat.lt_of_lt_of_le F_root_li.lt o68_nw_lr2_68)
      have ne_nd_lr2_68 : nd ≠ lr2_68 := Nat.ne_of_lt (Nat.lt_of_lt_of_le F_keys_nd.lt o68_nw_lr2_68)
      have ne_kr_lr2_68 : kr ≠ lr2_68 := Nat.ne_of_lt (Nat.lt_of_lt_of_le A_kr.lt o68_nw_lr2_68)
      have ne_lr_lr2_68 : lr ≠ lr2_68 := Nat.ne_of_lt (Nat.lt_of_lt_of_le R_lr.lt o68_nw_lr2_68)
      have g_lr2_68 : n0 ≤ lr2_68 := Nat.le_trans Zc o68_nw_lr2_68
      replace E_li := E_li.keep K68q
      replace E_nd := E_nd.keep K68q
      have Z68 := Nat.le_trans Zc K68q.1
      have F_root_li := o68_F_root_li
      have F_last_li := o68_F_last_li
      have F_ahead_li := o68_F_ahead_li
      have E_li := o68_E_li
      have F_keys_nd2_68 := o68_F_keys_nd2_68
      have F_levels_nd2_68 := o68_F_levels_nd2_68
      have F_children_nd2_68 := o68_F_children_nd2_68
      have F_size_nd2_68 := o68_F_size_nd2_68
      have F_next_nd2_68 := o68_F_next_nd2_68
      have F_previous_nd2_68 := o68_F_previous_nd2_68
      have E_nd2_68 := o68_E_nd2_68
      have A_kr2_68 := o68_A_kr2_68
      have R_lr2_68 := o68_R_lr2_68
      refine Go.step (fun t k => st68.trans k) ?_
      show Go _ _ _ _ _ _ _ (T68.setTop (own_f2 m 212 av bv cv fl kb kc 1 0 0 li qa qb qc 1 (fl &&& (3 : Int32)) []))
      have hI_69 : own_I 0 (fun _ => (0 : Int64)) (fun _ => .null) false false false av kb kc qa qb qc := by exact own_I.nil
      refine Go.step (fun t k => XS.iconst X68.here hx rfl (hb hby at_212) (XS.istore X68.here hx rfl (hb hby at_213) rfl (l' := #[.val (.long av), .second, .val (.long bv), .second, .val (.long cv), .second, .val (.int fl), .val (.long kb), .second, .val (.long kc), .second, .val (.int (0 : Int32)), .val (.int (0 : Int32)), .val (.int (0 : Int32)), .val (.ref li), .val (.ref qa), .val (.ref qb), .val (.ref qc), .val (.int (1 : Int32)), .val (.int (fl &&& (3 : Int32))), .unset, .unset]) rfl k)) ?_
      show Go _ _ _ _ _ _ _ (T68.setTop (own_f2 m 215 av bv cv fl kb kc 0 0 0 li qa qb qc 1 (fl &&& (3 : Int32)) []))
      refine Go.step (fun t k => XS.goto X68.here hx rfl (pc0 := 215) (pc' := 263) rfl (hb hby at_215) (by decide) (by decide) k) ?_
      show Go _ _ _ _ _ _ _ (T68.setTop (own_f2 m 263 av bv cv fl kb kc 0 0 0 li qa qb qc 1 (fl &&& (3 : Int32)) []))
      exact L263_000 _ _ _ kb kc li qa qb qc nd2_68 kr2_68 lr2_68 (fun _ => (0 : Int64)) (fun _ => .null) aw X68 rfl N68 Z68 F_last_li E_li F_keys_nd2_68 F_levels_nd2_68 F_size_nd2_68 R_lr2_68 hI_69
    · refine Go.step (fun t k => XS.icmpYes X66.here hx rfl (pc0 := 198) (pc' := 218) rfl (hb hby at_198) rfl (feq hc198_67).2 (by decide) (by decide) k) ?_
      show Go _ _ _ _ _ _ _ (T66.setTop (own_f2 m 218 av bv cv fl kb kc 1 0 0 li qa qb qc 1 (fl &&& (3 : Int32)) []))
      refine Go.step (fun t k => XS.iload X66.here hx rfl (hb hby at_218) rfl (XS.iconst X66.here hx rfl (hb hby at_220) k)) ?_
      show Go _ _ _ _ _ _ _ (T66.setTop (own_f2 m 221 av bv cv fl kb kc 1 0 0 li qa qb qc 1 (fl &&& (3 : Int32)) [(.int (2 : Int32)), (.int (fl &&& (3 : Int32)))]))
      by_cases hc221_70 : (fl &&& (3 : Int32)) = (2 : Int32)
      · refine Go.step (fun t k => XS.icmpNo X66.here hx rfl (hb hby at_221) rfl (teq hc221_70).2 k) ?_
        show Go _ _ _ _ _ _ _ (T66.setTop (own_f2 m 224 av bv cv fl kb kc 1 0 0 li qa qb qc 1 (fl &&& (3 : Int32)) []))
        refine Go.step (fun t k => XS.iload X66.here hx rfl (hb hby at_224) rfl k) ?_
        show Go _ _ _ _ _ _ _ (T66.setTop (own_f2 m 226 av bv cv fl kb kc 1 0 0 li qa qb qc 1 (fl &&& (3 : Int32)) [(.int (0 : Int32))]))
        refine Go.step (fun t k => XS.ifYes X66.here hx rfl (pc0 := 226) (pc' := 242) rfl (hb hby at_226) rfl ((if0 _ _).trans (teq (by decide : (0 : Int32) = (0 : Int32))).1) (by decide) (by decide) k) ?_
        show Go _ _ _ _ _ _ _ (T66.setTop (own_f2 m 242 av bv cv fl kb kc 1 0 0 li qa qb qc 1 (fl &&& (3 : Int32)) []))
        refine Go.step (fun t k => XS.iload X66.here hx rfl (hb hby at_242) rfl (XS.iconst X66.here hx rfl (hb hby at_244) k)) ?_
        show Go _ _ _ _ _ _ _ (T66.setTop (own_f2 m 245 av bv cv fl kb kc 1 0 0 li qa qb qc 1 (fl &&& (3 : Int32)) [(.int (3 : Int32)), (.int (fl &&& (3 : Int32)))]))
        refine Go.step (fun t k => XS.icmpYes X66.here hx rfl (pc0 := 245) (pc' := 263) rfl (hb hby at_245) rfl (feq (fun q => absurd (hc221_70.symm.trans q) (by decide) : ¬ (fl &&& (3 : Int32)) = (3 : Int32))).2 (by decide) (by decide) k) ?_
        show Go _ _ _ _ _ _ _ (T66.setTop (own_f2 m 263 av bv cv fl kb kc 1 0 0 li qa qb qc 1 (fl &&& (3 : Int32)) []))
        exact L263_100 _ _ _ kb kc li qa qb qc nd kr lr gk gl aw X66 K66q N66 Zc F_root_li F_last_li F_ahead_li E_li g_li F_keys_nd F_levels_nd F_children_nd F_size_nd F_next_nd F_previous_nd E_nd A_kr R_lr g_nd g_kr g_lr ne_kr_lr hI
      · refine Go.step (fun t k => XS.icmpYes X66.here hx rfl (pc0 := 221) (pc' := 242) rfl (hb hby at_221) rfl (feq hc221_70).2 (by decide) (by decide) k) ?_
        show Go _ _ _ _ _ _ _ (T66.setTop (own_f2 m 242 av bv cv fl kb kc 1 0 0 li qa qb qc 1 (fl &&& (3 : Int32)) []))
        refine Go.step (fun t k => XS.iload X66.here hx rfl (hb hby at_242) rfl (XS.iconst X66.here hx rfl (hb hby at_244) k)) ?_
        show Go _ _ _ _ _ _ _ (T66.setTop (own_f2 m 245 av bv cv fl kb kc 1 0 0 li qa qb qc 1 (fl &&& (3 : Int32)) [(.int (3 : Int32)), (.int (fl &&& (3 : Int32)))]))
        by_cases hc245_71 : (fl &&& (3 : Int32)) = (3 : Int32)
        · refine Go.step (fun t k => XS.icmpNo X66.here hx rfl (hb hby at_245) rfl (teq hc245_71).2 k) ?_
          show Go _ _ _ _ _ _ _ (T66.setTop (own_f2 m 248 av bv cv fl kb kc 1 0 0 li qa qb qc 1 (fl &&& (3 : Int32)) []))
          refine Go.step (fun t k => XS.iload X66.here hx rfl (hb hby at_248) rfl k) ?_
          show Go _ _ _ _ _ _ _ (T66.setTop (own_f2 m 250 av bv cv fl kb kc 1 0 0 li qa qb qc 1 (fl &&& (3 : Int32)) [(.int (0 : Int32))]))
          refine Go.step (fun t k => XS.ifYes X66.here hx rfl (pc0 := 250) (pc' := 263) rfl (hb hby at_250) rfl ((if0 _ _).trans (teq (by decide : (0 : Int32) = (0 : Int32))).1) (by decide) (by decide) k) ?_
          show Go _ _ _ _ _ _ _ (T66.setTop (own_f2 m 263 av bv cv fl kb kc 1 0 0 li qa qb qc 1 (fl &&& (3 : Int32)) []))
          exact L263_100 _ _ _ kb kc li qa qb qc nd kr lr gk gl aw X66 K66q N66 Zc F_root_li F_last_li F_ahead_li E_li g_li F_keys_nd F_levels_nd F_children_nd F_size_nd F_next_nd F_previous_nd E_nd A_kr R_lr g_nd g_kr g_lr ne_kr_lr hI
        · refine Go.step (fun t k => XS.icmpYes X66.here hx rfl (pc0 := 245) (pc' := 263) rfl (hb hby at_245) rfl (feq hc245_71).2 (by decide) (by decide) k) ?_
          show Go _ _ _ _ _ _ _ (T66.setTop (own_f2 m 263 av bv cv fl kb kc 1 0 0 li qa qb qc 1 (fl &&& (3 : Int32)) []))
          exact L263_100 _ _ _ kb kc li qa qb qc nd kr lr gk gl aw X66 K66q N66 Zc F_root_li F_last_li F_ahead_li E_li g_li F_keys_nd F_levels_nd F_children_nd F_size_nd F_next_nd F_previous_nd E_nd A_kr R_lr g_nd g_kr g_lr ne_kr_lr hI
  have L154_101 : ∀ (Tc : State) (hc : Heap) (lc : List Loc) (kb : Int64) (kc : Int64) (li : Addr) (qa : Addr) (qb : Addr) (qc : Addr) (nd : Addr) (kr : Addr) (lr : Addr) (gk : Nat → Int64) (gl : Nat → Value) (aw : Value), (Stand p l e room_1 s m #[(.long av), (.long bv), (.long cv), (.int fl)] below meth c Tc lc 7 164) → (Tc.heap = hc) → (Fr n0 lc) → (n0 ≤ hc.size) → (Fld Z hc li "com/example/matchstone/matchstone/LevelIndex" "root" "Lcom/example/matchstone/matchstone/LevelIndex$Node;" (.ref nd)) → (Fld Z hc li "com/example/matchstone/matchstone/LevelIndex" "last" "Lcom/example/matchstone/matchstone/LevelIndex$Node;" (.ref nd)) → (Fld Z hc li "com/example/matchstone/matchstone/LevelIndex" "ahead" "Lcom/example/matchstone/matchstone/PriceLevel;" aw) → (Exa Z hc li "com/example/matchstone/matchstone/LevelIndex") → (n0 ≤ li) → (Fld Z hc nd "com/example/matchstone/matchstone/LevelIndex$Node" "keys" "[J" (.ref kr)) → (Fld Z hc nd "com/example/matchstone/matchstone/LevelIndex$Node" "levels" "[Lcom/example/matchstone/matchstone/PriceLevel;" (.ref lr)) → (Fld Z hc nd "com/example/matchstone/matchstone/LevelIndex$Node" "children" "[Lcom/example/matchstone/matchstone/LevelIndex$Node;" .null) → (Fld Z hc nd "com/example/matchstone/matchstone/LevelIndex$Node" "size" "I" (.int (2 : Int32))) → (Fld Z hc nd "com/example/matchstone/matchstone/LevelIndex$Node" "next" "Lcom/example/matchstone/matchstone/LevelIndex$Node;" .null) → (Fld Z hc nd "com/example/matchstone/matchstone/LevelIndex$Node" "previous" "Lcom/example/matchstone/matchstone/LevelIndex$Node;" .null) → (Exa Z hc nd "com/example/matchstone/matchstone/LevelIndex$Node") → (AryJ Z hc kr 65 gk) → (RAr Z hc lr "com/example/matchstone/matchstone/PriceLevel" 65 gl) → (n0 ≤ nd) → (n0 ≤ kr) → (n0 ≤ lr) → (kr ≠ lr) → (own_I 2 gk gl true false true av kb kc qa qb qc) → Go p e below s (Q0 Z av bv cv fl h0 n0) 32 704 (Tc.setTop (own_f0 m 154 av bv cv fl kb kc 1 0 1 li qa qb qc [])) := by
    intro Tc hc lc kb kc li qa qb qc nd kr lr gk gl aw Xc ec Nc Zc F_root_li F_last_li F_ahead_li E_li g_li F_keys_nd F_levels_nd F_children_nd F_size_nd F_next_nd F_previous_nd E_nd A_kr R_lr g_nd g_kr g_lr ne_kr_lr hI
    show Go _ _ _ _ _ _ _ (Tc.setTop (own_f0 m 154 av bv cv fl kb kc 1 0 1 li qa qb qc []))
    refine Go.step (fun t k => XS.aload Xc.here hx rfl (hb hby at_154) rfl rfl k) ?_
    show Go _ _ _ _ _ _ _ (Tc.setTop (own_f0 m 156 av bv cv fl kb kc 1 0 1 li qa qb qc [(.ref li)]))
    obtain ⟨cq72, kq72, q72a, q72b, q72c⟩ := isOf hZ ec E_li
    obtain ⟨_, _, ⟨T72, L72, k72, n72⟩, -, X72, ⟨Lc72, hQ72, l72, y72, z72⟩, st72⟩ := Xc.virtualBack hx (y := (⟨"com/example/matchstone/matchstone/LevelIndex", "best", "()Lcom/example/matchstone/matchstone/PriceLevel;"⟩ : MethodName)) (z := (⟨"com/example/matchstone/matchstone/LevelIndex", "best", "()Lcom/example/matchstone/matchstone/PriceLevel;"⟩ : MethodName)) hown (mvT hZ (hw _ (List.mem_of_getElem? (i := 84) rfl))) (mvT hZ (hw _ (List.mem_of_getElem? (i := 85) rfl))) (notFace_of_selects (args := #[]) (mvT hZ (hw _ (List.mem_of_getElem? (i := 87) rfl)))) (mvT hZ (hw _ (List.mem_of_getElem? (i := 87) rfl))) (mvT hZ (hw _ (List.mem_of_getElem? (i := 86) rfl))) (by decide) (backOf (W := 0) (rm13 l Z a0 hw [] li nd lr gl (2 : Int32) 1 hc n0 Zc F_last_li F_levels_nd F_size_nd R_lr (by decide) (by decide)) hZ (hw _ (List.mem_of_getElem? (i := 88) rfl)) (hw _ (List.mem_of_getElem? (i := 2) rfl)) (by decide) (by decide)) q72a q72c (g := (own_f0 m 156 av bv cv fl kb kc 1 0 1 li qa qb qc [(.ref li)])) rfl (by rw [hml]; rfl) (Steps.refl _) (argsL := []) (rest := []) (lenOf pd_0_0 rfl) rfl (by show 2 * 0 + _ ≤ _; exact Nat.le_of_eq rfl) (hb hby at_156) (fun _ _ => ⟨rfl, ec, (by decide : 7 + 0 ≤ _), (by decide : 164 + 0 ≤ _)⟩)
    dsimp only [Pt.U, Pt.locs, Pt.cells, Pt.slots] at X72 l72 y72 z72 st72 hQ72
    subst l72 y72 z72
    obtain ⟨rfl, N72q, K72q⟩ := hQ72
    have N72 := Fr.app Nc N72q
    refine Go.step (fun t k => st72.trans k) ?_
    show Go _ _ _ _ _ _ _ (T72.setTop (own_f0 m 159 av bv cv fl kb kc 1 0 1 li qa qb qc [(gl 1)]))
    refine Go.step (fun t k => XS.iload X72.here hx rfl (hb hby at_159) rfl (XS.lloadN X72.here hx rfl (hb hby at_161) rfl (XS.aload X72.here hx rfl (hb hby at_162) rfl rfl (XS.iload X72.here hx rfl (hb hby at_164) rfl (XS.lload X72.here hx rfl (hb hby at_166) rfl (XS.aload X72.here hx rfl (hb hby at_168) rfl rfl (XS.iload X72.here hx rfl (hb hby at_170) rfl (XS.lload X72.here hx rfl (hb hby at_172) rfl (XS.aload X72.here hx rfl (hb hby at_174) rfl rfl k))))))))) ?_
    show Go _ _ _ _ _ _ _ (T72.setTop (own_f0 m 176 av bv cv fl kb kc 1 0 1 li qa qb qc [(.ref qc), (.long kc), (.int (1 : Int32)), (.ref qb), (.long kb), (.int (0 : Int32)), (.ref qa), (.long av), (.int (1 : Int32)), (gl 1)]))
    obtain ⟨_, _, ⟨T73, L73, k73, n73⟩, -, X73, ⟨Lc73, hQ73, l73, y73, z73⟩, st73⟩ := Jvm.LawKit.callS X72 hx (y := (⟨"com/example/matchstone/matchstone/LevelIndexBestPinLaw", "expected", "(ZJLcom/example/matchstone/matchstone/PriceLevel;ZJLcom/example/matchstone/matchstone/PriceLevel;ZJLcom/example/matchstone/matchstone/PriceLevel;)Lcom/example/matchstone/matchstone/PriceLevel;"⟩ : MethodName)) hown (mvT hZ (hw _ (List.mem_of_getElem? (i := 89) rfl))) (mvT hZ (hw _ (List.mem_of_getElem? (i := 90) rfl))) (mvT hZ (hw _ (List.mem_of_getElem? (i := 91) rfl))) (mvT hZ (hw _ (List.mem_of_getElem? (i := 92) rfl))) (by decide) (backOf (W := 1) (rm14 l Z a0 hw [] (1 : Int32) av qa (0 : Int32) kb qb (1 : Int32) kc qc true false true hc n0 Zc (Or.inr ⟨rfl, rfl⟩) (Or.inl ⟨rfl, rfl⟩) (Or.inr ⟨rfl, rfl⟩)) hZ (hw _ (List.mem_of_getElem? (i := 92) rfl)) (hw _ (List.mem_of_getElem? (i := 91) rfl)) (by decide) (by decide)) (g := (own_f0 m 176 av bv cv fl kb kc 1 0 1 li qa qb qc [(.ref qc), (.long kc), (.int (1 : Int32)), (.ref qb), (.long kb), (.int (0 : Int32)), (.ref qa), (.long av), (.int (1 : Int32)), (gl 1)])) rfl (by rw [hml]; rfl) (argsL := [(.int (1 : Int32)), (.long av), (.ref qa), (.int (0 : Int32)), (.long kb), (.ref qb), (.int (1 : Int32)), (.long kc), (.ref qc)]) (rest := [(gl 1)]) (lenOf pd_0_1 rfl) rfl (by show 2 * 0 + _ ≤ _; exact own_w1 (RAr.ref R_lr (by decide))) (hb hby at_176) (fun _ _ => ⟨rfl, K72q, (by decide : 7 + 0 ≤ _), (by decide : 164 + 0 ≤ _)⟩)
    dsimp only [Pt.U, Pt.locs, Pt.cells, Pt.slots] at X73 l73 y73 z73 st73 hQ73
    subst l73 y73 z73
    obtain ⟨vv_73, rfl, N73q, K73q, o73_hvr, o73_hG⟩ := hQ73
    have N73 := Fr.app N72 N73q
    refine Go.step st73 ?_
    show Go _ _ _ _ _ _ _ (T73.setTop (own_f0 m 179 av bv cv fl kb kc 1 0 1 li qa qb qc [vv_73, (gl 1)]))
    refine Go.step (fun t k => Jvm.RoadKit.acmp (g := (own_f0 m 179 av bv cv fl kb kc 1 0 1 li qa qb qc [vv_73, (gl 1)])) X73 hx rfl (RAr.ref R_lr (by decide)) o73_hvr (pc0 := 179) (pc' := 182) (same := true) rfl (hb hby at_179) rfl (decide_eq_true (own_X1 (n := 1) hI o73_hG (by decide))) (by decide) (by decide) k) ?_
    show Go _ _ _ _ _ _ _ (T73.setTop (own_f0 m 182 av bv cv fl kb kc 1 0 1 li qa qb qc []))
    refine Go.step (fun t k => XS.iconst X73.here hx rfl (hb hby at_182) k) ?_
    show Go _ _ _ _ _ _ _ (T73.setTop (own_f0 m 183 av bv cv fl kb kc 1 0 1 li qa qb qc [(.int (1 : Int32))]))
    refine Go.step (fun t k => XS.goto X73.here hx rfl (pc0 := 183) (pc' := 187) rfl (hb hby at_183) (by decide) (by decide) (XS.istore X73.here hx rfl (hb hby at_187) rfl (l' := #[.val (.long av), .second, .val (.long bv), .second, .val (.long cv), .second, .val (.int fl), .val (.long kb), .second, .val (.long kc), .second, .val (.int (1 : Int32)), .val (.int (0 : Int32)), .val (.int (1 : Int32)), .val (.ref li), .val (.ref qa), .val (.ref qb), .val (.ref qc), .val (.int (1 : Int32)), .unset, .unset, .unset]) rfl (XS.iload X73.here hx rfl (hb hby at_189) rfl (XS.iconst X73.here hx rfl (hb hby at_191) (XS.iand X73.here hx rfl (hb hby at_192) rfl (XS.istore X73.here hx rfl (hb hby at_193) rfl (l' := #[.val (.long av), .second, .val (.long bv), .second, .val (.long cv), .second, .val (.int fl), .val (.long kb), .second, .val (.long kc), .second, .val (.int (1 : Int32)), .val (.int (0 : Int32)), .val (.int (1 : Int32)), .val (.ref li), .val (.ref qa), .val (.ref qb), .val (.ref qc), .val (.int (1 : Int32)), .val (.int (fl &&& (3 : Int32))), .unset, .unset]) rfl (XS.iload X73.here hx rfl (hb hby at_195) rfl (XS.iconst X73.here hx rfl (hb hby at_197) k)))))))) ?_
    show Go _ _ _ _ _ _ _ (T73.setTop (own_f2 m 198 av bv cv fl kb kc 1 0 1 li qa qb qc 1 (fl &&& (3 : Int32)) [(.int (1 : Int32)), (.int (fl &&& (3 : Int32)))]))
    by_cases hc198_74 : (fl &&& (3 : Int32)) = (1 : Int32)
    · refine Go.step (fun t k => XS.icmpNo X73.here hx rfl (hb hby at_198) rfl (teq hc198_74).2 k) ?_
      show Go _ _ _ _ _ _ _ (T73.setTop (own_f2 m 201 av bv cv fl kb kc 1 0 1 li qa qb qc 1 (fl &&& (3 : Int32)) []))
      refine Go.step (fun t k => XS.iload X73.here hx rfl (hb hby at_201) rfl k) ?_
      show Go _ _ _ _ _ _ _ (T73.setTop (own_f2 m 203 av bv cv fl kb kc 1 0 1 li qa qb qc 1 (fl &&& (3 : Int32)) [(.int (1 : Int32))]))
      refine Go.step (fun t k => XS.ifNo X73.here hx rfl (hb hby at_203) rfl ((if0 _ _).trans (feq (by decide : ¬ (1 : Int32) = (0 : Int32))).1) k) ?_
      show Go _ _ _ _ _ _ _ (T73.setTop (own_f2 m 206 av bv cv fl kb kc 1 0 1 li qa qb qc 1 (fl &&& (3 : Int32)) []))
      refine Go.step (fun t k => XS.aload X73.here hx rfl (hb hby at_206) rfl rfl (XS.lloadN X73.here hx rfl (hb hby at_208) rfl k)) ?_
      show Go _ _ _ _ _ _ _ (T73.setTop (own_f2 m 209 av bv cv fl kb kc 1 0 1 li qa qb qc 1 (fl &&& (3 : Int32)) [(.long av), (.ref li)]))
      obtain ⟨cq75, kq75, q75a, q75b, q75c⟩ := isOf hZ K73q E_li
      obtain ⟨_, _, ⟨T75, L75, k75, n75⟩, -, X75, ⟨Lc75, hQ75, l75, y75, z75⟩, st75⟩ := X73.virtualBack hx (y := (⟨"com/example/matchstone/matchstone/LevelIndex", "remove", "(J)V"⟩ : MethodName)) (z := (⟨"com/example/matchstone/matchstone/LevelIndex", "remove", "(J)V"⟩ : MethodName)) hown (mvT hZ (hw _ (List.mem_of_getElem? (i := 93) rfl))) (mvT hZ (hw _ (List.mem_of_getElem? (i := 94) rfl))) (notFace_of_selects (args := #[]) (mvT hZ (hw _ (List.mem_of_getElem? (i := 96) rfl)))) (mvT hZ (hw _ (List.mem_of_getElem? (i := 96) rfl))) (mvT hZ (hw _ (List.mem_of_getElem? (i := 95) rfl))) (by decide) (backOf (W := 0) (rm15 l Z a0 hw [] li av nd kr lr gk gl (2 : Int32) 1 aw hc n0 Zc F_root_li F_last_li F_ahead_li E_li g_li F_keys_nd F_levels_nd F_children_nd F_size_nd F_next_nd F_previous_nd E_nd A_kr R_lr g_nd g_kr g_lr ne_kr_lr (by decide) (by decide) (by decide) (own_I.srt hI) (own_I.inA hI)) hZ (hw _ (List.mem_of_getElem? (i := 97) rfl)) (hw _ (List.mem_of_getElem? (i := 2) rfl)) (by decide) (by decide)) q75a q75c (g := (own_f2 m 209 av bv cv fl kb kc 1 0 1 li qa qb qc 1 (fl &&& (3 : Int32)) [(.long av), (.ref li)])) rfl (by rw [hml]; rfl) (Steps.refl _) (argsL := [(.long av)]) (rest := []) (lenOf pd_0_2 rfl) rfl (by show 2 * 0 + _ ≤ _; exact Nat.le_of_eq rfl) (hb hby at_209) (fun _ _ => ⟨rfl, K73q, (by decide : 7 + 0 ≤ _), (by decide : 164 + 0 ≤ _)⟩)
      dsimp only [Pt.U, Pt.locs, Pt.cells, Pt.slots] at X75 l75 y75 z75 st75 hQ75
      subst l75 y75 z75
      obtain ⟨im_75, gk2_75, gl2_75, rfl, N75q, K75q, o75_him, o75_hgi, o75_hgk, o75_hgl, o75_F_root_li, o75_F_last_li, o75_F_ahead_li, o75_E_li, o75_F_keys_nd, o75_F_levels_nd, o75_F_children_nd, o75_F_size_nd, o75_F_next_nd, o75_F_previous_nd, o75_E_nd, o75_A_kr, o75_R_lr⟩ := hQ75
      have N75 := Fr.app N73 N75q
      replace E_li := E_li.keep K75q
      replace E_nd := E_nd.keep K75q
      have Z75 := Nat.le_trans Zc K75q.1
      have F_root_li := o75_F_root_li
      have F_last_li := o75_F_last_li
      have F_ahead_li := o75_F_ahead_li
      have E_li := o75_E_li
      have F_keys_nd := o75_F_keys_nd
      have F_levels_nd := o75_F_levels_nd
      have F_children_nd := o75_F_children_nd
      have F_size_nd := o75_F_size_nd
      have F_next_nd := o75_F_next_nd
      have F_previous_nd := o75_F_previous_nd
      have E_nd := o75_E_nd
      have A_kr := o75_A_kr
      have R_lr := o75_R_lr
      refine Go.step (fun t k => st75.trans k) ?_
      show Go _ _ _ _ _ _ _ (T75.setTop (own_f2 m 212 av bv cv fl kb kc 1 0 1 li qa qb qc 1 (fl &&& (3 : Int32)) []))
      have hI_76 : own_I 1 gk2_75 gl2_75 false false true av kb kc qa qb qc := by rw [o75_hgk, o75_hgl]; exact own_I.remA (n := 1) hI o75_him o75_hgi
      refine Go.step (fun t k => XS.iconst X75.here hx rfl (hb hby at_212) (XS.istore X75.here hx rfl (hb hby at_213) rfl (l' := #[.val (.long av), .second, .val (.long bv), .second, .val (.long cv), .second, .val (.int fl), .val (.long kb), .second, .val (.long kc), .second, .val (.int (0 : Int32)), .val (.int (0 : Int32)), .val (.int (1 : Int32)), .val (.ref li), .val (.ref qa), .val (.ref qb), .val (.ref qc), .val (.int (1 : Int32)), .val (.int (fl &&& (3 : Int32))), .unset, .unset]) rfl k)) ?_
      show Go _ _ _ _ _ _ _ (T75.setTop (own_f2 m 215 av bv cv fl kb kc 0 0 1 li qa qb qc 1 (fl &&& (3 : Int32)) []))
      refine Go.step (fun t k => XS.goto X75.here hx rfl (pc0 := 215) (pc' := 263) rfl (hb hby at_215) (by decide) (by decide) k) ?_
      show Go _ _ _ _ _ _ _ (T75.setTop (own_f2 m 263 av bv cv fl kb kc 0 0 1 li qa qb qc 1 (fl &&& (3 : Int32)) []))
      exact L263_001 _ _ _ kb kc li qa qb qc nd kr lr gk2_75 gl2_75 aw X75 rfl N75 Z75 F_root_li F_last_li F_ahead_li E_li g_li F_keys_nd F_levels_nd F_children_nd F_size_nd F_next_nd F_previous_nd E_nd A_kr R_lr g_nd g_kr g_lr ne_kr_lr hI_76
    · refine Go.step (fun t k => XS.icmpYes X73.here hx rfl (pc0 := 198) (pc' := 218) rfl (hb hby at_198) rfl (feq hc198_74).2 (by decide) (by decide) k) ?_
      show Go _ _ _ _ _ _ _ (T73.setTop (own_f2 m 218 av bv cv fl kb kc 1 0 1 li qa qb qc 1 (fl &&& (3 : Int32)) []))
      refine Go.step (fun t k => XS.iload X73.here hx rfl (hb hby at_218) rfl (XS.iconst X73.here hx rfl (hb hby at_220) k)) ?_
      show Go _ _ _ _ _ _ _ (T73.setTop (own_f2 m 221 av bv cv fl kb kc 1 0 1 li qa qb qc 1 (fl &&& (3 : Int32)) [(.int (2 : Int32)), (.int (fl &&& (3 : Int32)))]))
      by_cases hc221_77 : (fl &&& (3 : Int32)) = (2 : Int32)
      · refine Go.step (fun t k => XS.icmpNo X73.here hx rfl (hb hby at_221) rfl (teq hc221_77).2 k) ?_
        show Go _ _ _ _ _ _ _ (T73.setTop (own_f2 m 224 av bv cv fl kb kc 1 0 1 li qa qb qc 1 (fl &&& (3 : Int32)) []))
        refine Go.step (fun t k => XS.iload X73.here hx rfl (hb hby at_224) rfl k) ?_
        show Go _ _ _ _ _ _ _ (T73.setTop (own_f2 m 226 av bv cv fl kb kc 1 0 1 li qa qb qc 1 (fl &&& (3 : Int32)) [(.int (0 : Int32))]))
        refine Go.step (fun t k => XS.ifYes X73.here hx rfl (pc0 := 226) (pc' := 242) rfl (hb hby at_226) rfl ((if0 _ _).trans (teq (by decide : (0 : Int32) = (0 : Int32))).1) (by decide) (by decide) k) ?_
        show Go _ _ _ _ _ _ _ (T73.setTop (own_f2 m 242 av bv cv fl kb kc 1 0 1 li qa qb qc 1 (fl &&& (3 : Int32)) []))
        refine Go.step (fun t k => XS.iload X73.here hx rfl (hb hby at_242) rfl (XS.iconst X73.here hx rfl (hb hby at_244) k)) ?_
        show Go _ _ _ _ _ _ _ (T73.setTop (own_f2 m 245 av bv cv fl kb kc 1 0 1 li qa qb qc 1 (fl &&& (3 : Int32)) [(.int (3 : Int32)), (.int (fl &&& (3 : Int32)))]))
        refine Go.step (fun t k => XS.icmpYes X73.here hx rfl (pc0 := 245) (pc' := 263) rfl (hb hby at_245) rfl (feq (fun q => absurd (hc221_77.symm.trans q) (by decide) : ¬ (fl &&& (3 : Int32)) = (3 : Int32))).2 (by decide) (by decide) k) ?_
        show Go _ _ _ _ _ _ _ (T73.setTop (own_f2 m 263 av bv cv fl kb kc 1 0 1 li qa qb qc 1 (fl &&& (3 : Int32)) []))
        exact L263_101 _ _ _ kb kc li qa qb qc nd kr lr gk gl aw X73 K73q N73 Zc F_root_li F_last_li F_ahead_li E_li g_li F_keys_nd F_levels_nd F_children_nd F_size_nd F_next_nd F_previous_nd E_nd A_kr R_lr g_nd g_kr g_lr ne_kr_lr hI
      · refine Go.step (fun t k => XS.icmpYes X73.here hx rfl (pc0 := 221) (pc' := 242) rfl (hb hby at_221) rfl (feq hc221_77).2 (by decide) (by decide) k) ?_
        show Go _ _ _ _ _ _ _ (T73.setTop (own_f2 m 242 av bv cv fl kb kc 1 0 1 li qa qb qc 1 (fl &&& (3 : Int32)) []))
        refine Go.step (fun t k => XS.iload X73.here hx rfl (hb hby at_242) rfl (XS.iconst X73.here hx rfl (hb hby at_244) k)) ?_
        show Go _ _ _ _ _ _ _ (T73.setTop (own_f2 m 245 av bv cv fl kb kc 1 0 1 li qa qb qc 1 (fl &&& (3 : Int32)) [(.int (3 : Int32)), (.int (fl &&& (3 : Int32)))]))
        by_cases hc245_78 : (fl &&& (3 : Int32)) = (3 : Int32)
        · refine Go.step (fun t k => XS.icmpNo X73.here hx rfl (hb hby at_245) rfl (teq hc245_78).2 k) ?_
          show Go _ _ _ _ _ _ _ (T73.setTop (own_f2 m 248 av bv cv fl kb kc 1 0 1 li qa qb qc 1 (fl &&& (3 : Int32)) []))
          refine Go.step (fun t k => XS.iload X73.here hx rfl (hb hby at_248) rfl k) ?_
          show Go _ _ _ _ _ _ _ (T73.setTop (own_f2 m 250 av bv cv fl kb kc 1 0 1 li qa qb qc 1 (fl &&& (3 : Int32)) [(.int (1 : Int32))]))
          refine Go.step (fun t k => XS.ifNo X73.here hx rfl (hb hby at_250) rfl ((if0 _ _).trans (feq (by decide : ¬ (1 : Int32) = (0 : Int32))).1) k) ?_
          show Go _ _ _ _ _ _ _ (T73.setTop (own_f2 m 253 av bv cv fl kb kc 1 0 1 li qa qb qc 1 (fl &&& (3 : Int32)) []))
          refine Go.step (fun t k => XS.aload X73.here hx rfl (hb hby at_253) rfl rfl (XS.lload X73.here hx rfl (hb hby at_255) rfl k)) ?_
          show Go _ _ _ _ _ _ _ (T73.setTop (own_f2 m 257 av bv cv fl kb kc 1 0 1 li qa qb qc 1 (fl &&& (3 : Int32)) [(.long kc), (.ref li)]))
          obtain ⟨cq79, kq79, q79a, q79b, q79c⟩ := isOf hZ K73q E_li
          obtain ⟨_, _, ⟨T79, L79, k79, n79⟩, -, X79, ⟨Lc79, hQ79, l79, y79, z79⟩, st79⟩ := X73.virtualBack hx (y := (⟨"com/example/matchstone/matchstone/LevelIndex", "remove", "(J)V"⟩ : MethodName)) (z := (⟨"com/example/matchstone/matchstone/LevelIndex", "remove", "(J)V"⟩ : MethodName)) hown (mvT hZ (hw _ (List.mem_of_getElem? (i := 93) rfl))) (mvT hZ (hw _ (List.mem_of_getElem? (i := 94) rfl))) (notFace_of_selects (args := #[]) (mvT hZ (hw _ (List.mem_of_getElem? (i := 96) rfl)))) (mvT hZ (hw _ (List.mem_of_getElem? (i := 96) rfl))) (mvT hZ (hw _ (List.mem_of_getElem? (i := 95) rfl))) (by decide) (backOf (W := 0) (rm15 l Z a0 hw [] li kc nd kr lr gk gl (2 : Int32) 1 aw hc n0 Zc F_root_li F_last_li F_ahead_li E_li g_li F_keys_nd F_levels_nd F_children_nd F_size_nd F_next_nd F_previous_nd E_nd A_kr R_lr g_nd g_kr g_lr ne_kr_lr (by decide) (by decide) (by decide) (own_I.srt hI) (own_I.inC hI)) hZ (hw _ (List.mem_of_getElem? (i := 97) rfl)) (hw _ (List.mem_of_getElem? (i := 2) rfl)) (by decide) (by decide)) q79a q79c (g := (own_f2 m 257 av bv cv fl kb kc 1 0 1 li qa qb qc 1 (fl &&& (3 : Int32)) [(.long kc), (.ref li)])) rfl (by rw [hml]; rfl) (Steps.refl _) (argsL := [(.long kc)]) (rest := []) (lenOf pd_0_2 rfl) rfl (by show 2 * 0 + _ ≤ _; exact Nat.le_of_eq rfl) (hb hby at_257) (fun _ _ => ⟨rfl, K73q, (by decide : 7 + 0 ≤ _), (by decide : 164 + 0 ≤ _)⟩)
          dsimp only [Pt.U, Pt.locs, Pt.cells, Pt.slots] at X79 l79 y79 z79 st79 hQ79
          subst l79 y79 z79
          obtain ⟨im_79, gk2_79, gl2_79, rfl, N79q, K79q, o79_him, o79_hgi, o79_hgk, o79_hgl, o79_F_root_li, o79_F_last_li, o79_F_ahead_li, o79_E_li, o79_F_keys_nd, o79_F_levels_nd, o79_F_children_nd, o79_F_size_nd, o79_F_next_nd, o79_F_previous_nd, o79_E_nd, o79_A_kr, o79_R_lr⟩ := hQ79
          have N79 := Fr.app N73 N79q
          replace E_li := E_li.keep K79q
          replace E_nd := E_nd.keep K79q
          have Z79 := Nat.le_trans Zc K79q.1
          have F_root_li := o79_F_root_li
          have F_last_li := o79_F_last_li
          have F_ahead_li := o79_F_ahead_li
          have E_li := o79_E_li
          have F_keys_nd := o79_F_keys_nd
          have F_levels_nd := o79_F_levels_nd
          have F_children_nd := o79_F_children_nd
          have F_size_nd := o79_F_size_nd
          have F_next_nd := o79_F_next_nd
          have F_previous_nd := o79_F_previous_nd
          have E_nd := o79_E_nd
          have A_kr := o79_A_kr
          have R_lr := o79_R_lr
          refine Go.step (fun t k => st79.trans k) ?_
          show Go _ _ _ _ _ _ _ (T79.setTop (own_f2 m 260 av bv cv fl kb kc 1 0 1 li qa qb qc 1 (fl &&& (3 : Int32)) []))
          have hI_80 : own_I 1 gk2_79 gl2_79 true false false av kb kc qa qb qc := by rw [o79_hgk, o79_hgl]; exact own_I.remC (n := 1) hI o79_him o79_hgi
          refine Go.step (fun t k => XS.iconst X79.here hx rfl (hb hby at_260) (XS.istore X79.here hx rfl (hb hby at_261) rfl (l' := #[.val (.long av), .second, .val (.long bv), .second, .val (.long cv), .second, .val (.int fl), .val (.long kb), .second, .val (.long kc), .second, .val (.int (1 : Int32)), .val (.int (0 : Int32)), .val (.int (0 : Int32)), .val (.ref li), .val (.ref qa), .val (.ref qb), .val (.ref qc), .val (.int (1 : Int32)), .val (.int (fl &&& (3 : Int32))), .unset, .unset]) rfl k)) ?_
          show Go _ _ _ _ _ _ _ (T79.setTop (own_f2 m 263 av bv cv fl kb kc 1 0 0 li qa qb qc 1 (fl &&& (3 : Int32)) []))
          exact L263_100 _ _ _ kb kc li qa qb qc nd kr lr gk2_79 gl2_79 aw X79 rfl N79 Z79 F_root_li F_last_li F_ahead_li E_li g_li F_keys_nd F_levels_nd F_children_nd F_size_nd F_next_nd F_previous_nd E_nd A_kr R_lr g_nd g_kr g_lr ne_kr_lr hI_80
        · refine Go.step (fun t k => XS.icmpYes X73.here hx rfl (pc0 := 245) (pc' := 263) rfl (hb hby at_245) rfl (feq hc245_78).2 (by decide) (by decide) k) ?_
          show Go _ _ _ _ _ _ _ (T73.setTop (own_f2 m 263 av bv cv fl kb kc 1 0 1 li qa qb qc 1 (fl &&& (3 : Int32)) []))
          exact L263_101 _ _ _ kb kc li qa qb qc nd kr lr gk gl aw X73 K73q N73 Zc F_root_li F_last_li F_ahead_li E_li g_li F_keys_nd F_levels_nd F_children_nd F_size_nd F_next_nd F_previous_nd E_nd A_kr R_lr g_nd g_kr g_lr ne_kr_lr hI
  have L154_110 : ∀ (Tc : State) (hc : Heap) (lc : List Loc) (kb : Int64) (kc : Int64) (li : Addr) (qa : Addr) (qb : Addr) (qc : Addr) (nd : Addr) (kr : Addr) (lr : Addr) (gk : Nat → Int64) (gl : Nat → Value) (aw : Value), (Stand p l e room_1 s m #[(.long av), (.long bv), (.long cv), (.int fl)] below meth c Tc lc 7 164) → (Tc.heap = hc) → (Fr n0 lc) → (n0 ≤ hc.size) → (Fld Z hc li "com/example/matchstone/matchstone/LevelIndex" "root" "Lcom/example/matchstone/matchstone/LevelIndex$Node;" (.ref nd)) → (Fld Z hc li "com/example/matchstone/matchstone/LevelIndex" "last" "Lcom/example/matchstone/matchstone/LevelIndex$Node;" (.ref nd)) → (Fld Z hc li "com/example/matchstone/matchstone/LevelIndex" "ahead" "Lcom/example/matchstone/matchstone/PriceLevel;" aw) → (Exa Z hc li "com/example/matchstone/matchstone/LevelIndex") → (n0 ≤ li) → (Fld Z hc nd "com/example/matchstone/matchstone/LevelIndex$Node" "keys" "[J" (.ref kr)) → (Fld Z hc nd "com/example/matchstone/matchstone/LevelIndex$Node" "levels" "[Lcom/example/matchstone/matchstone/PriceLevel;" (.ref lr)) → (Fld Z hc nd "com/example/matchstone/matchstone/LevelIndex$Node" "children" "[Lcom/example/matchstone/matchstone/LevelIndex$Node;" .null) → (Fld Z hc nd "com/example/matchstone/matchstone/LevelIndex$Node" "size" "I" (.int (2 : Int32))) → (Fld Z hc nd "com/example/matchstone/matchstone/LevelIndex$Node" "next" "Lcom/example/matchstone/matchstone/LevelIndex$Node;" .null) → (Fld Z hc nd "com/example/matchstone/matchstone/LevelIndex$Node" "previous" "Lcom/example/matchstone/matchstone/LevelIndex$Node;" .null) → (Exa Z hc nd "com/example/matchstone/matchstone/LevelIndex$Node") → (AryJ Z hc kr 65 gk) → (RAr Z hc lr "com/example/matchstone/matchstone/PriceLevel" 65 gl) → (n0 ≤ nd) → (n0 ≤ kr) → (n0 ≤ lr) → (kr ≠ lr) → (own_I 2 gk gl true true false av kb kc qa qb qc) → Go p e below s (Q0 Z av bv cv fl h0 n0) 32 704 (Tc.setTop (own_f0 m 154 av bv cv fl kb kc 1 1 0 li qa qb qc [])) := by
    intro Tc hc lc kb kc li qa qb qc nd kr lr gk gl aw Xc ec Nc Zc F_root_li F_last_li F_ahead_li E_li g_li F_keys_nd F_levels_nd F_children_nd F_size_nd F_next_nd F_previous_nd E_nd A_kr R_lr g_nd g_kr g_lr ne_kr_lr hI
    show Go _ _ _ _ _ _ _ (Tc.setTop (own_f0 m 154 av bv cv fl kb kc 1 1 0 li qa qb qc []))
    refine Go.step (fun t k => XS.aload Xc.here hx rfl (hb hby at_154) rfl rfl k) ?_
    show Go _ _ _ _ _ _ _ (Tc.setTop (own_f0 m 156 av bv cv fl kb kc 1 1 0 li qa qb qc [(.ref li)]))
    obtain ⟨cq81, kq81, q81a, q81b, q81c⟩ := isOf hZ ec E_li
    obtain ⟨_, _, ⟨T81, L81, k81, n81⟩, -, X81, ⟨Lc81, hQ81, l81, y81, z81⟩, st81⟩ := Xc.virtualBack hx (y := (⟨"com/example/matchstone/matchstone/LevelIndex", "best", "()Lcom/example/matchstone/matchstone/PriceLevel;"⟩ : MethodName)) (z := (⟨"com/example/matchstone/matchstone/LevelIndex", "best", "()Lcom/example/matchstone/matchstone/PriceLevel;"⟩ : MethodName)) hown (mvT hZ (hw _ (List.mem_of_getElem? (i := 84) rfl))) (mvT hZ (hw _ (List.mem_of_getElem? (i := 85) rfl))) (notFace_of_selects (args := #[]) (mvT hZ (hw _ (List.mem_of_getElem? (i := 87) rfl)))) (mvT hZ (hw _ (List.mem_of_getElem? (i := 87) rfl))) (mvT hZ (hw _ (List.mem_of_getElem? (i := 86) rfl))) (by decide) (backOf (W := 0) (rm13 l Z a0 hw [] li nd lr gl (2 : Int32) 1 hc n0 Zc F_last_li F_levels_nd F_size_nd R_lr (by decide) (by decide)) hZ (hw _ (List.mem_of_getElem? (i := 88) rfl)) (hw _ (List.mem_of_getElem? (i := 2) rfl)) (by decide) (by decide)) q81a q81c (g := (own_f0 m 156 av bv cv fl kb kc 1 1 0 li qa qb qc [(.ref li)])) rfl (by rw [hml]; rfl) (Steps.refl _) (argsL := []) (rest := []) (lenOf pd_0_0 rfl) rfl (by show 2 * 0 + _ ≤ _; exact Nat.le_of_eq rfl) (hb hby at_156) (fun _ _ => ⟨rfl, ec, (by decide : 7 + 0 ≤ _), (by decide : 164 + 0 ≤ _)⟩)
    dsimp only [Pt.U, Pt.locs, Pt.cells, Pt.slots] at X81 l81 y81 z81 st81 hQ81
    subst l81 y81 z81
    obtain ⟨rfl, N81q, K81q⟩ := hQ81
    have N81 := Fr.app Nc N81q
    refine Go.step (fun t k => st81.trans k) ?_
    show Go _ _ _ _ _ _ _ (T81.setTop (own_f0 m 159 av bv cv fl kb kc 1 1 0 li qa qb qc [(gl 1)]))
    refine Go.step (fun t k => XS.iload X81.here hx rfl (hb hby at_159) rfl (XS.lloadN X81.here hx rfl (hb hby at_161) rfl (XS.aload X81.here hx rfl (hb hby at_162) rfl rfl (XS.iload X81.here hx rfl (hb hby at_164) rfl (XS.lload X81.here hx rfl (hb hby at_166) rfl (XS.aload X81.here hx rfl (hb hby at_168) rfl rfl (XS.iload X81.here hx rfl (hb hby at_170) rfl (XS.lload X81.here hx rfl (hb hby at_172) rfl (XS.aload X81.here hx rfl (hb hby at_174) rfl rfl k))))))))) ?_
    show Go _ _ _ _ _ _ _ (T81.setTop (own_f0 m 176 av bv cv fl kb kc 1 1 0 li qa qb qc [(.ref qc), (.long kc), (.int (0 : Int32)), (.ref qb), (.long kb), (.int (1 : Int32)), (.ref qa), (.long av), (.int (1 : Int32)), (gl 1)]))
    obtain ⟨_, _, ⟨T82, L82, k82, n82⟩, -, X82, ⟨Lc82, hQ82, l82, y82, z82⟩, st82⟩ := Jvm.LawKit.callS X81 hx (y := (⟨"com/example/matchstone/matchstone/LevelIndexBestPinLaw", "expected", "(ZJLcom/example/matchstone/matchstone/PriceLevel;ZJLcom/example/matchstone/matchstone/PriceLevel;ZJLcom/example/matchstone/matchstone/PriceLevel;)Lcom/example/matchstone/matchstone/PriceLevel;"⟩ : MethodName)) hown (mvT hZ (hw _ (List.mem_of_getElem? (i := 89) rfl))) (mvT hZ (hw _ (List.mem_of_getElem? (i := 90) rfl))) (mvT hZ (hw _ (List.mem_of_getElem? (i := 91) rfl))) (mvT hZ (hw _ (List.mem_of_getElem? (i := 92) rfl))) (by decide) (backOf (W := 1) (rm14 l Z a0 hw [] (1 : Int32) av qa (1 : Int32) kb qb (0 : Int32) kc qc true true false hc n0 Zc (Or.inr ⟨rfl, rfl⟩) (Or.inr ⟨rfl, rfl⟩) (Or.inl ⟨rfl, rfl⟩)) hZ (hw _ (List.mem_of_getElem? (i := 92) rfl)) (hw _ (List.mem_of_getElem? (i := 91) rfl)) (by decide) (by decide)) (g := (own_f0 m 176 av bv cv fl kb kc 1 1 0 li qa qb qc [(.ref qc), (.long kc), (.int (0 : Int32)), (.ref qb), (.long kb), (.int (1 : Int32)), (.ref qa), (.long av), (.int (1 : Int32)), (gl 1)])) rfl (by rw [hml]; rfl) (argsL := [(.int (1 : Int32)), (.long av), (.ref qa), (.int (1 : Int32)), (.long kb), (.ref qb), (.int (0 : Int32)), (.long kc), (.ref qc)]) (rest := [(gl 1)]) (lenOf pd_0_1 rfl) rfl (by show 2 * 0 + _ ≤ _; exact own_w1 (RAr.ref R_lr (by decide))) (hb hby at_176) (fun _ _ => ⟨rfl, K81q, (by decide : 7 + 0 ≤ _), (by decide : 164 + 0 ≤ _)⟩)
    dsimp only [Pt.U, Pt.locs, Pt.cells, Pt.slots] at X82 l82 y82 z82 st82 hQ82
    subst l82 y82 z82
    obtain ⟨vv_82, rfl, N82q, K82q, o82_hvr, o82_hG⟩ := hQ82
    have N82 := Fr.app N81 N82q
    refine Go.step st82 ?_
    show Go _ _ _ _ _ _ _ (T82.setTop (own_f0 m 179 av bv cv fl kb kc 1 1 0 li qa qb qc [vv_82, (gl 1)]))
    refine Go.step (fun t k => Jvm.RoadKit.acmp (g := (own_f0 m 179 av bv cv fl kb kc 1 1 0 li qa qb qc [vv_82, (gl 1)])) X82 hx rfl (RAr.ref R_lr (by decide)) o82_hvr (pc0 := 179) (pc' := 182) (same := true) rfl (hb hby at_179) rfl (decide_eq_true (own_X1 (n := 1) hI o82_hG (by decide))) (by decide) (by decide) k) ?_
    show Go _ _ _ _ _ _ _ (T82.setTop (own_f0 m 182 av bv cv fl kb kc 1 1 0 li qa qb qc []))
    refine Go.step (fun t k => XS.iconst X82.here hx rfl (hb hby at_182) k) ?_
    show Go _ _ _ _ _ _ _ (T82.setTop (own_f0 m 183 av bv cv fl kb kc 1 1 0 li qa qb qc [(.int (1 : Int32))]))
    refine Go.step (fun t k => XS.goto X82.here hx rfl (pc0 := 183) (pc' := 187) rfl (hb hby at_183) (by decide) (by decide) (XS.istore X82.here hx rfl (hb hby at_187) rfl (l' := #[.val (.long av), .second, .val (.long bv), .second, .val (.long cv), .second, .val (.int fl), .val (.long kb), .second, .val (.long kc), .second, .val (.int (1 : Int32)), .val (.int (1 : Int32)), .val (.int (0 : Int32)), .val (.ref li), .val (.ref qa), .val (.ref qb), .val (.ref qc), .val (.int (1 : Int32)), .unset, .unset, .unset]) rfl (XS.iload X82.here hx rfl (hb hby at_189) rfl (XS.iconst X82.here hx rfl (hb hby at_191) (XS.iand X82.here hx rfl (hb hby at_192) rfl (XS.istore X82.here hx rfl (hb hby at_193) rfl (l' := #[.val (.long av), .second, .val (.long bv), .second, .val (.long cv), .second, .val (.int fl), .val (.long kb), .second, .val (.long kc), .second, .val (.int (1 : Int32)), .val (.int (1 : Int32)), .val (.int (0 : Int32)), .val (.ref li), .val (.ref qa), .val (.ref qb), .val (.ref qc), .val (.int (1 : Int32)), .val (.int (fl &&& (3 : Int32))), .unset, .unset]) rfl (XS.iload X82.here hx rfl (hb hby at_195) rfl (XS.iconst X82.here hx rfl (hb hby at_197) k)))))))) ?_
    show Go _ _ _ _ _ _ _ (T82.setTop (own_f2 m 198 av bv cv fl kb kc 1 1 0 li qa qb qc 1 (fl &&& (3 : Int32)) [(.int (1 : Int32)), (.int (fl &&& (3 : Int32)))]))
    by_cases hc198_83 : (fl &&& (3 : Int32)) = (1 : Int32)
    · refine Go.step (fun t k => XS.icmpNo X82.here hx rfl (hb hby at_198) rfl (teq hc198_83).2 k) ?_
      show Go _ _ _ _ _ _ _ (T82.setTop (own_f2 m 201 av bv cv fl kb kc 1 1 0 li qa qb qc 1 (fl &&& (3 : Int32)) []))
      refine Go.step (fun t k => XS.iload X82.here hx rfl (hb hby at_201) rfl k) ?_
      show Go _ _ _ _ _ _ _ (T82.setTop (own_f2 m 203 av bv cv fl kb kc 1 1 0 li qa qb qc 1 (fl &&& (3 : Int32)) [(.int (1 : Int32))]))
      refine Go.step (fun t k => XS.ifNo X82.here hx rfl (hb hby at_203) rfl ((if0 _ _).trans (feq (by decide : ¬ (1 : Int32) = (0 : Int32))).1) k) ?_
      show Go _ _ _ _ _ _ _ (T82.setTop (own_f2 m 206 av bv cv fl kb kc 1 1 0 li qa qb qc 1 (fl &&& (3 : Int32)) []))
      refine Go.step (fun t k => XS.aload X82.here hx rfl (hb hby at_206) rfl rfl (XS.lloadN X82.here hx rfl (hb hby at_208) rfl k)) ?_
      show Go _ _ _ _ _ _ _ (T82.setTop (own_f2 m 209 av bv cv fl kb kc 1 1 0 li qa qb qc 1 (fl &&& (3 : Int32)) [(.long av), (.ref li)]))
      obtain ⟨cq84, kq84, q84a, q84b, q84c⟩ := isOf hZ K82q E_li
      obtain ⟨_, _, ⟨T84, L84, k84, n84⟩, -, X84, ⟨Lc84, hQ84, l84, y84, z84⟩, st84⟩ := X82.virtualBack hx (y := (⟨"com/example/matchstone/matchstone/LevelIndex", "remove", "(J)V"⟩ : MethodName)) (z := (⟨"com/example/matchstone/matchstone/LevelIndex", "remove", "(J)V"⟩ : MethodName)) hown (mvT hZ (hw _ (List.mem_of_getElem? (i := 93) rfl))) (mvT hZ (hw _ (List.mem_of_getElem? (i := 94) rfl))) (notFace_of_selects (args := #[]) (mvT hZ (hw _ (List.mem_of_getElem? (i := 96) rfl)))) (mvT hZ (hw _ (List.mem_of_getElem? (i := 96) rfl))) (mvT hZ (hw _ (List.mem_of_getElem? (i := 95) rfl))) (by decide) (backOf (W := 0) (rm15 l Z a0 hw [] li av nd kr lr gk gl (2 : Int32) 1 aw hc n0 Zc F_root_li F_last_li F_ahead_li E_li g_li F_keys_nd F_levels_nd F_children_nd F_size_nd F_next_nd F_previous_nd E_nd A_kr R_lr g_nd g_kr g_lr ne_kr_lr (by decide) (by decide) (by decide) (own_I.srt hI) (own_I.inA hI)) hZ (hw _ (List.mem_of_getElem? (i := 97) rfl)) (hw _ (List.mem_of_getElem? (i := 2) rfl)) (by decide) (by decide)) q84a q84c (g := (own_f2 m 209 av bv cv fl kb kc 1 1 0 li qa qb qc 1 (fl &&& (3 : Int32)) [(.long av), (.ref li)])) rfl (by rw [hml]; rfl) (Steps.refl _) (argsL := [(.long av)]) (rest := []) (lenOf pd_0_2 rfl) rfl (by show 2 * 0 + _ ≤ _; exact Nat.le_of_eq rfl) (hb hby at_209) (fun _ _ => ⟨rfl, K82q, (by decide : 7 + 0 ≤ _), (by decide : 164 + 0 ≤ _)⟩)
      dsimp only [Pt.U, Pt.locs, Pt.cells, Pt.slots] at X84 l84 y84 z84 st84 hQ84
      subst l84 y84 z84
      obtain ⟨im_84, gk2_84, gl2_84, rfl, N84q, K84q, o84_him, o84_hgi, o84_hgk, o84_hgl, o84_F_root_li, o84_F_last_li, o84_F_ahead_li, o84_E_li, o84_F_keys_nd, o84_F_levels_nd, o84_F_children_nd, o84_F_size_nd, o84_F_next_nd, o84_F_previous_nd, o84_E_nd, o84_A_kr, o84_R_lr⟩ := hQ84
      have N84 := Fr.app N82 N84q
      replace E_li := E_li.keep K84q
      replace E_nd := E_nd.keep K84q
      have Z84 := Nat.le_trans Zc K84q.1
      have F_root_li := o84_F_root_li
      have F_last_li := o84_F_last_li
      have F_ahead_li := o84_F_ahead_li
      have E_li := o84_E_li
      have F_keys_nd := o84_F_keys_nd
      have F_levels_nd := o84_F_levels_nd
      have F_children_nd := o84_F_children_nd
      have F_size_nd := o84_F_size_nd
      have F_next_nd := o84_F_next_nd
      have F_previous_nd := o84_F_previous_nd
      have E_nd := o84_E_nd
      have A_kr := o84_A_kr
      have R_lr := o84_R_lr
      refine Go.step (fun t k => st84.trans k) ?_
      show Go _ _ _ _ _ _ _ (T84.setTop (own_f2 m 212 av bv cv fl kb kc 1 1 0 li qa qb qc 1 (fl &&& (3 : Int32)) []))
      have hI_85 : own_I 1 gk2_84 gl2_84 false true false av kb kc qa qb qc := by rw [o84_hgk, o84_hgl]; exact own_I.remA (n := 1) hI o84_him o84_hgi
      refine Go.step (fun t k => XS.iconst X84.here hx rfl (hb hby at_212) (XS.istore X84.here hx rfl (hb hby at_213) rfl (l' := #[.val (.long av), .second, .val (.long bv), .second, .val (.long cv), .second, .val (.int fl), .val (.long kb), .second, .val (.long kc), .second, .val (.int (0 : Int32)), .val (.int (1 : Int32)), .val (.int (0 : Int32)), .val (.ref li), .val (.ref qa), .val (.ref qb), .val (.ref qc), .val (.int (1 : Int32)), .val (.int (fl &&& (3 : Int32))), .unset, .unset]) rfl k)) ?_
      show Go _ _ _ _ _ _ _ (T84.setTop (own_f2 m 215 av bv cv fl kb kc 0 1 0 li qa qb qc 1 (fl &&& (3 : Int32)) []))
      refine Go.step (fun t k => XS.goto X84.here hx rfl (pc0 := 215) (pc' := 263) rfl (hb hby at_215) (by decide) (by decide) k) ?_
      show Go _ _ _ _ _ _ _ (T84.setTop (own_f2 m 263 av bv cv fl kb kc 0 1 0 li qa qb qc 1 (fl &&& (3 : Int32)) []))
      exact L263_010 _ _ _ kb kc li qa qb qc nd kr lr gk2_84 gl2_84 aw X84 rfl N84 Z84 F_root_li F_last_li F_ahead_li E_li g_li F_keys_nd F_levels_nd F_children_nd F_size_nd F_next_nd F_previous_nd E_nd A_kr R_lr g_nd g_kr g_lr ne_kr_lr hI_85
    · refine Go.step (fun t k => XS.icmpYes X82.here hx rfl (pc0 := 198) (pc' := 218) rfl (hb hby at_198) rfl (feq hc198_83).2 (by decide) (by decide) k) ?_
      show Go _ _ _ _ _ _ _ (T82.setTop (own_f2 m 218 av bv cv fl kb kc 1 1 0 li qa qb qc 1 (fl &&& (3 : Int32)) []))
      refine Go.step (fun t k => XS.iload X82.here hx rfl (hb hby at_218) rfl (XS.iconst X82.here hx rfl (hb hby at_220) k)) ?_
      show Go _ _ _ _ _ _ _ (T82.setTop (own_f2 m 221 av bv cv fl kb kc 1 1 0 li qa qb qc 1 (fl &&& (3 : Int32)) [(.int (2 : Int32)), (.int (fl &&& (3 : Int32)))]))
      by_cases hc221_86 : (fl &&& (3 : Int32)) = (2 : Int32)
      · refine Go.step (fun t k => XS.icmpNo X82.here hx rfl (hb hby at_221) rfl (teq hc221_86).2 k) ?_
        show Go _ _ _ _ _ _ _ (T82.setTop (own_f2 m 224 av bv cv fl kb kc 1 1 0 li qa qb qc 1 (fl &&& (3 : Int32)) []))
        refine Go.step (fun t k => XS.iload X82.here hx rfl (hb hby at_224) rfl k) ?_
        show Go _ _ _ _ _ _ _ (T82.setTop (own_f2 m 226 av bv cv fl kb kc 1 1 0 li qa qb qc 1 (fl &&& (3 : Int32)) [(.int (1 : Int32))]))
        refine Go.step (fun t k => XS.ifNo X82.here hx rfl (hb hby at_226) rfl ((if0 _ _).trans (feq (by decide : ¬ (1 : Int32) = (0 : Int32))).1) k) ?_
        show Go _ _ _ _ _ _ _ (T82.setTop (own_f2 m 229 av bv cv fl kb kc 1 1 0 li qa qb qc 1 (fl &&& (3 : Int32)) []))
        refine Go.step (fun t k => XS.aload X82.here hx rfl (hb hby at_229) rfl rfl (XS.lload X82.here hx rfl (hb hby at_231) rfl k)) ?_
        show Go _ _ _ _ _ _ _ (T82.setTop (own_f2 m 233 av bv cv fl kb kc 1 1 0 li qa qb qc 1 (fl &&& (3 : Int32)) [(.long kb), (.ref li)]))
        obtain ⟨cq87, kq87, q87a, q87b, q87c⟩ := isOf hZ K82q E_li
        obtain ⟨_, _, ⟨T87, L87, k87, n87⟩, -, X87, ⟨Lc87, hQ87, l87, y87, z87⟩, st87⟩ := X82.virtualBack hx (y := (⟨"com/example/matchstone/matchstone/LevelIndex", "remove", "(J)V"⟩ : MethodName)) (z := (⟨"com/example/matchstone/matchstone/LevelIndex", "remove", "(J)V"⟩ : MethodName)) hown (mvT hZ (hw _ (List.mem_of_getElem? (i := 93) rfl))) (mvT hZ (hw _ (List.mem_of_getElem? (i := 94) rfl))) (notFace_of_selects (args := #[]) (mvT hZ (hw _ (List.mem_of_getElem? (i := 96) rfl)))) (mvT hZ (hw _ (List.mem_of_getElem? (i := 96) rfl))) (mvT hZ (hw _ (List.mem_of_getElem? (i := 95) rfl))) (by decide) (backOf (W := 0) (rm15 l Z a0 hw [] li kb nd kr lr gk gl (2 : Int32) 1 aw hc n0 Zc F_root_li F_last_li F_ahead_li E_li g_li F_keys_nd F_levels_nd F_children_nd F_size_nd F_next_nd F_previous_nd E_nd A_kr R_lr g_nd g_kr g_lr ne_kr_lr (by decide) (by decide) (by decide) (own_I.srt hI) (own_I.inB hI)) hZ (hw _ (List.mem_of_getElem? (i := 97) rfl)) (hw _ (List.mem_of_getElem? (i := 2) rfl)) (by decide) (by decide)) q87a q87c (g := (own_f2 m 233 av bv cv fl kb kc 1 1 0 li qa qb qc 1 (fl &&& (3 : Int32)) [(.long kb), (.ref li)])) rfl (by rw [hml]; rfl) (Steps.refl _) (argsL := [(.long kb)]) (rest := []) (lenOf pd_0_2 rfl) rfl (by show 2 * 0 + _ ≤ _; exact Nat.le_of_eq rfl) (hb hby at_233) (fun _ _ => ⟨rfl, K82q, (by decide : 7 + 0 ≤ _), (by decide : 164 + 0 ≤ _)⟩)
        dsimp only [Pt.U, Pt.locs, Pt.cells, Pt.slots] at X87 l87 y87 z87 st87 hQ87
        subst l87 y87 z87
        obtain ⟨im_87, gk2_87, gl2_87, rfl, N87q, K87q, o87_him, o87_hgi, o87_hgk, o87_hgl, o87_F_root_li, o87_F_last_li, o87_F_ahead_li, o87_E_li, o87_F_keys_nd, o87_F_levels_nd, o87_F_children_nd, o87_F_size_nd, o87_F_next_nd, o87_F_previous_nd, o87_E_nd, o87_A_kr, o87_R_lr⟩ := hQ87
        have N87 := Fr.app N82 N87q
        replace E_li := E_li.keep K87q
        replace E_nd := E_nd.keep K87q
        have Z87 := Nat.le_trans Zc K87q.1
        have F_root_li := o87_F_root_li
        have F_last_li := o87_F_last_li
        have F_ahead_li := o87_F_ahead_li
        have E_li := o87_E_li
        have F_keys_nd := o87_F_keys_nd
        have F_levels_nd := o87_F_levels_nd
        have F_children_nd := o87_F_children_nd
        have F_size_nd := o87_F_size_nd
        have F_next_nd := o87_F_next_nd
        have F_previous_nd := o87_F_previous_nd
        have E_nd := o87_E_nd
        have A_kr := o87_A_kr
        have R_lr := o87_R_lr
        refine Go.step (fun t k => st87.trans k) ?_
        show Go _ _ _ _ _ _ _ (T87.setTop (own_f2 m 236 av bv cv fl kb kc 1 1 0 li qa qb qc 1 (fl &&& (3 : Int32)) []))
        have hI_88 : own_I 1 gk2_87 gl2_87 true false false av kb kc qa qb qc := by rw [o87_hgk, o87_hgl]; exact own_I.remB (n := 1) hI o87_him o87_hgi
        refine Go.step (fun t k => XS.iconst X87.here hx rfl (hb hby at_236) (XS.istore X87.here hx rfl (hb hby at_237) rfl (l' := #[.val (.long av), .second, .val (.long bv), .second, .val (.long cv), .second, .val (.int fl), .val (.long kb), .second, .val (.long kc), .second, .val (.int (1 : Int32)), .val (.int (0 : Int32)), .val (.int (0 : Int32)), .val (.ref li), .val (.ref qa), .val (.ref qb), .val (.ref qc), .val (.int (1 : Int32)), .val (.int (fl &&& (3 : Int32))), .unset, .unset]) rfl k)) ?_
        show Go _ _ _ _ _ _ _ (T87.setTop (own_f2 m 239 av bv cv fl kb kc 1 0 0 li qa qb qc 1 (fl &&& (3 : Int32)) []))
        refine Go.step (fun t k => XS.goto X87.here hx rfl (pc0 := 239) (pc' := 263) rfl (hb hby at_239) (by decide) (by decide) k) ?_
        show Go _ _ _ _ _ _ _ (T87.setTop (own_f2 m 263 av bv cv fl kb kc 1 0 0 li qa qb qc 1 (fl &&& (3 : Int32)) []))
        exact L263_100 _ _ _ kb kc li qa qb qc nd kr lr gk2_87 gl2_87 aw X87 rfl N87 Z87 F_root_li F_last_li F_ahead_li E_li g_li F_keys_nd F_levels_nd F_children_nd F_size_nd F_next_nd F_previous_nd E_nd A_kr R_lr g_nd g_kr g_lr ne_kr_lr hI_88
      · refine Go.step (fun t k => XS.icmpYes X82.here hx rfl (pc0 := 221) (pc' := 242) rfl (hb hby at_221) rfl (feq hc221_86).2 (by decide) (by decide) k) ?_
        show Go _ _ _ _ _ _ _ (T82.setTop (own_f2 m 242 av bv cv fl kb kc 1 1 0 li qa qb qc 1 (fl &&& (3 : Int32)) []))
        refine Go.step (fun t k => XS.iload X82.here hx rfl (hb hby at_242) rfl (XS.iconst X82.here hx rfl (hb hby at_244) k)) ?_
        show Go _ _ _ _ _ _ _ (T82.setTop (own_f2 m 245 av bv cv fl kb kc 1 1 0 li qa qb qc 1 (fl &&& (3 : Int32)) [(.int (3 : Int32)), (.int (fl &&& (3 : Int32)))]))
        by_cases hc245_89 : (fl &&& (3 : Int32)) = (3 : Int32)
        · refine Go.step (fun t k => XS.icmpNo X82.here hx rfl (hb hby at_245) rfl (teq hc245_89).2 k) ?_
          show Go _ _ _ _ _ _ _ (T82.setTop (own_f2 m 248 av bv cv fl kb kc 1 1 0 li qa qb qc 1 (fl &&& (3 : Int32)) []))
          refine Go.step (fun t k => XS.iload X82.here hx rfl (hb hby at_248) rfl k) ?_
          show Go _ _ _ _ _ _ _ (T82.setTop (own_f2 m 250 av bv cv fl kb kc 1 1 0 li qa qb qc 1 (fl &&& (3 : Int32)) [(.int (0 : Int32))]))
          refine Go.step (fun t k => XS.ifYes X82.here hx rfl (pc0 := 250) (pc' := 263) rfl (hb hby at_250) rfl ((if0 _ _).trans (teq (by decide : (0 : Int32) = (0 : Int32))).1) (by decide) (by decide) k) ?_
          show Go _ _ _ _ _ _ _ (T82.setTop (own_f2 m 263 av bv cv fl kb kc 1 1 0 li qa qb qc 1 (fl &&& (3 : Int32)) []))
          exact L263_110 _ _ _ kb kc li qa qb qc nd kr lr gk gl aw X82 K82q N82 Zc F_root_li F_last_li F_ahead_li E_li g_li F_keys_nd F_levels_nd F_children_nd F_size_nd F_next_nd F_previous_nd E_nd A_kr R_lr g_nd g_kr g_lr ne_kr_lr hI
        · refine Go.step (fun t k => XS.icmpYes X82.here hx rfl (pc0 := 245) (pc' := 263) rfl (hb hby at_245) rfl (feq hc245_89).2 (by decide) (by decide) k) ?_
          show Go _ _ _ _ _ _ _ (T82.setTop (own_f2 m 263 av bv cv fl kb kc 1 1 0 li qa qb qc 1 (fl &&& (3 : Int32)) []))
          exact L263_110 _ _ _ kb kc li qa qb qc nd kr lr gk gl aw X82 K82q N82 Zc F_root_li F_last_li F_ahead_li E_li g_li F_keys_nd F_levels_nd F_children_nd F_size_nd F_next_nd F_previous_nd E_nd A_kr R_lr g_nd g_kr g_lr ne_kr_lr hI
  have L154_111 : ∀ (Tc : State) (hc : Heap) (lc : List Loc) (kb : Int64) (kc : Int64) (li : Addr) (qa : Addr) (qb : Addr) (qc : Addr) (nd : Addr) (kr : Addr) (lr : Addr) (gk : Nat → Int64) (gl : Nat → Value) (aw : Value), (Stand p l e room_1 s m #[(.long av), (.long bv), (.long cv), (.int fl)] below meth c Tc lc 7 164) → (Tc.heap = hc) → (Fr n0 lc) → (n0 ≤ hc.size) → (Fld Z hc li "com/example/matchstone/matchstone/LevelIndex" "root" "Lcom/example/matchstone/matchstone/LevelIndex$Node;" (.ref nd)) → (Fld Z hc li "com/example/matchstone/matchstone/LevelIndex" "last" "Lcom/example/matchstone/matchstone/LevelIndex$Node;" (.ref nd)) → (Fld Z hc li "com/example/matchstone/matchstone/LevelIndex" "ahead" "Lcom/example/matchstone/matchstone/PriceLevel;" aw) → (Exa Z hc li "com/example/matchstone/matchstone/LevelIndex") → (n0 ≤ li) → (Fld Z hc nd "com/example/matchstone/matchstone/LevelIndex$Node" "keys" "[J" (.ref kr)) → (Fld Z hc nd "com/example/matchstone/matchstone/LevelIndex$Node" "levels" "[Lcom/example/matchstone/matchstone/PriceLevel;" (.ref lr)) → (Fld Z hc nd "com/example/matchstone/matchstone/LevelIndex$Node" "children" "[Lcom/example/matchstone/matchstone/LevelIndex$Node;" .null) → (Fld Z hc nd "com/example/matchstone/matchstone/LevelIndex$Node" "size" "I" (.int (3 : Int32))) → (Fld Z hc nd "com/example/matchstone/matchstone/LevelIndex$Node" "next" "Lcom/example/matchstone/matchstone/LevelIndex$Node;" .null) → (Fld Z hc nd "com/example/matchstone/matchstone/LevelIndex$Node" "previous" "Lcom/example/matchstone/matchstone/LevelIndex$Node;" .null) → (Exa Z hc nd "com/example/matchstone/matchstone/LevelIndex$Node") → (AryJ Z hc kr 65 gk) → (RAr Z hc lr "com/example/matchstone/matchstone/PriceLevel" 65 gl) → (n0 ≤ nd) → (n0 ≤ kr) → (n0 ≤ lr) → (kr ≠ lr) → (own_I 3 gk gl true true true av kb kc qa qb qc) → Go p e below s (Q0 Z av bv cv fl h0 n0) 32 704 (Tc.setTop (own_f0 m 154 av bv cv fl kb kc 1 1 1 li qa qb qc [])) := by
    intro Tc hc lc kb kc li qa qb qc nd kr lr gk gl aw Xc ec Nc Zc F_root_li F_last_li F_ahead_li E_li g_li F_keys_nd F_levels_nd F_children_nd F_size_nd F_next_nd F_previous_nd E_nd A_kr R_lr g_nd g_kr g_lr ne_kr_lr hI
    show Go _ _ _ _ _ _ _ (Tc.setTop (own_f0 m 154 av bv cv fl kb kc 1 1 1 li qa qb qc []))
    refine Go.step (fun t k => XS.aload Xc.here hx rfl (hb hby at_154) rfl rfl k) ?_
    show Go _ _ _ _ _ _ _ (Tc.setTop (own_f0 m 156 av bv cv fl kb kc 1 1 1 li qa qb qc [(.ref li)]))
    obtain ⟨cq90, kq90, q90a, q90b, q90c⟩ := isOf hZ ec E_li
    obtain ⟨_, _, ⟨T90, L90, k90, n90⟩, -, X90, ⟨Lc90, hQ90, l90, y90, z90⟩, st90⟩ := Xc.virtualBack hx (y := (⟨"com/example/matchstone/matchstone/LevelIndex", "best", "()Lcom/example/matchstone/matchstone/PriceLevel;"⟩ : MethodName)) (z := (⟨"com/example/matchstone/matchstone/LevelIndex", "best", "()Lcom/example/matchstone/matchstone/PriceLevel;"⟩ : MethodName)) hown (mvT hZ (hw _ (List.mem_of_getElem? (i := 84) rfl))) (mvT hZ (hw _ (List.mem_of_getElem? (i := 85) rfl))) (notFace_of_selects (args := #[]) (mvT hZ (hw _ (List.mem_of_getElem? (i := 87) rfl)))) (mvT hZ (hw _ (List.mem_of_getElem? (i := 87) rfl))) (mvT hZ (hw _ (List.mem_of_getElem? (i := 86) rfl))) (by decide) (backOf (W := 0) (rm13 l Z a0 hw [] li nd lr gl (3 : Int32) 2 hc n0 Zc F_last_li F_levels_nd F_size_nd R_lr (by decide) (by decide)) hZ (hw _ (List.mem_of_getElem? (i := 88) rfl)) (hw _ (List.mem_of_getElem? (i := 2) rfl)) (by decide) (by decide)) q90a q90c (g := (own_f0 m 156 av bv cv fl kb kc 1 1 1 li qa qb qc [(.ref li)])) rfl (by rw [hml]; rfl) (Steps.refl _) (argsL := []) (rest := []) (lenOf pd_0_0 rfl) rfl (by show 2 * 0 + _ ≤ _; exact Nat.le_of_eq rfl) (hb hby at_156) (fun _ _ => ⟨rfl, ec, (by decide : 7 + 0 ≤ _), (by decide : 164 + 0 ≤ _)⟩)
    dsimp only [Pt.U, Pt.locs, Pt.cells, Pt.slots] at X90 l90 y90 z90 st90 hQ90
    subst l90 y90 z90
    obtain ⟨rfl, N90q, K90q⟩ := hQ90
    have N90 := Fr.app Nc N90q
    refine Go.step (fun t k => st90.trans k) ?_
    show Go _ _ _ _ _ _ _ (T90.setTop (own_f0 m 159 av bv cv fl kb kc 1 1 1 li qa qb qc [(gl 2)]))
    refine Go.step (fun t k => XS.iload X90.here hx rfl (hb hby at_159) rfl (XS.lloadN X90.here hx rfl (hb hby at_161) rfl (XS.aload X90.here hx rfl (hb hby at_162) rfl rfl (XS.iload X90.here hx rfl (hb hby at_164) rfl (XS.lload X90.here hx rfl (hb hby at_166) rfl (XS.aload X90.here hx rfl (hb hby at_168) rfl rfl (XS.iload X90.here hx rfl (hb hby at_170) rfl (XS.lload X90.here hx rfl (hb hby at_172) rfl (XS.aload X90.here hx rfl (hb hby at_174) rfl rfl k))))))))) ?_
    show Go _ _ _ _ _ _ _ (T90.setTop (own_f0 m 176 av bv cv fl kb kc 1 1 1 li qa qb qc [(.ref qc), (.long kc), (.int (1 : Int32)), (.ref qb), (.long kb), (.int (1 : Int32)), (.ref qa), (.long av), (.int (1 : Int32)), (gl 2)]))
    obtain ⟨_, _, ⟨T91, L91, k91, n91⟩, -, X91, ⟨Lc91, hQ91, l91, y91, z91⟩, st91⟩ := Jvm.LawKit.callS X90 hx (y := (⟨"com/example/matchstone/matchstone/LevelIndexBestPinLaw", "expected", "(ZJLcom/example/matchstone/matchstone/PriceLevel;ZJLcom/example/matchstone/matchstone/PriceLevel;ZJLcom/example/matchstone/matchstone/PriceLevel;)Lcom/example/matchstone/matchstone/PriceLevel;"⟩ : MethodName)) hown (mvT hZ (hw _ (List.mem_of_getElem? (i := 89) rfl))) (mvT hZ (hw _ (List.mem_of_getElem? (i := 90) rfl))) (mvT hZ (hw _ (List.mem_of_getElem? (i := 91) rfl))) (mvT hZ (hw _ (List.mem_of_getElem? (i := 92) rfl))) (by decide) (backOf (W := 1) (rm14 l Z a0 hw [] (1 : Int32) av qa (1 : Int32) kb qb (1 : Int32) kc qc true true true hc n0 Zc (Or.inr ⟨rfl, rfl⟩) (Or.inr ⟨rfl, rfl⟩) (Or.inr ⟨rfl, rfl⟩)) hZ (hw _ (List.mem_of_getElem? (i := 92) rfl)) (hw _ (List.mem_of_getElem? (i := 91) rfl)) (by decide) (by decide)) (g := (own_f0 m 176 av bv cv fl kb kc 1 1 1 li qa qb qc [(.ref qc), (.long kc), (.int (1 : Int32)), (.ref qb), (.long kb), (.int (1 : Int32)), (.ref qa), (.long av), (.int (1 : Int32)), (gl 2)])) rfl (by rw [hml]; rfl) (argsL := [(.int (1 : Int32)), (.long av), (.ref qa), (.int (1 : Int32)), (.long kb), (.ref qb), (.int (1 : Int32)), (.long kc), (.ref qc)]) (rest := [(gl 2)]) (lenOf pd_0_1 rfl) rfl (by show 2 * 0 + _ ≤ _; exact own_w1 (RAr.ref R_lr (by decide))) (hb hby at_176) (fun _ _ => ⟨rfl, K90q, (by decide : 7 + 0 ≤ _), (by decide : 164 + 0 ≤ _)⟩)
    dsimp only [Pt.U, Pt.locs, Pt.cells, Pt.slots] at X91 l91 y91 z91 st91 hQ91
    subst l91 y91 z91
    obtain ⟨vv_91, rfl, N91q, K91q, o91_hvr, o91_hG⟩ := hQ91
    have N91 := Fr.app N90 N91q
    refine Go.step st91 ?_
    show Go _ _ _ _ _ _ _ (T91.setTop (own_f0 m 179 av bv cv fl kb kc 1 1 1 li qa qb qc [vv_91, (gl 2)]))
    refine Go.step (fun t k => Jvm.RoadKit.acmp (g := (own_f0 m 179 av bv cv fl kb kc 1 1 1 li qa qb qc [vv_91, (gl 2)])) X91 hx rfl (RAr.ref R_lr (by decide)) o91_hvr (pc0 := 179) (pc' := 182) (same := true) rfl (hb hby at_179) rfl (decide_eq_true (own_X1 (n := 2) hI o91_hG (by decide))) (by decide) (by decide) k) ?_
    show Go _ _ _ _ _ _ _ (T91.setTop (own_f0 m 182 av bv cv fl kb kc 1 1 1 li qa qb qc []))
    refine Go.step (fun t k => XS.iconst X91.here hx rfl (hb hby at_182) k) ?_
    show Go _ _ _ _ _ _ _ (T91.setTop (own_f0 m 183 av bv cv fl kb kc 1 1 1 li qa qb qc [(.int (1 : Int32))]))
    refine Go.step (fun t k => XS.goto X91.here hx rfl (pc0 := 183) (pc' := 187) rfl (hb hby at_183) (by decide) (by decide) (XS.istore X91.here hx rfl (hb hby at_187) rfl (l' := #[.val (.long av), .second, .val (.long bv), .second, .val (.long cv), .second, .val (.int fl), .val (.long kb), .second, .val (.long kc), .second, .val (.int (1 : Int32)), .val (.int (1 : Int32)), .val (.int (1 : Int32)), .val (.ref li), .val (.ref qa), .val (.ref qb), .val (.ref qc), .val (.int (1 : Int32)), .unset, .unset, .unset]) rfl (XS.iload X91.here hx rfl (hb hby at_189) rfl (XS.iconst X91.here hx rfl (hb hby at_191) (XS.iand X91.here hx rfl (hb hby at_192) rfl (XS.istore X91.here hx rfl (hb hby at_193) rfl (l' := #[.val (.long av), .second, .val (.long bv), .second, .val (.long cv), .second, .val (.int fl), .val (.long kb), .second, .val (.long kc), .second, .val (.int (1 : Int32)), .val (.int (1 : Int32)), .val (.int (1 : Int32)), .val (.ref li), .val (.ref qa), .val (.ref qb), .val (.ref qc), .val (.int (1 : Int32)), .val (.int (fl &&& (3 : Int32))), .unset, .unset]) rfl (XS.iload X91.here hx rfl (hb hby at_195) rfl (XS.iconst X91.here hx rfl (hb hby at_197) k)))))))) ?_
    show Go _ _ _ _ _ _ _ (T91.setTop (own_f2 m 198 av bv cv fl kb kc 1 1 1 li qa qb qc 1 (fl &&& (3 : Int32)) [(.int (1 : Int32)), (.int (fl &&& (3 : Int32)))]))
    by_cases hc198_92 : (fl &&& (3 : Int32)) = (1 : Int32)
    · refine Go.step (fun t k => XS.icmpNo X91.here hx rfl (hb hby at_198) rfl (teq hc198_92).2 k) ?_
      show Go _ _ _ _ _ _ _ (T91.setTop (own_f2 m 201 av bv cv fl kb kc 1 1 1 li qa qb qc 1 (fl &&& (3 : Int32)) []))
      refine Go.step (fun t k => XS.iload X91.here hx rfl (hb hby at_201) rfl k) ?_
      show Go _ _ _ _ _ _ _ (T91.setTop (own_f2 m 203 av bv cv fl kb kc 1 1 1 li qa qb qc 1 (fl &&& (3 : Int32)) [(.int (1 : Int32))]))
      refine Go.step (fun t k => XS.ifNo X91.here hx rfl (hb hby at_203) rfl ((if0 _ _).trans (feq (by decide : ¬ (1 : Int32) = (0 : Int32))).1) k) ?_
      show Go _ _ _ _ _ _ _ (T91.setTop (own_f2 m 206 av bv cv fl kb kc 1 1 1 li qa qb qc 1 (fl &&& (3 : Int32)) []))
      refine Go.step (fun t k => XS.aload X91.here hx rfl (hb hby at_206) rfl rfl (XS.lloadN X91.here hx rfl (hb hby at_208) rfl k)) ?_
      show Go _ _ _ _ _ _ _ (T91.setTop (own_f2 m 209 av bv cv fl kb kc 1 1 1 li qa qb qc 1 (fl &&& (3 : Int32)) [(.long av), (.ref li)]))
      obtain ⟨cq93, kq93, q93a, q93b, q93c⟩ := isOf hZ K91q E_li
      obtain ⟨_, _, ⟨T93, L93, k93, n93⟩, -, X93, ⟨Lc93, hQ93, l93, y93, z93⟩, st93⟩ := X91.virtualBack hx (y := (⟨"com/example/matchstone/matchstone/LevelIndex", "remove", "(J)V"⟩ : MethodName)) (z := (⟨"com/example/matchstone/matchstone/LevelIndex", "remove", "(J)V"⟩ : MethodName)) hown (mvT hZ (hw _ (List.mem_of_getElem? (i := 93) rfl))) (mvT hZ (hw _ (List.mem_of_getElem? (i := 94) rfl))) (notFace_of_selects (args := #[]) (mvT hZ (hw _ (List.mem_of_getElem? (i := 96) rfl)))) (mvT hZ (hw _ (List.mem_of_getElem? (i := 96) rfl))) (mvT hZ (hw _ (List.mem_of_getElem? (i := 95) rfl))) (by decide) (backOf (W := 0) (rm15 l Z a0 hw [] li av nd kr lr gk gl (3 : Int32) 2 aw hc n0 Zc F_root_li F_last_li F_ahead_li E_li g_li F_keys_nd F_levels_nd F_children_nd F_size_nd F_next_nd F_previous_nd E_nd A_kr R_lr g_nd g_kr g_lr ne_kr_lr (by decide) (by decide) (by decide) (own_I.srt hI) (own_I.inA hI)) hZ (hw _ (List.mem_of_getElem? (i := 97) rfl)) (hw _ (List.mem_of_getElem? (i := 2) rfl)) (by decide) (by decide)) q93a q93c (g := (own_f2 m 209 av bv cv fl kb kc 1 1 1 li qa qb qc 1 (fl &&& (3 : Int32)) [(.long av), (.ref li)])) rfl (by rw [hml]; rfl) (Steps.refl _) (argsL := [(.long av)]) (rest := []) (lenOf pd_0_2 rfl) rfl (by show 2 * 0 + _ ≤ _; exact Nat.le_of_eq rfl) (hb hby at_209) (fun _ _ => ⟨rfl, K91q, (by decide : 7 + 0 ≤ _), (by decide : 164 + 0 ≤ _)⟩)
      dsimp only [Pt.U, Pt.locs, Pt.cells, Pt.slots] at X93 l93 y93 z93 st93 hQ93
      subst l93 y93 z93
      obtain ⟨im_93, gk2_93, gl2_93, rfl, N93q, K93q, o93_him, o93_hgi, o93_hgk, o93_hgl, o93_F_root_li, o93_F_last_li, o93_F_ahead_li, o93_E_li, o93_F_keys_nd, o93_F_levels_nd, o93_F_children_nd, o93_F_size_nd, o93_F_next_nd, o93_F_previous_nd, o93_E_nd, o93_A_kr, o93_R_lr⟩ := hQ93
      have N93 := Fr.app N91 N93q
      replace E_li := E_li.keep K93q
      replace E_nd := E_nd.keep K93q
      have Z93 := Nat.le_trans Zc K93q.1
      have F_root_li := o93_F_root_li
      have F_last_li := o93_F_last_li
      have F_ahead_li := o93_F_ahead_li
      have E_li := o93_E_li
      have F_keys_nd := o93_F_keys_nd
      have F_levels_nd := o93_F_levels_nd
      have F_children_nd := o93_F_children_nd
      have F_size_nd := o93_F_size_nd
      have F_next_nd := o93_F_next_nd
      have F_previous_nd := o93_F_previous_nd
      have E_nd := o93_E_nd
      have A_kr := o93_A_kr
      have R_lr := o93_R_lr
      refine Go.step (fun t k => st93.trans k) ?_
      show Go _ _ _ _ _ _ _ (T93.setTop (own_f2 m 212 av bv cv fl kb kc 1 1 1 li qa qb qc 1 (fl &&& (3 : Int32)) []))
      have hI_94 : own_I 2 gk2_93 gl2_93 false true true av kb kc qa qb qc := by rw [o93_hgk, o93_hgl]; exact own_I.remA (n := 2) hI o93_him o93_hgi
      refine Go.step (fun t k => XS.iconst X93.here hx rfl (hb hby at_212) (XS.istore X93.here hx rfl (hb hby at_213) rfl (l' := #[.val (.long av), .second, .val (.long bv), .second, .val (.long cv), .second, .val (.int fl), .val (.long kb), .second, .val (.long kc), .second, .val (.int (0 : Int32)), .val (.int (1 : Int32)), .val (.int (1 : Int32)), .val (.ref li), .val (.ref qa), .val (.ref qb), .val (.ref qc), .val (.int (1 : Int32)), .val (.int (fl &&& (3 : Int32))), .unset, .unset]) rfl k)) ?_
      show Go _ _ _ _ _ _ _ (T93.setTop (own_f2 m 215 av bv cv fl kb kc 0 1 1 li qa qb qc 1 (fl &&& (3 : Int32)) []))
      refine Go.step (fun t k => XS.goto X93.here hx rfl (pc0 := 215) (pc' := 263) rfl (hb hby at_215) (by decide) (by decide) k) ?_
      show Go _ _ _ _ _ _ _ (T93.setTop (own_f2 m 263 av bv cv fl kb kc 0 1 1 li qa qb qc 1 (fl &&& (3 : Int32)) []))
      exact L263_011 _ _ _ kb kc li qa qb qc nd kr lr gk2_93 gl2_93 aw X93 rfl N93 Z93 F_root_li F_last_li F_ahead_li E_li g_li F_keys_nd F_levels_nd F_children_nd F_size_nd F_next_nd F_previous_nd E_nd A_kr R_lr g_nd g_kr g_lr ne_kr_lr hI_94
    · refine Go.step (fun t k => XS.icmpYes X91.here hx rfl (pc0 := 198) (pc' := 218) rfl (hb hby at_198) rfl (feq hc198_92).2 (by decide) (by decide) k) ?_
      show Go _ _ _ _ _ _ _ (T91.setTop (own_f2 m 218 av bv cv fl kb kc 1 1 1 li qa qb qc 1 (fl &&& (3 : Int32)) []))
      refine Go.step (fun t k => XS.iload X91.here hx rfl (hb hby at_218) rfl (XS.iconst X91.here hx rfl (hb hby at_220) k)) ?_
      show Go _ _ _ _ _ _ _ (T91.setTop (own_f2 m 221 av bv cv fl kb kc 1 1 1 li qa qb qc 1 (fl &&& (3 : Int32)) [(.int (2 : Int32)), (.int (fl &&& (3 : Int32)))]))
      by_cases hc221_95 : (fl &&& (3 : Int32)) = (2 : Int32)
      · refine Go.step (fun t k => XS.icmpNo X91.here hx rfl (hb hby at_221) rfl (teq hc221_95).2 k) ?_
        show Go _ _ _ _ _ _ _ (T91.setTop (own_f2 m 224 av bv cv fl kb kc 1 1 1 li qa qb qc 1 (fl &&& (3 : Int32)) []))
        refine Go.step (fun t k => XS.iload X91.here hx rfl (hb hby at_224) rfl k) ?_
        show Go _ _ _ _ _ _ _ (T91.setTop (own_f2 m 226 av bv cv fl kb kc 1 1 1 li qa qb qc 1 (fl &&& (3 : Int32)) [(.int (1 : Int32))]))
        refine Go.step (fun t k => XS.ifNo X91.here hx rfl (hb hby at_226) rfl ((if0 _ _).trans (feq (by decide : ¬ (1 : Int32) = (0 : Int32))).1) k) ?_
        show Go _ _ _ _ _ _ _ (T91.setTop (own_f2 m 229 av bv cv fl kb kc 1 1 1 li qa qb qc 1 (fl &&& (3 : Int32)) []))
        refine Go.step (fun t k => XS.aload X91.here hx rfl (hb hby at_229) rfl rfl (XS.lload X91.here hx rfl (hb hby at_231) rfl k)) ?_
        show Go _ _ _ _ _ _ _ (T91.setTop (own_f2 m 233 av bv cv fl kb kc 1 1 1 li qa qb qc 1 (fl &&& (3 : Int32)) [(.long kb), (.ref li)]))
        obtain ⟨cq96, kq96, q96a, q96b, q96c⟩ := isOf hZ K91q E_li
        obtain ⟨_, _, ⟨T96, L96, k96, n96⟩, -, X96, ⟨Lc96, hQ96, l96, y96, z96⟩, st96⟩ := X91.virtualBack hx (y := (⟨"com/example/matchstone/matchstone/LevelIndex", "remove", "(J)V"⟩ : MethodName)) (z := (⟨"com/example/matchstone/matchstone/LevelIndex", "remove", "(J)V"⟩ : MethodName)) hown (mvT hZ (hw _ (List.mem_of_getElem? (i := 93) rfl))) (mvT hZ (hw _ (List.mem_of_getElem? (i := 94) rfl))) (notFace_of_selects (args := #[]) (mvT hZ (hw _ (List.mem_of_getElem? (i := 96) rfl)))) (mvT hZ (hw _ (List.mem_of_getElem? (i := 96) rfl))) (mvT hZ (hw _ (List.mem_of_getElem? (i := 95) rfl))) (by decide) (backOf (W := 0) (rm15 l Z a0 hw [] li kb nd kr lr gk gl (3 : Int32) 2 aw hc n0 Zc F_root_li F_last_li F_ahead_li E_li g_li F_keys_nd F_levels_nd F_children_nd F_size_nd F_next_nd F_previous_nd E_nd A_kr R_lr g_nd g_kr g_lr ne_kr_lr (by decide) (by decide) (by decide) (own_I.srt hI) (own_I.inB hI)) hZ (hw _ (List.mem_of_getElem? (i := 97) rfl)) (hw _ (List.mem_of_getElem? (i := 2) rfl)) (by decide) (by decide)) q96a q96c (g := (own_f2 m 233 av bv cv fl kb kc 1 1 1 li qa qb qc 1 (fl &&& (3 : Int32)) [(.long kb), (.ref li)])) rfl (by rw [hml]; rfl) (Steps.refl _) (argsL := [(.long kb)]) (rest := []) (lenOf pd_0_2 rfl) rfl (by show 2 * 0 + _ ≤ _; exact Nat.le_of_eq rfl) (hb hby at_233) (fun _ _ => ⟨rfl, K91q, (by decide : 7 + 0 ≤ _), (by decide : 164 + 0 ≤ _)⟩)
        dsimp only [Pt.U, Pt.locs, Pt.cells, Pt.slots] at X96 l96 y96 z96 st96 hQ96
        subst l96 y96 z96
        obtain ⟨im_96, gk2_96, gl2_96, rfl, N96q, K96q, o96_him, o96_hgi, o96_hgk, o96_hgl, o96_F_root_li, o96_F_last_li, o96_F_ahead_li, o96_E_li, o96_F_keys_nd, o96_F_levels_nd, o96_F_children_nd, o96_F_size_nd, o96_F_next_nd, o96_F_previous_nd, o96_E_nd, o96_A_kr, o96_R_lr⟩ := hQ96
        have N96 := Fr.app N91 N96q
        replace E_li := E_li.keep K96q
        replace E_nd := E_nd.keep K96q
        have Z96 := Nat.le_trans Zc K96q.1
        have F_root_li := o96_F_root_li
        have F_last_li := o96_F_last_li
        have F_ahead_li := o96_F_ahead_li
        have E_li := o96_E_li
        have F_keys_nd := o96_F_keys_nd
        have F_levels_nd := o96_F_levels_nd
        have F_children_nd := o96_F_children_nd
        have F_size_nd := o96_F_size_nd
        have F_next_nd := o96_F_next_nd
        have F_previous_nd := o96_F_previous_nd
        have E_nd := o96_E_nd
        have A_kr := o96_A_kr
        have R_lr := o96_R_lr
        refine Go.step (fun t k => st96.trans k) ?_
        show Go _ _ _ _ _ _ _ (T96.setTop (own_f2 m 236 av bv cv fl kb kc 1 1 1 li qa qb qc 1 (fl &&& (3 : Int32)) []))
        have hI_97 : own_I 2 gk2_96 gl2_96 true false true av kb kc qa qb qc := by rw [o96_hgk, o96_hgl]; exact own_I.remB (n := 2) hI o96_him o96_hgi
        refine Go.step (fun t k => XS.iconst X96.here hx rfl (hb hby at_236) (XS.istore X96.here hx rfl (hb hby at_237) rfl (l' := #[.val (.long av), .second, .val (.long bv), .second, .val (.long cv), .second, .val (.int fl), .val (.long kb), .second, .val (.long kc), .second, .val (.int (1 : Int32)), .val (.int (0 : Int32)), .val (.int (1 : Int32)), .val (.ref li), .val (.ref qa), .val (.ref qb), .val (.ref qc), .val (.int (1 : Int32)), .val (.int (fl &&& (3 : Int32))), .unset, .unset]) rfl k)) ?_
        show Go _ _ _ _ _ _ _ (T96.setTop (own_f2 m 239 av bv cv fl kb kc 1 0 1 li qa qb qc 1 (fl &&& (3 : Int32)) []))
        refine Go.step (fun t k => XS.goto X96.here hx rfl (pc0 := 239) (pc' := 263) rfl (hb hby at_239) (by decide) (by decide) k) ?_
        show Go _ _ _ _ _ _ _ (T96.setTop (own_f2 m 263 av bv cv fl kb kc 1 0 1 li qa qb qc 1 (fl &&& (3 : Int32)) []))
        exact L263_101 _ _ _ kb kc li qa qb qc nd kr lr gk2_96 gl2_96 aw X96 rfl N96 Z96 F_root_li F_last_li F_ahead_li E_li g_li F_keys_nd F_levels_nd F_children_nd F_size_nd F_next_nd F_previous_nd E_nd A_kr R_lr g_nd g_kr g_lr ne_kr_lr hI_97
      · refine Go.step (fun t k => XS.icmpYes X91.here hx rfl (pc0 := 221) (pc' := 242) rfl (hb hby at_221) rfl (feq hc221_95).2 (by decide) (by decide) k) ?_
        show Go _ _ _ _ _ _ _ (T91.setTop (own_f2 m 242 av bv cv fl kb kc 1 1 1 li qa qb qc 1 (fl &&& (3 : Int32)) []))
        refine Go.step (fun t k => XS.iload X91.here hx rfl (hb hby at_242) rfl (XS.iconst X91.here hx rfl (hb hby at_244) k)) ?_
        show Go _ _ _ _ _ _ _ (T91.setTop (own_f2 m 245 av bv cv fl kb kc 1 1 1 li qa qb qc 1 (fl &&& (3 : Int32)) [(.int (3 : Int32)), (.int (fl &&& (3 : Int32)))]))
        by_cases hc245_98 : (fl &&& (3 : Int32)) = (3 : Int32)
        · refine Go.step (fun t k => XS.icmpNo X91.here hx rfl (hb hby at_245) rfl (teq hc245_98).2 k) ?_
          show Go _ _ _ _ _ _ _ (T91.setTop (own_f2 m 248 av bv cv fl kb kc 1 1 1 li qa qb qc 1 (fl &&& (3 : Int32)) []))
          refine Go.step (fun t k => XS.iload X91.here hx rfl (hb hby at_248) rfl k) ?_
          show Go _ _ _ _ _ _ _ (T91.setTop (own_f2 m 250 av bv cv fl kb kc 1 1 1 li qa qb qc 1 (fl &&& (3 : Int32)) [(.int (1 : Int32))]))
          refine Go.step (fun t k => XS.ifNo X91.here hx rfl (hb hby at_250) rfl ((if0 _ _).trans (feq (by decide : ¬ (1 : Int32) = (0 : Int32))).1) k) ?_
          show Go _ _ _ _ _ _ _ (T91.setTop (own_f2 m 253 av bv cv fl kb kc 1 1 1 li qa qb qc 1 (fl &&& (3 : Int32)) []))
          refine Go.step (fun t k => XS.aload X91.here hx rfl (hb hby at_253) rfl rfl (XS.lload X91.here hx rfl (hb hby at_255) rfl k)) ?_
          show Go _ _ _ _ _ _ _ (T91.setTop (own_f2 m 257 av bv cv fl kb kc 1 1 1 li qa qb qc 1 (fl &&& (3 : Int32)) [(.long kc), (.ref li)]))
          obtain ⟨cq99, kq99, q99a, q99b, q99c⟩ := isOf hZ K91q E_li
          obtain ⟨_, _, ⟨T99, L99, k99, n99⟩, -, X99, ⟨Lc99, hQ99, l99, y99, z99⟩, st99⟩ := X91.virtualBack hx (y := (⟨"com/example/matchstone/matchstone/LevelIndex", "remove", "(J)V"⟩ : MethodName)) (z := (⟨"com/example/matchstone/matchstone/LevelIndex", "remove", "(J)V"⟩ : MethodName)) hown (mvT hZ (hw _ (List.mem_of_getElem? (i := 93) rfl))) (mvT hZ (hw _ (List.mem_of_getElem? (i := 94) rfl))) (notFace_of_selects (args := #[]) (mvT hZ (hw _ (List.mem_of_getElem? (i := 96) rfl)))) (mvT hZ (hw _ (List.mem_of_getElem? (i := 96) rfl))) (mvT hZ (hw _ (List.mem_of_getElem? (i := 95) rfl))) (by decide) (backOf (W := 0) (rm15 l Z a0 hw [] li kc nd kr lr gk gl (3 : Int32) 2 aw hc n0 Zc F_root_li F_last_li F_ahead_li E_li g_li F_keys_nd F_levels_nd F_children_nd F_size_nd F_next_nd F_previous_nd E_nd A_kr R_lr g_nd g_kr g_lr ne_kr_lr (by decide) (by decide) (by decide) (own_I.srt hI) (own_I.inC hI)) hZ (hw _ (List.mem_of_getElem? (i := 97) rfl)) (hw _ (List.mem_of_getElem? (i := 2) rfl)) (by decide) (by decide)) q99a q99c (g := (own_f2 m 257 av bv cv fl kb kc 1 1 1 li qa qb qc 1 (fl &&& (3 : Int32)) [(.long kc), (.ref li)])) rfl (by rw [hml]; rfl) (Steps.refl _) (argsL := [(.long kc)]) (rest := []) (lenOf pd_0_2 rfl) rfl (by show 2 * 0 + _ ≤ _; exact Nat.le_of_eq rfl) (hb hby at_257) (fun _ _ => ⟨rfl, K91q, (by decide : 7 + 0 ≤ _), (by decide : 164 + 0 ≤ _)⟩)
          dsimp only [Pt.U, Pt.locs, Pt.cells, Pt.slots] at X99 l99 y99 z99 st99 hQ99
          subst l99 y99 z99
          obtain ⟨im_99, gk2_99, gl2_99, rfl, N99q, K99q, o99_him, o99_hgi, o99_hgk, o99_hgl, o99_F_root_li, o99_F_last_li, o99_F_ahead_li, o99_E_li, o99_F_keys_nd, o99_F_levels_nd, o99_F_children_nd, o99_F_size_nd, o99_F_next_nd, o99_F_previous_nd, o99_E_nd, o99_A_kr, o99_R_lr⟩ := hQ99
          have N99 := Fr.app N91 N99q
          replace E_li := E_li.keep K99q
          replace E_nd := E_nd.keep K99q
          have Z99 := Nat.le_trans Zc K99q.1
          have F_root_li := o99_F_root_li
          have F_last_li := o99_F_last_li
          have F_ahead_li := o99_F_ahead_li
          have E_li := o99_E_li
          have F_keys_nd := o99_F_keys_nd
          have F_levels_nd := o99_F_levels_nd
          have F_children_nd := o99_F_children_nd
          have F_size_nd := o99_F_size_nd
          have F_next_nd := o99_F_next_nd
          have F_previous_nd := o99_F_previous_nd
          have E_nd := o99_E_nd
          have A_kr := o99_A_kr
          have R_lr := o99_R_lr
          refine Go.step (fun t k => st99.trans k) ?_
          show Go _ _ _ _ _ _ _ (T99.setTop (own_f2 m 260 av bv cv fl kb kc 1 1 1 li qa qb qc 1 (fl &&& (3 : Int32)) []))
          have hI_100 : own_I 2 gk2_99 gl2_99 true true false av kb kc qa qb qc := by rw [o99_hgk, o99_hgl]; exact own_I.remC (n := 2) hI o99_him o99_hgi
          refine Go.step (fun t k => XS.iconst X99.here hx rfl (hb hby at_260) (XS.istore X99.here hx rfl (hb hby at_261) rfl (l' := #[.val (.long av), .second, .val (.long bv), .second, .val (.long cv), .second, .val (.int fl), .val (.long kb), .second, .val (.long kc), .second, .val (.int (1 : Int32)), .val (.int (1 : Int32)), .val (.int (0 : Int32)), .val (.ref li), .val (.ref qa), .val (.ref qb), .val (.ref qc), .val (.int (1 : Int32)), .val (.int (fl &&& (3 : Int32))), .unset, .unset]) rfl k)) ?_
          show Go _ _ _ _ _ _ _ (T99.setTop (own_f2 m 263 av bv cv fl kb kc 1 1 0 li qa qb qc 1 (fl &&& (3 : Int32)) []))
          exact L263_110 _ _ _ kb kc li qa qb qc nd kr lr gk2_99 gl2_99 aw X99 rfl N99 Z99 F_root_li F_last_li F_ahead_li E_li g_li F_keys_nd F_levels_nd F_children_nd F_size_nd F_next_nd F_previous_nd E_nd A_kr R_lr g_nd g_kr g_lr ne_kr_lr hI_100
        · refine Go.step (fun t k => XS.icmpYes X91.here hx rfl (pc0 := 245) (pc' := 263) rfl (hb hby at_245) rfl (feq hc245_98).2 (by decide) (by decide) k) ?_
          show Go _ _ _ _ _ _ _ (T91.setTop (own_f2 m 263 av bv cv fl kb kc 1 1 1 li qa qb qc 1 (fl &&& (3 : Int32)) []))
          exact L263_111 _ _ _ kb kc li qa qb qc nd kr lr gk gl aw X91 K91q N91 Zc F_root_li F_last_li F_ahead_li E_li g_li F_keys_nd F_levels_nd F_children_nd F_size_nd F_next_nd F_previous_nd E_nd A_kr R_lr g_nd g_kr g_lr ne_kr_lr hI
  have L73 : ∀ (Tc : State) (hc : Heap) (lc : List Loc) (kb : Int64) (kc : Int64) (pb : Int32) (pc : Int32), (Stand p l e room_1 s m #[(.long av), (.long bv), (.long cv), (.int fl)] below meth c Tc lc 0 0) → (Tc.heap = hc) → (Fr n0 lc) → (n0 ≤ hc.size) → (pb = (0 : Int32) ∨ (pb = (1 : Int32) ∧ av ≠ kb)) → (pc = (0 : Int32) ∨ (pc = (1 : Int32) ∧ av ≠ kc ∧ kb ≠ kc)) → Go p e below s (Q0 Z av bv cv fl h0 n0) 32 704 (Tc.setTop (mkF m 73 #[.val (.long av), .second, .val (.long bv), .second, .val (.long cv), .second, .val (.int fl), .val (.long kb), .second, .val (.long kc), .second, .val (.int (1 : Int32)), .val (.int pb), .val (.int pc), .unset, .unset, .unset, .unset, .unset, .unset, .unset, .unset] [])) := by
    intro Tc hc lc kb kc pb pc Xc ec Nc Zc hpb hpc
    show Go _ _ _ _ _ _ _ (Tc.setTop (mkF m 73 #[.val (.long av), .second, .val (.long bv), .second, .val (.long cv), .second, .val (.int fl), .val (.long kb), .second, .val (.long kc), .second, .val (.int (1 : Int32)), .val (.int pb), .val (.int pc), .unset, .unset, .unset, .unset, .unset, .unset, .unset, .unset] []))
    obtain ⟨T101, h101, X101, e101, E101, A101, D101, -, st101⟩ := newO Xc hx hZ hown (hw _ (List.mem_of_getElem? (i := 0) rfl)) (hw _ (List.mem_of_getElem? (i := 1) rfl)) (hw _ (List.mem_of_getElem? (i := 2) rfl)) ec (g := (mkF m 73 #[.val (.long av), .second, .val (.long bv), .second, .val (.long cv), .second, .val (.int fl), .val (.long kb), .second, .val (.long kc), .second, .val (.int (1 : Int32)), .val (.int pb), .val (.int pc), .unset, .unset, .unset, .unset, .unset, .unset, .unset, .unset] [])) rfl (hb hby at_73) (by decide) (by decide)
    obtain ⟨li, gz101⟩ : ∃ z, z = hc.size := ⟨_, rfl⟩
    have g_li : n0 ≤ li := Nat.le_trans Zc (Nat.le_of_eq gz101.symm)
    rw [← gz101] at A101 D101 st101
    have Z101 := Nat.le_trans Zc E101.1
    have E_li := A101
    have F_root_li : Fld Z h101 li "com/example/matchstone/matchstone/LevelIndex" "root" "Lcom/example/matchstone/matchstone/LevelIndex$Node;" .null := D101 (Or.inl (hw _ (List.mem_of_getElem? (i := 29) rfl))) (ty := (.object "com/example/matchstone/matchstone/LevelIndex$Node")) (by decide)
    have F_last_li : Fld Z h101 li "com/example/matchstone/matchstone/LevelIndex" "last" "Lcom/example/matchstone/matchstone/LevelIndex$Node;" .null := D101 (Or.inl (hw _ (List.mem_of_getElem? (i := 31) rfl))) (ty := (.object "com/example/matchstone/matchstone/LevelIndex$Node")) (by decide)
    have F_ahead_li : Fld Z h101 li "com/example/matchstone/matchstone/LevelIndex" "ahead" "Lcom/example/matchstone/matchstone/PriceLevel;" .null := D101 (Or.inl (hw _ (List.mem_of_getElem? (i := 83) rfl))) (ty := (.object "com/example/matchstone/matchstone/PriceLevel")) (by decide)
    have F_splitKey_li : Fld Z h101 li "com/example/matchstone/matchstone/LevelIndex" "splitKey" "J" (.long (0 : Int64)) := D101 (Or.inl (hw _ (List.mem_of_getElem? (i := 123) rfl))) (ty := .long) (by decide)
    refine Go.step st101 ?_
    show Go _ _ _ _ _ _ _ (T101.setTop (mkF m 76 #[.val (.long av), .second, .val (.long bv), .second, .val (.long cv), .second, .val (.int fl), .val (.long kb), .second, .val (.long kc), .second, .val (.int (1 : Int32)), .val (.int pb), .val (.int pc), .unset, .unset, .unset, .unset, .unset, .unset, .unset, .unset] [(.ref li)]))
    refine Go.step (fun t k => XS.dup X101.here hx rfl (hb hby at_76) rfl rfl k) ?_
    show Go _ _ _ _ _ _ _ (T101.setTop (mkF m 77 #[.val (.long av), .second, .val (.long bv), .second, .val (.long cv), .second, .val (.int fl), .val (.long kb), .second, .val (.long kc), .second, .val (.int (1 : Int32)), .val (.int pb), .val (.int pc), .unset, .unset, .unset, .unset, .unset, .unset, .unset, .unset] [(.ref li), (.ref li)]))
    obtain ⟨_, _, ⟨T102, L102, k102, n102⟩, -, X102, ⟨Lc102, hQ102, l102, y102, z102⟩, st102⟩ := X101.specialBack hx (y := (⟨"com/example/matchstone/matchstone/LevelIndex", "<init>", "()V"⟩ : MethodName)) rfl hown (mvT hZ (hw _ (List.mem_of_getElem? (i := 3) rfl))) (mvT hZ (hw _ (List.mem_of_getElem? (i := 4) rfl))) (mvT hZ (hw _ (List.mem_of_getElem? (i := 5) rfl))) (by decide) (backOf (W := 1) (rm1 l Z a0 hw [] li h101 n0 Z101 F_root_li F_last_li F_ahead_li E_li g_li) hZ (hw _ (List.mem_of_getElem? (i := 5) rfl)) (hw _ (List.mem_of_getElem? (i := 2) rfl)) (by decide) (by decide)) (g := (mkF m 77 #[.val (.long av), .second, .val (.long bv), .second, .val (.long cv), .second, .val (.int fl), .val (.long kb), .second, .val (.long kc), .second, .val (.int (1 : Int32)), .val (.int pb), .val (.int pc), .unset, .unset, .unset, .unset, .unset, .unset, .unset, .unset] [(.ref li), (.ref li)])) rfl (by rw [hml]; rfl) (Steps.refl _) (a := li) (argsL := []) (rest := [(.ref li)]) (lenOf pd_0_3 rfl) rfl (by show 2 * 0 + _ ≤ _; exact Nat.le_of_eq rfl) (hb hby at_77) (fun _ _ => ⟨rfl, e101, (by decide : 1 + 3 ≤ _), (by decide : 4 + 136 ≤ _)⟩)
    dsimp only [Pt.U, Pt.locs, Pt.cells, Pt.slots] at X102 l102 y102 z102 st102 hQ102
    subst l102 y102 z102
    obtain ⟨nd, kr, lr, rfl, N102q, K102q, o102_nw_nd, o102_nw_kr, o102_nw_lr, o102_ne_kr_lr, o102_F_root_li, o102_F_last_li, o102_F_ahead_li, o102_E_li, o102_F_keys_nd, o102_F_levels_nd, o102_F_children_nd, o102_F_size_nd, o102_F_next_nd, o102_F_previous_nd, o102_E_nd, o102_A_kr, o102_R_lr⟩ := hQ102
    have N102 := Fr.app Nc N102q
    have ne_li_nd : li ≠ nd := Nat.ne_of_lt (Nat.lt_of_lt_of_le E_li.lt o102_nw_nd)
    have g_nd : n0 ≤ nd := Nat.le_trans Z101 o102_nw_nd
    have ne_li_kr : li ≠ kr := Nat.ne_of_lt (Nat.lt_of_lt_of_le E_li.lt o102_nw_kr)
    have g_kr : n0 ≤ kr := Nat.le_trans Z101 o102_nw_kr
    have ne_li_lr : li ≠ lr := Nat.ne_of_lt (Nat.lt_of_lt_of_le E_li.lt o102_nw_lr)
    have g_lr : n0 ≤ lr := Nat.le_trans Z101 o102_nw_lr
    replace E_li := E_li.keep K102q
    have Z102 := Nat.le_trans Z101 K102q.1
    have F_root_li := o102_F_root_li
    have F_last_li := o102_F_last_li
    have F_ahead_li := o102_F_ahead_li
    have E_li := o102_E_li
    have F_keys_nd := o102_F_keys_nd
    have F_levels_nd := o102_F_levels_nd
    have F_children_nd := o102_F_children_nd
    have F_size_nd := o102_F_size_nd
    have F_next_nd := o102_F_next_nd
    have F_previous_nd := o102_F_previous_nd
    have E_nd := o102_E_nd
    have A_kr := o102_A_kr
    have R_lr := o102_R_lr
    refine Go.step (fun t k => st102.trans k) ?_
    show Go _ _ _ _ _ _ _ (T102.setTop (mkF m 80 #[.val (.long av), .second, .val (.long bv), .second, .val (.long cv), .second, .val (.int fl), .val (.long kb), .second, .val (.long kc), .second, .val (.int (1 : Int32)), .val (.int pb), .val (.int pc), .unset, .unset, .unset, .unset, .unset, .unset, .unset, .unset] [(.ref li)]))
    refine Go.step (fun t k => XS.astore X102.here hx rfl (hb hby at_80) rfl rfl (l' := #[.val (.long av), .second, .val (.long bv), .second, .val (.long cv), .second, .val (.int fl), .val (.long kb), .second, .val (.long kc), .second, .val (.int (1 : Int32)), .val (.int pb), .val (.int pc), .val (.ref li), .unset, .unset, .unset, .unset, .unset, .unset, .unset]) rfl k) ?_
    show Go _ _ _ _ _ _ _ (T102.setTop (mkF m 82 #[.val (.long av), .second, .val (.long bv), .second, .val (.long cv), .second, .val (.int fl), .val (.long kb), .second, .val (.long kc), .second, .val (.int (1 : Int32)), .val (.int pb), .val (.int pc), .val (.ref li), .unset, .unset, .unset, .unset, .unset, .unset, .unset] []))
    obtain ⟨T103, h103, X103, e103, E103, A103, D103, -, st103⟩ := newO X102 hx hZ hown (hw _ (List.mem_of_getElem? (i := 32) rfl)) (hw _ (List.mem_of_getElem? (i := 33) rfl)) (hw _ (List.mem_of_getElem? (i := 34) rfl)) rfl (g := (mkF m 82 #[.val (.long av), .second, .val (.long bv), .second, .val (.long cv), .second, .val (.int fl), .val (.long kb), .second, .val (.long kc), .second, .val (.int (1 : Int32)), .val (.int pb), .val (.int pc), .val (.ref li), .unset, .unset, .unset, .unset, .unset, .unset, .unset] [])) rfl (hb hby at_82) (by decide) (by decide)
    obtain ⟨qa, gz103⟩ : ∃ z, z = T102.heap.size := ⟨_, rfl⟩
    have ne_li_qa : li ≠ qa := Nat.ne_of_lt (Nat.lt_of_lt_of_le E_li.lt (Nat.le_of_eq gz103.symm))
    have ne_nd_qa : nd ≠ qa := Nat.ne_of_lt (Nat.lt_of_lt_of_le F_keys_nd.lt (Nat.le_of_eq gz103.symm))
    have ne_kr_qa : kr ≠ qa := Nat.ne_of_lt (Nat.lt_of_lt_of_le A_kr.lt (Nat.le_of_eq gz103.symm))
    have ne_lr_qa : lr ≠ qa := Nat.ne_of_lt (Nat.lt_of_lt_of_le R_lr.lt (Nat.le_of_eq gz103.symm))
    have g_qa : n0 ≤ qa := Nat.le_trans Z102 (Nat.le_of_eq gz103.symm)
    rw [← gz103] at A103 D103 st103
    replace E_li := E_li.ext E103
    replace F_root_li := F_root_li.ext E103
    replace F_last_li := F_last_li.ext E103
    replace F_ahead_li := F_ahead_li.ext E103
    replace F_keys_nd := F_keys_nd.ext E103
    replace F_levels_nd := F_levels_nd.ext E103
    replace F_children_nd := F_children_nd.ext E103
    replace F_size_nd := F_size_nd.ext E103
    replace F_next_nd := F_next_nd.ext E103
    replace F_previous_nd := F_previous_nd.ext E103
    replace E_nd := E_nd.ext E103
    replace A_kr := A_kr.ext E103
    replace R_lr := R_lr.ext E103
    have Z103 := Nat.le_trans Z102 E103.1
    have E_qa := A103
    have F_price_qa : Fld Z h103 qa "com/example/matchstone/matchstone/PriceLevel" "price" "Lcom/example/matchstone/matchstone/Price;" .null := D103 (Or.inr (hw _ (List.mem_of_getElem? (i := 40) rfl))) (ty := (.object "com/example/matchstone/matchstone/Price")) (by decide)
    have F_bookSide_qa : Fld Z h103 qa "com/example/matchstone/matchstone/PriceLevel" "bookSide" "Lcom/example/matchstone/matchstone/BookSide;" .null := D103 (Or.inr (hw _ (List.mem_of_getElem? (i := 42) rfl))) (ty := (.object "com/example/matchstone/matchstone/BookSide")) (by decide)
    refine Go.step st103 ?_
    show Go _ _ _ _ _ _ _ (T103.setTop (mkF m 85 #[.val (.long av), .second, .val (.long bv), .second, .val (.long cv), .second, .val (.int fl), .val (.long kb), .second, .val (.long kc), .second, .val (.int (1 : Int32)), .val (.int pb), .val (.int pc), .val (.ref li), .unset, .unset, .unset, .unset, .unset, .unset, .unset] [(.ref qa)]))
    refine Go.step (fun t k => XS.dup X103.here hx rfl (hb hby at_85) rfl rfl (XS.aconstNull X103.here hx rfl (hb hby at_86) (XS.aconstNull X103.here hx rfl (hb hby at_87) k))) ?_
    show Go _ _ _ _ _ _ _ (T103.setTop (mkF m 88 #[.val (.long av), .second, .val (.long bv), .second, .val (.long cv), .second, .val (.int fl), .val (.long kb), .second, .val (.long kc), .second, .val (.int (1 : Int32)), .val (.int pb), .val (.int pc), .val (.ref li), .unset, .unset, .unset, .unset, .unset, .unset, .unset] [.null, .null, (.ref qa), (.ref qa)]))
    obtain ⟨_, _, ⟨T104, L104, k104, n104⟩, -, X104, ⟨Lc104, hQ104, l104, y104, z104⟩, st104⟩ := X103.specialBack hx (y := (⟨"com/example/matchstone/matchstone/PriceLevel", "<init>", "(Lcom/example/matchstone/matchstone/Price;Lcom/example/matchstone/matchstone/BookSide;)V"⟩ : MethodName)) rfl hown (mvT hZ (hw _ (List.mem_of_getElem? (i := 35) rfl))) (mvT hZ (hw _ (List.mem_of_getElem? (i := 36) rfl))) (mvT hZ (hw _ (List.mem_of_getElem? (i := 37) rfl))) (by decide) (backOf (W := 1) (rm5 l Z a0 hw [] qa h103 n0 Z103 F_price_qa F_bookSide_qa E_qa g_qa) hZ (hw _ (List.mem_of_getElem? (i := 37) rfl)) (hw _ (List.mem_of_getElem? (i := 34) rfl)) (by decide) (by decide)) (g := (mkF m 88 #[.val (.long av), .second, .val (.long bv), .second, .val (.long cv), .second, .val (.int fl), .val (.long kb), .second, .val (.long kc), .second, .val (.int (1 : Int32)), .val (.int pb), .val (.int pc), .val (.ref li), .unset, .unset, .unset, .unset, .unset, .unset, .unset] [.null, .null, (.ref qa), (.ref qa)])) rfl (by rw [hml]; rfl) (Steps.refl _) (a := qa) (argsL := [.null, .null]) (rest := [(.ref qa)]) (lenOf pd_0_4 rfl) rfl (by show 2 * 0 + _ ≤ _; exact Nat.le_of_eq rfl) (hb hby at_88) (fun _ _ => ⟨rfl, e103, (by decide : 5 + 0 ≤ _), (by decide : 148 + 0 ≤ _)⟩)
    dsimp only [Pt.U, Pt.locs, Pt.cells, Pt.slots] at X104 l104 y104 z104 st104 hQ104
    subst l104 y104 z104
    obtain ⟨rfl, N104q, K104q, o104_E_qa⟩ := hQ104
    have N104 := Fr.app N102 N104q
    replace E_li := E_li.keep K104q
    replace F_root_li := F_root_li.keep K104q (ninS ne_li_qa nin0)
    replace F_last_li := F_last_li.keep K104q (ninS ne_li_qa nin0)
    replace F_ahead_li := F_ahead_li.keep K104q (ninS ne_li_qa nin0)
    replace F_keys_nd := F_keys_nd.keep K104q (ninS ne_nd_qa nin0)
    replace F_levels_nd := F_levels_nd.keep K104q (ninS ne_nd_qa nin0)
    replace F_children_nd := F_children_nd.keep K104q (ninS ne_nd_qa nin0)
    replace F_size_nd := F_size_nd.keep K104q (ninS ne_nd_qa nin0)
    replace F_next_nd := F_next_nd.keep K104q (ninS ne_nd_qa nin0)
    replace F_previous_nd := F_previous_nd.keep K104q (ninS ne_nd_qa nin0)
    replace E_nd := E_nd.keep K104q
    replace A_kr := A_kr.keep K104q (ninS ne_kr_qa nin0)
    replace R_lr := R_lr.keep K104q (ninS ne_lr_qa nin0)
    replace E_qa := E_qa.keep K104q
    have Z104 := Nat.le_trans Z103 K104q.1
    have E_qa := o104_E_qa
    refine Go.step (fun t k => st104.trans k) ?_
    show Go _ _ _ _ _ _ _ (T104.setTop (mkF m 91 #[.val (.long av), .second, .val (.long bv), .second, .val (.long cv), .second, .val (.int fl), .val (.long kb), .second, .val (.long kc), .second, .val (.int (1 : Int32)), .val (.int pb), .val (.int pc), .val (.ref li), .unset, .unset, .unset, .unset, .unset, .unset, .unset] [(.ref qa)]))
    refine Go.step (fun t k => XS.astore X104.here hx rfl (hb hby at_91) rfl rfl (l' := #[.val (.long av), .second, .val (.long bv), .second, .val (.long cv), .second, .val (.int fl), .val (.long kb), .second, .val (.long kc), .second, .val (.int (1 : Int32)), .val (.int pb), .val (.int pc), .val (.ref li), .val (.ref qa), .unset, .unset, .unset, .unset, .unset, .unset]) rfl k) ?_
    show Go _ _ _ _ _ _ _ (T104.setTop (mkF m 93 #[.val (.long av), .second, .val (.long bv), .second, .val (.long cv), .second, .val (.int fl), .val (.long kb), .second, .val (.long kc), .second, .val (.int (1 : Int32)), .val (.int pb), .val (.int pc), .val (.ref li), .val (.ref qa), .unset, .unset, .unset, .unset, .unset, .unset] []))
    obtain ⟨T105, h105, X105, e105, E105, A105, D105, -, st105⟩ := newO X104 hx hZ hown (hw _ (List.mem_of_getElem? (i := 32) rfl)) (hw _ (List.mem_of_getElem? (i := 33) rfl)) (hw _ (List.mem_of_getElem? (i := 34) rfl)) rfl (g := (mkF m 93 #[.val (.long av), .second, .val (.long bv), .second, .val (.long cv), .second, .val (.int fl), .val (.long kb), .second, .val (.long kc), .second, .val (.int (1 : Int32)), .val (.int pb), .val (.int pc), .val (.ref li), .val (.ref qa), .unset, .unset, .unset, .unset, .unset, .unset] [])) rfl (hb hby at_93) (by decide) (by decide)
    obtain ⟨qb, gz105⟩ : ∃ z, z = T104.heap.size := ⟨_, rfl⟩
    have ne_li_qb : li ≠ qb := Nat.ne_of_lt (Nat.lt_of_lt_of_le E_li.lt (Nat.le_of_eq gz105.symm))
    have ne_nd_qb : nd ≠ qb := Nat.ne_of_lt (Nat.lt_of_lt_of_le F_keys_nd.lt (Nat.le_of_eq gz105.symm))
    have ne_kr_qb : kr ≠ qb := Nat.ne_of_lt (Nat.lt_of_lt_of_le A_kr.lt (Nat.le_of_eq gz105.symm))
    have ne_lr_qb : lr ≠ qb := Nat.ne_of_lt (Nat.lt_of_lt_of_le R_lr.lt (Nat.le_of_eq gz105.symm))
    have ne_qa_qb : qa ≠ qb := Nat.ne_of_lt (Nat.lt_of_lt_of_le E_qa.lt (Nat.le_of_eq gz105.symm))
    have g_qb : n0 ≤ qb := Nat.le_trans Z104 (Nat.le_of_eq gz105.symm)
    rw [← gz105] at A105 D105 st105
    replace E_li := E_li.ext E105
    replace F_root_li := F_root_li.ext E105
    replace F_last_li := F_last_li.ext E105
    replace F_ahead_li := F_ahead_li.ext E105
    replace F_keys_nd := F_keys_nd.ext E105
    replace F_levels_nd := F_levels_nd.ext E105
    replace F_children_nd := F_children_nd.ext E105
    replace F_size_nd := F_size_nd.ext E105
    replace F_next_nd := F_next_nd.ext E105
    replace F_previous_nd := F_previous_nd.ext E105
    replace E_nd := E_nd.ext E105
    replace A_kr := A_kr.ext E105
    replace R_lr := R_lr.ext E105
    replace E_qa := E_qa.ext E105
    have Z105 := Nat.le_trans Z104 E105.1
    have E_qb := A105
    have F_price_qb : Fld Z h105 qb "com/example/matchstone/matchstone/PriceLevel" "price" "Lcom/example/matchstone/matchstone/Price;" .null := D105 (Or.inr (hw _ (List.mem_of_getElem? (i := 40) rfl))) (ty := (.object "com/example/matchstone/matchstone/Price")) (by decide)
    have F_bookSide_qb : Fld Z h105 qb "com/example/matchstone/matchstone/PriceLevel" "bookSide" "Lcom/example/matchstone/matchstone/BookSide;" .null := D105 (Or.inr (hw _ (List.mem_of_getElem? (i := 42) rfl))) (ty := (.object "com/example/matchstone/matchstone/BookSide")) (by decide)
    refine Go.step st105 ?_
    show Go _ _ _ _ _ _ _ (T105.setTop (mkF m 96 #[.val (.long av), .second, .val (.long bv), .second, .val (.long cv), .second, .val (.int fl), .val (.long kb), .second, .val (.long kc), .second, .val (.int (1 : Int32)), .val (.int pb), .val (.int pc), .val (.ref li), .val (.ref qa), .unset, .unset, .unset, .unset, .unset, .unset] [(.ref qb)]))
    refine Go.step (fun t k => XS.dup X105.here hx rfl (hb hby at_96) rfl rfl (XS.aconstNull X105.here hx rfl (hb hby at_97) (XS.aconstNull X105.here hx rfl (hb hby at_98) k))) ?_
    show Go _ _ _ _ _ _ _ (T105.setTop (mkF m 99 #[.val (.long av), .second, .val (.long bv), .second, .val (.long cv), .second, .val (.int fl), .val (.long kb), .second, .val (.long kc), .second, .val (.int (1 : Int32)), .val (.int pb), .val (.int pc), .val (.ref li), .val (.ref qa), .unset, .unset, .unset, .unset, .unset, .unset] [.null, .null, (.ref qb), (.ref qb)]))
    obtain ⟨_, _, ⟨T106, L106, k106, n106⟩, -, X106, ⟨Lc106, hQ106, l106, y106, z106⟩, st106⟩ := X105.specialBack hx (y := (⟨"com/example/matchstone/matchstone/PriceLevel", "<init>", "(Lcom/example/matchstone/matchstone/Price;Lcom/example/matchstone/matchstone/BookSide;)V"⟩ : MethodName)) rfl hown (mvT hZ (hw _ (List.mem_of_getElem? (i := 35) rfl))) (mvT hZ (hw _ (List.mem_of_getElem? (i := 36) rfl))) (mvT hZ (hw _ (List.mem_of_getElem? (i := 37) rfl))) (by decide) (backOf (W := 1) (rm5 l Z a0 hw [] qb h105 n0 Z105 F_price_qb F_bookSide_qb E_qb g_qb) hZ (hw _ (List.mem_of_getElem? (i := 37) rfl)) (hw _ (List.mem_of_getElem? (i := 34) rfl)) (by decide) (by decide)) (g := (mkF m 99 #[.val (.long av), .second, .val (.long bv), .second, .val (.long cv), .second, .val (.int fl), .val (.long kb), .second, .val (.long kc), .second, .val (.int (1 : Int32)), .val (.int pb), .val (.int pc), .val (.ref li), .val (.ref qa), .unset, .unset, .unset, .unset, .unset, .unset] [.null, .null, (.ref qb), (.ref qb)])) rfl (by rw [hml]; rfl) (Steps.refl _) (a := qb) (argsL := [.null, .null]) (rest := [(.ref qb)]) (lenOf pd_0_4 rfl) rfl (by show 2 * 0 + _ ≤ _; exact Nat.le_of_eq rfl) (hb hby at_99) (fun _ _ => ⟨rfl, e105, (by decide : 6 + 0 ≤ _), (by decide : 156 + 0 ≤ _)⟩)
    dsimp only [Pt.U, Pt.locs, Pt.cells, Pt.slots] at X106 l106 y106 z106 st106 hQ106
    subst l106 y106 z106
    obtain ⟨rfl, N106q, K106q, o106_E_qb⟩ := hQ106
    have N106 := Fr.app N104 N106q
    replace E_li := E_li.keep K106q
    replace F_root_li := F_root_li.keep K106q (ninS ne_li_qb nin0)
    replace F_last_li := F_last_li.keep K106q (ninS ne_li_qb nin0)
    replace F_ahead_li := F_ahead_li.keep K106q (ninS ne_li_qb nin0)
    replace F_keys_nd := F_keys_nd.keep K106q (ninS ne_nd_qb nin0)
    replace F_levels_nd := F_levels_nd.keep K106q (ninS ne_nd_qb nin0)
    replace F_children_nd := F_children_nd.keep K106q (ninS ne_nd_qb nin0)
    replace F_size_nd := F_size_nd.keep K106q (ninS ne_nd_qb nin0)
    replace F_next_nd := F_next_nd.keep K106q (ninS ne_nd_qb nin0)
    replace F_previous_nd := F_previous_nd.keep K106q (ninS ne_nd_qb nin0)
    replace E_nd := E_nd.keep K106q
    replace A_kr := A_kr.keep K106q (ninS ne_kr_qb nin0)
    replace R_lr := R_lr.keep K106q (ninS ne_lr_qb nin0)
    replace E_qa := E_qa.keep K106q
    replace E_qb := E_qb.keep K106q
    have Z106 := Nat.le_trans Z105 K106q.1
    have E_qb := o106_E_qb
    refine Go.step (fun t k => st106.trans k) ?_
    show Go _ _ _ _ _ _ _ (T106.setTop (mkF m 102 #[.val (.long av), .second, .val (.long bv), .second, .val (.long cv), .second, .val (.int fl), .val (.long kb), .second, .val (.long kc), .second, .val (.int (1 : Int32)), .val (.int pb), .val (.int pc), .val (.ref li), .val (.ref qa), .unset, .unset, .unset, .unset, .unset, .unset] [(.ref qb)]))
    refine Go.step (fun t k => XS.astore X106.here hx rfl (hb hby at_102) rfl rfl (l' := #[.val (.long av), .second, .val (.long bv), .second, .val (.long cv), .second, .val (.int fl), .val (.long kb), .second, .val (.long kc), .second, .val (.int (1 : Int32)), .val (.int pb), .val (.int pc), .val (.ref li), .val (.ref qa), .val (.ref qb), .unset, .unset, .unset, .unset, .unset]) rfl k) ?_
    show Go _ _ _ _ _ _ _ (T106.setTop (mkF m 104 #[.val (.long av), .second, .val (.long bv), .second, .val (.long cv), .second, .val (.int fl), .val (.long kb), .second, .val (.long kc), .second, .val (.int (1 : Int32)), .val (.int pb), .val (.int pc), .val (.ref li), .val (.ref qa), .val (.ref qb), .unset, .unset, .unset, .unset, .unset] []))
    obtain ⟨T107, h107, X107, e107, E107, A107, D107, -, st107⟩ := newO X106 hx hZ hown (hw _ (List.mem_of_getElem? (i := 32) rfl)) (hw _ (List.mem_of_getElem? (i := 33) rfl)) (hw _ (List.mem_of_getElem? (i := 34) rfl)) rfl (g := (mkF m 104 #[.val (.long av), .second, .val (.long bv), .second, .val (.long cv), .second, .val (.int fl), .val (.long kb), .second, .val (.long kc), .second, .val (.int (1 : Int32)), .val (.int pb), .val (.int pc), .val (.ref li), .val (.ref qa), .val (.ref qb), .unset, .unset, .unset, .unset, .unset] [])) rfl (hb hby at_104) (by decide) (by decide)
    obtain ⟨qc, gz107⟩ : ∃ z, z = T106.heap.size := ⟨_, rfl⟩
    have ne_li_qc : li ≠ qc := Nat.ne_of_lt (Nat.lt_of_lt_of_le E_li.lt (Nat.le_of_eq gz107.symm))
    have ne_nd_qc : nd ≠ qc := Nat.ne_of_lt (Nat.lt_of_lt_of_le F_keys_nd.lt (Nat.le_of_eq gz107.symm))
    have ne_kr_qc : kr ≠ qc := Nat.ne_of_lt (Nat.lt_of_lt_of_le A_kr.lt (Nat.le_of_eq gz107.symm))
    have ne_lr_qc : lr ≠ qc := Nat.ne_of_lt (Nat.lt_of_lt_of_le R_lr.lt (Nat.le_of_eq gz107.symm))
    have ne_qa_qc : qa ≠ qc := Nat.ne_of_lt (Nat.lt_of_lt_of_le E_qa.lt (Nat.le_of_eq gz107.symm))
    have ne_qb_qc : qb ≠ qc := Nat.ne_of_lt (Nat.lt_of_lt_of_le E_qb.lt (Nat.le_of_eq gz107.symm))
    have g_qc : n0 ≤ qc := Nat.le_trans Z106 (Nat.le_of_eq gz107.symm)
    rw [← gz107] at A107 D107 st107
    replace E_li := E_li.ext E107
    replace F_root_li := F_root_li.ext E107
    replace F_last_li := F_last_li.ext E107
    replace F_ahead_li := F_ahead_li.ext E107
    replace F_keys_nd := F_keys_nd.ext E107
    replace F_levels_nd := F_levels_nd.ext E107
    replace F_children_nd := F_children_nd.ext E107
    replace F_size_nd := F_size_nd.ext E107
    replace F_next_nd := F_next_nd.ext E107
    replace F_previous_nd := F_previous_nd.ext E107
    replace E_nd := E_nd.ext E107
    replace A_kr := A_kr.ext E107
    replace R_lr := R_lr.ext E107
    replace E_qa := E_qa.ext E107
    replace E_qb := E_qb.ext E107
    have Z107 := Nat.le_trans Z106 E107.1
    have E_qc := A107
    have F_price_qc : Fld Z h107 qc "com/example/matchstone/matchstone/PriceLevel" "price" "Lcom/example/matchstone/matchstone/Price;" .null := D107 (Or.inr (hw _ (List.mem_of_getElem? (i := 40) rfl))) (ty := (.object "com/example/matchstone/matchstone/Price")) (by decide)
    have F_bookSide_qc : Fld Z h107 qc "com/example/matchstone/matchstone/PriceLevel" "bookSide" "Lcom/example/matchstone/matchstone/BookSide;" .null := D107 (Or.inr (hw _ (List.mem_of_getElem? (i := 42) rfl))) (ty := (.object "com/example/matchstone/matchstone/BookSide")) (by decide)
    refine Go.step st107 ?_
    show Go _ _ _ _ _ _ _ (T107.setTop (mkF m 107 #[.val (.long av), .second, .val (.long bv), .second, .val (.long cv), .second, .val (.int fl), .val (.long kb), .second, .val (.long kc), .second, .val (.int (1 : Int32)), .val (.int pb), .val (.int pc), .val (.ref li), .val (.ref qa), .val (.ref qb), .unset, .unset, .unset, .unset, .unset] [(.ref qc)]))
    refine Go.step (fun t k => XS.dup X107.here hx rfl (hb hby at_107) rfl rfl (XS.aconstNull X107.here hx rfl (hb hby at_108) (XS.aconstNull X107.here hx rfl (hb hby at_109) k))) ?_
    show Go _ _ _ _ _ _ _ (T107.setTop (mkF m 110 #[.val (.long av), .second, .val (.long bv), .second, .val (.long cv), .second, .val (.int fl), .val (.long kb), .second, .val (.long kc), .second, .val (.int (1 : Int32)), .val (.int pb), .val (.int pc), .val (.ref li), .val (.ref qa), .val (.ref qb), .unset, .unset, .unset, .unset, .unset] [.null, .null, (.ref qc), (.ref qc)]))
    obtain ⟨_, _, ⟨T108, L108, k108, n108⟩, -, X108, ⟨Lc108, hQ108, l108, y108, z108⟩, st108⟩ := X107.specialBack hx (y := (⟨"com/example/matchstone/matchstone/PriceLevel", "<init>", "(Lcom/example/matchstone/matchstone/Price;Lcom/example/matchstone/matchstone/BookSide;)V"⟩ : MethodName)) rfl hown (mvT hZ (hw _ (List.mem_of_getElem? (i := 35) rfl))) (mvT hZ (hw _ (List.mem_of_getElem? (i := 36) rfl))) (mvT hZ (hw _ (List.mem_of_getElem? (i := 37) rfl))) (by decide) (backOf (W := 1) (rm5 l Z a0 hw [] qc h107 n0 Z107 F_price_qc F_bookSide_qc E_qc g_qc) hZ (hw _ (List.mem_of_getElem? (i := 37) rfl)) (hw _ (List.mem_of_getElem? (i := 34) rfl)) (by decide) (by decide)) (g := (mkF m 110 #[.val (.long av), .second, .val (.long bv), .second, .val (.long cv), .second, .val (.int fl), .val (.long kb), .second, .val (.long kc), .second, .val (.int (1 : Int32)), .val (.int pb), .val (.int pc), .val (.ref li), .val (.ref qa), .val (.ref qb), .unset, .unset, .unset, .unset, .unset] [.null, .null, (.ref qc), (.ref qc)])) rfl (by rw [hml]; rfl) (Steps.refl _) (a := qc) (argsL := [.null, .null]) (rest := [(.ref qc)]) (lenOf pd_0_4 rfl) rfl (by show 2 * 0 + _ ≤ _; exact Nat.le_of_eq rfl) (hb hby at_110) (fun _ _ => ⟨rfl, e107, (by decide : 7 + 0 ≤ _), (by decide : 164 + 0 ≤ _)⟩)
    dsimp only [Pt.U, Pt.locs, Pt.cells, Pt.slots] at X108 l108 y108 z108 st108 hQ108
    subst l108 y108 z108
    obtain ⟨rfl, N108q, K108q, o108_E_qc⟩ := hQ108
    have N108 := Fr.app N106 N108q
    replace E_li := E_li.keep K108q
    replace F_root_li := F_root_li.keep K108q (ninS ne_li_qc nin0)
    replace F_last_li := F_last_li.keep K108q (ninS ne_li_qc nin0)
    replace F_ahead_li := F_ahead_li.keep K108q (ninS ne_li_qc nin0)
    replace F_keys_nd := F_keys_nd.keep K108q (ninS ne_nd_qc nin0)
    replace F_levels_nd := F_levels_nd.keep K108q (ninS ne_nd_qc nin0)
    replace F_children_nd := F_children_nd.keep K108q (ninS ne_nd_qc nin0)
    replace F_size_nd := F_size_nd.keep K108q (ninS ne_nd_qc nin0)
    replace F_next_nd := F_next_nd.keep K108q (ninS ne_nd_qc nin0)
    replace F_previous_nd := F_previous_nd.keep K108q (ninS ne_nd_qc nin0)
    replace E_nd := E_nd.keep K108q
    replace A_kr := A_kr.keep K108q (ninS ne_kr_qc nin0)
    replace R_lr := R_lr.keep K108q (ninS ne_lr_qc nin0)
    replace E_qa := E_qa.keep K108q
    replace E_qb := E_qb.keep K108q
    replace E_qc := E_qc.keep K108q
    have Z108 := Nat.le_trans Z107 K108q.1
    have E_qc := o108_E_qc
    refine Go.step (fun t k => st108.trans k) ?_
    show Go _ _ _ _ _ _ _ (T108.setTop (mkF m 113 #[.val (.long av), .second, .val (.long bv), .second, .val (.long cv), .second, .val (.int fl), .val (.long kb), .second, .val (.long kc), .second, .val (.int (1 : Int32)), .val (.int pb), .val (.int pc), .val (.ref li), .val (.ref qa), .val (.ref qb), .unset, .unset, .unset, .unset, .unset] [(.ref qc)]))
    refine Go.step (fun t k => XS.astore X108.here hx rfl (hb hby at_113) rfl rfl (l' := #[.val (.long av), .second, .val (.long bv), .second, .val (.long cv), .second, .val (.int fl), .val (.long kb), .second, .val (.long kc), .second, .val (.int (1 : Int32)), .val (.int pb), .val (.int pc), .val (.ref li), .val (.ref qa), .val (.ref qb), .val (.ref qc), .unset, .unset, .unset, .unset]) rfl (XS.aload X108.here hx rfl (hb hby at_115) rfl rfl (XS.lloadN X108.here hx rfl (hb hby at_117) rfl (XS.aload X108.here hx rfl (hb hby at_118) rfl rfl k)))) ?_
    show Go _ _ _ _ _ _ _ (T108.setTop (own_f0 m 120 av bv cv fl kb kc 1 pb pc li qa qb qc [(.ref qa), (.long av), (.ref li)]))
    obtain ⟨cq109, kq109, q109a, q109b, q109c⟩ := isOf hZ rfl E_li
    obtain ⟨_, _, ⟨T109, L109, k109, n109⟩, -, X109, ⟨Lc109, hQ109, l109, y109, z109⟩, st109⟩ := X108.virtualBack hx (y := (⟨"com/example/matchstone/matchstone/LevelIndex", "put", "(JLcom/example/matchstone/matchstone/PriceLevel;)Lcom/example/matchstone/matchstone/PriceLevel;"⟩ : MethodName)) (z := (⟨"com/example/matchstone/matchstone/LevelIndex", "put", "(JLcom/example/matchstone/matchstone/PriceLevel;)Lcom/example/matchstone/matchstone/PriceLevel;"⟩ : MethodName)) hown (mvT hZ (hw _ (List.mem_of_getElem? (i := 43) rfl))) (mvT hZ (hw _ (List.mem_of_getElem? (i := 44) rfl))) (notFace_of_selects (args := #[]) (mvT hZ (hw _ (List.mem_of_getElem? (i := 46) rfl)))) (mvT hZ (hw _ (List.mem_of_getElem? (i := 46) rfl))) (mvT hZ (hw _ (List.mem_of_getElem? (i := 45) rfl))) (by decide) (backOf (W := 0) (rm6_0 l Z a0 hw [] li av qa nd kr lr (fun _ => (0 : Int64)) (fun _ => .null) .null T108.heap n0 Z108 F_root_li F_last_li F_ahead_li E_li g_li F_keys_nd F_levels_nd F_children_nd F_size_nd F_next_nd F_previous_nd E_nd A_kr R_lr g_nd g_kr g_lr o102_ne_kr_lr E_qa (fun i j _ h => absurd h (by omega)) own_I.new0) hZ (hw _ (List.mem_of_getElem? (i := 47) rfl)) (hw _ (List.mem_of_getElem? (i := 2) rfl)) (by decide) (by decide)) q109a q109c (g := (own_f0 m 120 av bv cv fl kb kc 1 pb pc li qa qb qc [(.ref qa), (.long av), (.ref li)])) rfl (by rw [hml]; rfl) (Steps.refl _) (argsL := [(.long av), (.ref qa)]) (rest := []) (lenOf pd_0_5 rfl) rfl (by show 2 * 0 + _ ≤ _; exact Nat.le_of_eq rfl) (hb hby at_120) (fun _ _ => ⟨rfl, rfl, (by decide : 7 + 0 ≤ _), (by decide : 164 + 0 ≤ _)⟩)
    dsimp only [Pt.U, Pt.locs, Pt.cells, Pt.slots] at X109 l109 y109 z109 st109 hQ109
    subst l109 y109 z109
    obtain ⟨vv_109, pn_109, w_109, gk2_109, gl2_109, rfl, N109q, K109q, o109_hpn, o109_hlo, o109_hhi, o109_hvr, o109_hgk, o109_hgl, o109_F_root_li, o109_F_last_li, o109_F_ahead_li, o109_E_li, o109_F_keys_nd, o109_F_levels_nd, o109_F_children_nd, o109_F_size_nd, o109_F_next_nd, o109_F_previous_nd, o109_E_nd, o109_A_kr, o109_R_lr⟩ := hQ109
    have N109 := Fr.app N108 N109q
    replace E_li := E_li.keep K109q
    replace E_nd := E_nd.keep K109q
    replace E_qa := E_qa.keep K109q
    replace E_qb := E_qb.keep K109q
    replace E_qc := E_qc.keep K109q
    have Z109 := Nat.le_trans Z108 K109q.1
    have F_root_li := o109_F_root_li
    have F_last_li := o109_F_last_li
    have F_ahead_li := o109_F_ahead_li
    have E_li := o109_E_li
    have F_keys_nd := o109_F_keys_nd
    have F_levels_nd := o109_F_levels_nd
    have F_children_nd := o109_F_children_nd
    have F_size_nd := o109_F_size_nd
    have F_next_nd := o109_F_next_nd
    have F_previous_nd := o109_F_previous_nd
    have E_nd := o109_E_nd
    have A_kr := o109_A_kr
    have R_lr := o109_R_lr
    refine Go.step (fun t k => st109.trans k) ?_
    show Go _ _ _ _ _ _ _ (T109.setTop (own_f0 m 123 av bv cv fl kb kc 1 pb pc li qa qb qc [vv_109]))
    have hI_110 : own_I 1 gk2_109 gl2_109 true false false av kb kc qa qb qc := by rw [o109_hgk, o109_hgl]; exact own_I.putA (n := 0) own_I.nil (fun q => absurd q (by decide)) (fun q => absurd q (by decide)) o109_hpn o109_hlo o109_hhi
    refine Go.step (fun t k => XS.pop X109.here hx rfl (hb hby at_123) rfl (own_cat o109_hvr) k) ?_
    show Go _ _ _ _ _ _ _ (T109.setTop (own_f0 m 124 av bv cv fl kb kc 1 pb pc li qa qb qc []))
    rcases hpb with rfl | ⟨rfl, hab⟩
    · show Go _ _ _ _ _ _ _ (T109.setTop (own_f0 m 124 av bv cv fl kb kc 1 0 pc li qa qb qc []))
      refine Go.step (fun t k => XS.iload X109.here hx rfl (hb hby at_124) rfl k) ?_
      show Go _ _ _ _ _ _ _ (T109.setTop (own_f0 m 126 av bv cv fl kb kc 1 0 pc li qa qb qc [(.int (0 : Int32))]))
      refine Go.step (fun t k => XS.ifYes X109.here hx rfl (pc0 := 126) (pc' := 139) rfl (hb hby at_126) rfl ((if0 _ _).trans (teq (by decide : (0 : Int32) = (0 : Int32))).1) (by decide) (by decide) k) ?_
      show Go _ _ _ _ _ _ _ (T109.setTop (own_f0 m 139 av bv cv fl kb kc 1 0 pc li qa qb qc []))
      rcases hpc with rfl | ⟨rfl, hac, hbc⟩
      · show Go _ _ _ _ _ _ _ (T109.setTop (own_f0 m 139 av bv cv fl kb kc 1 0 0 li qa qb qc []))
        refine Go.step (fun t k => XS.iload X109.here hx rfl (hb hby at_139) rfl k) ?_
        show Go _ _ _ _ _ _ _ (T109.setTop (own_f0 m 141 av bv cv fl kb kc 1 0 0 li qa qb qc [(.int (0 : Int32))]))
        refine Go.step (fun t k => XS.ifYes X109.here hx rfl (pc0 := 141) (pc' := 154) rfl (hb hby at_141) rfl ((if0 _ _).trans (teq (by decide : (0 : Int32) = (0 : Int32))).1) (by decide) (by decide) k) ?_
        show Go _ _ _ _ _ _ _ (T109.setTop (own_f0 m 154 av bv cv fl kb kc 1 0 0 li qa qb qc []))
        exact L154_100 _ _ _ kb kc li qa qb qc nd kr lr gk2_109 gl2_109 w_109 X109 rfl N109 Z109 F_root_li F_last_li F_ahead_li E_li g_li F_keys_nd F_levels_nd F_children_nd F_size_nd F_next_nd F_previous_nd E_nd A_kr R_lr g_nd g_kr g_lr o102_ne_kr_lr hI_110
      · show Go _ _ _ _ _ _ _ (T109.setTop (own_f0 m 139 av bv cv fl kb kc 1 0 1 li qa qb qc []))
        refine Go.step (fun t k => XS.iload X109.here hx rfl (hb hby at_139) rfl k) ?_
        show Go _ _ _ _ _ _ _ (T109.setTop (own_f0 m 141 av bv cv fl kb kc 1 0 1 li qa qb qc [(.int (1 : Int32))]))
        refine Go.step (fun t k => XS.ifNo X109.here hx rfl (hb hby at_141) rfl ((if0 _ _).trans (feq (by decide : ¬ (1 : Int32) = (0 : Int32))).1) k) ?_
        show Go _ _ _ _ _ _ _ (T109.setTop (own_f0 m 144 av bv cv fl kb kc 1 0 1 li qa qb qc []))
        refine Go.step (fun t k => XS.aload X109.here hx rfl (hb hby at_144) rfl rfl (XS.lload X109.here hx rfl (hb hby at_146) rfl (XS.aload X109.here hx rfl (hb hby at_148) rfl rfl k))) ?_
        show Go _ _ _ _ _ _ _ (T109.setTop (own_f0 m 150 av bv cv fl kb kc 1 0 1 li qa qb qc [(.ref qc), (.long kc), (.ref li)]))
        obtain ⟨cq111, kq111, q111a, q111b, q111c⟩ := isOf hZ rfl E_li
        obtain ⟨_, _, ⟨T111, L111, k111, n111⟩, -, X111, ⟨Lc111, hQ111, l111, y111, z111⟩, st111⟩ := X109.virtualBack hx (y := (⟨"com/example/matchstone/matchstone/LevelIndex", "put", "(JLcom/example/matchstone/matchstone/PriceLevel;)Lcom/example/matchstone/matchstone/PriceLevel;"⟩ : MethodName)) (z := (⟨"com/example/matchstone/matchstone/LevelIndex", "put", "(JLcom/example/matchstone/matchstone/PriceLevel;)Lcom/example/matchstone/matchstone/PriceLevel;"⟩ : MethodName)) hown (mvT hZ (hw _ (List.mem_of_getElem? (i := 43) rfl))) (mvT hZ (hw _ (List.mem_of_getElem? (i := 44) rfl))) (notFace_of_selects (args := #[]) (mvT hZ (hw _ (List.mem_of_getElem? (i := 46) rfl)))) (mvT hZ (hw _ (List.mem_of_getElem? (i := 46) rfl))) (mvT hZ (hw _ (List.mem_of_getElem? (i := 45) rfl))) (by decide) (backOf (W := 0) (rm6 l Z a0 hw [] li kc qc nd kr lr gk2_109 gl2_109 (1 : Int32) 1 w_109 T109.heap n0 Z109 F_root_li F_last_li F_ahead_li E_li g_li F_keys_nd F_levels_nd F_children_nd F_size_nd F_next_nd F_previous_nd E_nd A_kr R_lr g_nd g_kr g_lr o102_ne_kr_lr E_qc (by decide) (by decide) (by decide) (own_I.srt hI_110) (own_I.newC hI_110 (fun _ => hac) (fun _ => hbc))) hZ (hw _ (List.mem_of_getElem? (i := 47) rfl)) (hw _ (List.mem_of_getElem? (i := 2) rfl)) (by decide) (by decide)) q111a q111c (g := (own_f0 m 150 av bv cv fl kb kc 1 0 1 li qa qb qc [(.ref qc), (.long kc), (.ref li)])) rfl (by rw [hml]; rfl) (Steps.refl _) (argsL := [(.long kc), (.ref qc)]) (rest := []) (lenOf pd_0_5 rfl) rfl (by show 2 * 0 + _ ≤ _; exact Nat.le_of_eq rfl) (hb hby at_150) (fun _ _ => ⟨rfl, rfl, (by decide : 7 + 0 ≤ _), (by decide : 164 + 0 ≤ _)⟩)
        dsimp only [Pt.U, Pt.locs, Pt.cells, Pt.slots] at X111 l111 y111 z111 st111 hQ111
        subst l111 y111 z111
        obtain ⟨vv_111, pn_111, w_111, gk2_111, gl2_111, rfl, N111q, K111q, o111_hpn, o111_hlo, o111_hhi, o111_hvr, o111_hgk, o111_hgl, o111_F_root_li, o111_F_last_li, o111_F_ahead_li, o111_E_li, o111_F_keys_nd, o111_F_levels_nd, o111_F_children_nd, o111_F_size_nd, o111_F_next_nd, o111_F_previous_nd, o111_E_nd, o111_A_kr, o111_R_lr⟩ := hQ111
        have N111 := Fr.app N109 N111q
        replace E_li := E_li.keep K111q
        replace E_nd := E_nd.keep K111q
        replace E_qa := E_qa.keep K111q
        replace E_qb := E_qb.keep K111q
        replace E_qc := E_qc.keep K111q
        have Z111 := Nat.le_trans Z109 K111q.1
        have F_root_li := o111_F_root_li
        have F_last_li := o111_F_last_li
        have F_ahead_li := o111_F_ahead_li
        have E_li := o111_E_li
        have F_keys_nd := o111_F_keys_nd
        have F_levels_nd := o111_F_levels_nd
        have F_children_nd := o111_F_children_nd
        have F_size_nd := o111_F_size_nd
        have F_next_nd := o111_F_next_nd
        have F_previous_nd := o111_F_previous_nd
        have E_nd := o111_E_nd
        have A_kr := o111_A_kr
        have R_lr := o111_R_lr
        refine Go.step (fun t k => st111.trans k) ?_
        show Go _ _ _ _ _ _ _ (T111.setTop (own_f0 m 153 av bv cv fl kb kc 1 0 1 li qa qb qc [vv_111]))
        have hI_112 : own_I 2 gk2_111 gl2_111 true false true av kb kc qa qb qc := by rw [o111_hgk, o111_hgl]; exact own_I.putC (n := 1) hI_110 (fun _ => hac) (fun _ => hbc) o111_hpn o111_hlo o111_hhi
        refine Go.step (fun t k => XS.pop X111.here hx rfl (hb hby at_153) rfl (own_cat o111_hvr) k) ?_
        show Go _ _ _ _ _ _ _ (T111.setTop (own_f0 m 154 av bv cv fl kb kc 1 0 1 li qa qb qc []))
        exact L154_101 _ _ _ kb kc li qa qb qc nd kr lr gk2_111 gl2_111 w_111 X111 rfl N111 Z111 F_root_li F_last_li F_ahead_li E_li g_li F_keys_nd F_levels_nd F_children_nd F_size_nd F_next_nd F_previous_nd E_nd A_kr R_lr g_nd g_kr g_lr o102_ne_kr_lr hI_112
    · show Go _ _ _ _ _ _ _ (T109.setTop (own_f0 m 124 av bv cv fl kb kc 1 1 pc li qa qb qc []))
      refine Go.step (fun t k => XS.iload X109.here hx rfl (hb hby at_124) rfl k) ?_
      show Go _ _ _ _ _ _ _ (T109.setTop (own_f0 m 126 av bv cv fl kb kc 1 1 pc li qa qb qc [(.int (1 : Int32))]))
      refine Go.step (fun t k => XS.ifNo X109.here hx rfl (hb hby at_126) rfl ((if0 _ _).trans (feq (by decide : ¬ (1 : Int32) = (0 : Int32))).1) k) ?_
      show Go _ _ _ _ _ _ _ (T109.setTop (own_f0 m 129 av bv cv fl kb kc 1 1 pc li qa qb qc []))
      refine Go.step (fun t k => XS.aload X109.here hx rfl (hb hby at_129) rfl rfl (XS.lload X109.here hx rfl (hb hby at_131) rfl (XS.aload X109.here hx rfl (hb hby at_133) rfl rfl k))) ?_
      show Go _ _ _ _ _ _ _ (T109.setTop (own_f0 m 135 av bv cv fl kb kc 1 1 pc li qa qb qc [(.ref qb), (.long kb), (.ref li)]))
      obtain ⟨cq113, kq113, q113a, q113b, q113c⟩ := isOf hZ rfl E_li
      obtain ⟨_, _, ⟨T113, L113, k113, n113⟩, -, X113, ⟨Lc113, hQ113, l113, y113, z113⟩, st113⟩ := X109.virtualBack hx (y := (⟨"com/example/matchstone/matchstone/LevelIndex", "put", "(JLcom/example/matchstone/matchstone/PriceLevel;)Lcom/example/matchstone/matchstone/PriceLevel;"⟩ : MethodName)) (z := (⟨"com/example/matchstone/matchstone/LevelIndex", "put", "(JLcom/example/matchstone/matchstone/PriceLevel;)Lcom/example/matchstone/matchstone/PriceLevel;"⟩ : MethodName)) hown (mvT hZ (hw _ (List.mem_of_getElem? (i := 43) rfl))) (mvT hZ (hw _ (List.mem_of_getElem? (i := 44) rfl))) (notFace_of_selects (args := #[]) (mvT hZ (hw _ (List.mem_of_getElem? (i := 46) rfl)))) (mvT hZ (hw _ (List.mem_of_getElem? (i := 46) rfl))) (mvT hZ (hw _ (List.mem_of_getElem? (i := 45) rfl))) (by decide) (backOf (W := 0) (rm6 l Z a0 hw [] li kb qb nd kr lr gk2_109 gl2_109 (1 : Int32) 1 w_109 T109.heap n0 Z109 F_root_li F_last_li F_ahead_li E_li g_li F_keys_nd F_levels_nd F_children_nd F_size_nd F_next_nd F_previous_nd E_nd A_kr R_lr g_nd g_kr g_lr o102_ne_kr_lr E_qb (by decide) (by decide) (by decide) (own_I.srt hI_110) (own_I.newB hI_110 (fun _ => hab) (fun q => absurd q (by decide)))) hZ (hw _ (List.mem_of_getElem? (i := 47) rfl)) (hw _ (List.mem_of_getElem? (i := 2) rfl)) (by decide) (by decide)) q113a q113c (g := (own_f0 m 135 av bv cv fl kb kc 1 1 pc li qa qb qc [(.ref qb), (.long kb), (.ref li)])) rfl (by rw [hml]; rfl) (Steps.refl _) (argsL := [(.long kb), (.ref qb)]) (rest := []) (lenOf pd_0_5 rfl) rfl (by show 2 * 0 + _ ≤ _; exact Nat.le_of_eq rfl) (hb hby at_135) (fun _ _ => ⟨rfl, rfl, (by decide : 7 + 0 ≤ _), (by decide : 164 + 0 ≤ _)⟩)
      dsimp only [Pt.U, Pt.locs, Pt.cells, Pt.slots] at X113 l113 y113 z113 st113 hQ113
      subst l113 y113 z113
      obtain ⟨vv_113, pn_113, w_113, gk2_113, gl2_113, rfl, N113q, K113q, o113_hpn, o113_hlo, o113_hhi, o113_hvr, o113_hgk, o113_hgl, o113_F_root_li, o113_F_last_li, o113_F_ahead_li, o113_E_li, o113_F_keys_nd, o113_F_levels_nd, o113_F_children_nd, o113_F_size_nd, o113_F_next_nd, o113_F_previous_nd, o113_E_nd, o113_A_kr, o113_R_lr⟩ := hQ113
      have N113 := Fr.app N109 N113q
      replace E_li := E_li.keep K113q
      replace E_nd := E_nd.keep K113q
      replace E_qa := E_qa.keep K113q
      replace E_qb := E_qb.keep K113q
      replace E_qc := E_qc.keep K113q
      have Z113 := Nat.le_trans Z109 K113q.1
      have F_root_li := o113_F_root_li
      have F_last_li := o113_F_last_li
      have F_ahead_li := o113_F_ahead_li
      have E_li := o113_E_li
      have F_keys_nd := o113_F_keys_nd
      have F_levels_nd := o113_F_levels_nd
      have F_children_nd := o113_F_children_nd
      have F_size_nd := o113_F_size_nd
      have F_next_nd := o113_F_next_nd
      have F_previous_nd := o113_F_previous_nd
      have E_nd := o113_E_nd
      have A_kr := o113_A_kr
      have R_lr := o113_R_lr
      refine Go.step (fun t k => st113.trans k) ?_
      show Go _ _ _ _ _ _ _ (T113.setTop (own_f0 m 138 av bv cv fl kb kc 1 1 pc li qa qb qc [vv_113]))
      have hI_114 : own_I 2 gk2_113 gl2_113 true true false av kb kc qa qb qc := by rw [o113_hgk, o113_hgl]; exact own_I.putB (n := 1) hI_110 (fun _ => hab) (fun q => absurd q (by decide)) o113_hpn o113_hlo o113_hhi
      refine Go.step (fun t k => XS.pop X113.here hx rfl (hb hby at_138) rfl (own_cat o113_hvr) k) ?_
      show Go _ _ _ _ _ _ _ (T113.setTop (own_f0 m 139 av bv cv fl kb kc 1 1 pc li qa qb qc []))
      rcases hpc with rfl | ⟨rfl, hac, hbc⟩
      · show Go _ _ _ _ _ _ _ (T113.setTop (own_f0 m 139 av bv cv fl kb kc 1 1 0 li qa qb qc []))
        refine Go.step (fun t k => XS.iload X113.here hx rfl (hb hby at_139) rfl k) ?_
        show Go _ _ _ _ _ _ _ (T113.setTop (own_f0 m 141 av bv cv fl kb kc 1 1 0 li qa qb qc [(.int (0 : Int32))]))
        refine Go.step (fun t k => XS.ifYes X113.here hx rfl (pc0 := 141) (pc' := 154) rfl (hb hby at_141) rfl ((if0 _ _).trans (teq (by decide : (0 : Int32) = (0 : Int32))).1) (by decide) (by decide) k) ?_
        show Go _ _ _ _ _ _ _ (T113.setTop (own_f0 m 154 av bv cv fl kb kc 1 1 0 li qa qb qc []))
        exact L154_110 _ _ _ kb kc li qa qb qc nd kr lr gk2_113 gl2_113 w_113 X113 rfl N113 Z113 F_root_li F_last_li F_ahead_li E_li g_li F_keys_nd F_levels_nd F_children_nd F_size_nd F_next_nd F_previous_nd E_nd A_kr R_lr g_nd g_kr g_lr o102_ne_kr_lr hI_114
      · show Go _ _ _ _ _ _ _ (T113.setTop (own_f0 m 139 av bv cv fl kb kc 1 1 1 li qa qb qc []))
        refine Go.step (fun t k => XS.iload X113.here hx rfl (hb hby at_139) rfl k) ?_
        show Go _ _ _ _ _ _ _ (T113.setTop (own_f0 m 141 av bv cv fl kb kc 1 1 1 li qa qb qc [(.int (1 : Int32))]))
        refine Go.step (fun t k => XS.ifNo X113.here hx rfl (hb hby at_141) rfl ((if0 _ _).trans (feq (by decide : ¬ (1 : Int32) = (0 : Int32))).1) k) ?_
        show Go _ _ _ _ _ _ _ (T113.setTop (own_f0 m 144 av bv cv fl kb kc 1 1 1 li qa qb qc []))
        refine Go.step (fun t k => XS.aload X113.here hx rfl (hb hby at_144) rfl rfl (XS.lload X113.here hx rfl (hb hby at_146) rfl (XS.aload X113.here hx rfl (hb hby at_148) rfl rfl k))) ?_
        show Go _ _ _ _ _ _ _ (T113.setTop (own_f0 m 150 av bv cv fl kb kc 1 1 1 li qa qb qc [(.ref qc), (.long kc), (.ref li)]))
        obtain ⟨cq115, kq115, q115a, q115b, q115c⟩ := isOf hZ rfl E_li
        obtain ⟨_, _, ⟨T115, L115, k115, n115⟩, -, X115, ⟨Lc115, hQ115, l115, y115, z115⟩, st115⟩ := X113.virtualBack hx (y := (⟨"com/example/matchstone/matchstone/LevelIndex", "put", "(JLcom/example/matchstone/matchstone/PriceLevel;)Lcom/example/matchstone/matchstone/PriceLevel;"⟩ : MethodName)) (z := (⟨"com/example/matchstone/matchstone/LevelIndex", "put", "(JLcom/example/matchstone/matchstone/PriceLevel;)Lcom/example/matchstone/matchstone/PriceLevel;"⟩ : MethodName)) hown (mvT hZ (hw _ (List.mem_of_getElem? (i := 43) rfl))) (mvT hZ (hw _ (List.mem_of_getElem? (i := 44) rfl))) (notFace_of_selects (args := #[]) (mvT hZ (hw _ (List.mem_of_getElem? (i := 46) rfl)))) (mvT hZ (hw _ (List.mem_of_getElem? (i := 46) rfl))) (mvT hZ (hw _ (List.mem_of_getElem? (i := 45) rfl))) (by decide) (backOf (W := 0) (rm6 l Z a0 hw [] li kc qc nd kr lr gk2_113 gl2_113 (2 : Int32) 2 w_113 T113.heap n0 Z113 F_root_li F_last_li F_ahead_li E_li g_li F_keys_nd F_levels_nd F_children_nd F_size_nd F_next_nd F_previous_nd E_nd A_kr R_lr g_nd g_kr g_lr o102_ne_kr_lr E_qc (by decide) (by decide) (by decide) (own_I.srt hI_114) (own_I.newC hI_114 (fun _ => hac) (fun _ => hbc))) hZ (hw _ (List.mem_of_getElem? (i := 47) rfl)) (hw _ (List.mem_of_getElem? (i := 2) rfl)) (by decide) (by decide)) q115a q115c (g := (own_f0 m 150 av bv cv fl kb kc 1 1 1 li qa qb qc [(.ref qc), (.long kc), (.ref li)])) rfl (by rw [hml]; rfl) (Steps.refl _) (argsL := [(.long kc), (.ref qc)]) (rest := []) (lenOf pd_0_5 rfl) rfl (by show 2 * 0 + _ ≤ _; exact Nat.le_of_eq rfl) (hb hby at_150) (fun _ _ => ⟨rfl, rfl, (by decide : 7 + 0 ≤ _), (by decide : 164 + 0 ≤ _)⟩)
        dsimp only [Pt.U, Pt.locs, Pt.cells, Pt.slots] at X115 l115 y115 z115 st115 hQ115
        subst l115 y115 z115
        obtain ⟨vv_115, pn_115, w_115, gk2_115, gl2_115, rfl, N115q, K115q, o115_hpn, o115_hlo, o115_hhi, o115_hvr, o115_hgk, o115_hgl, o115_F_root_li, o115_F_last_li, o115_F_ahead_li, o115_E_li, o115_F_keys_nd, o115_F_levels_nd, o115_F_children_nd, o115_F_size_nd, o115_F_next_nd, o115_F_previous_nd, o115_E_nd, o115_A_kr, o115_R_lr⟩ := hQ115
        have N115 := Fr.app N113 N115q
        replace E_li := E_li.keep K115q
        replace E_nd := E_nd.keep K115q
        replace E_qa := E_qa.keep K115q
        replace E_qb := E_qb.keep K115q
        replace E_qc := E_qc.keep K115q
        have Z115 := Nat.le_trans Z113 K115q.1
        have F_root_li := o115_F_root_li
        have F_last_li := o115_F_last_li
        have F_ahead_li := o115_F_ahead_li
        have E_li := o115_E_li
        have F_keys_nd := o115_F_keys_nd
        have F_levels_nd := o115_F_levels_nd
        have F_children_nd := o115_F_children_nd
        have F_size_nd := o115_F_size_nd
        have F_next_nd := o115_F_next_nd
        have F_previous_nd := o115_F_previous_nd
        have E_nd := o115_E_nd
        have A_kr := o115_A_kr
        have R_lr := o115_R_lr
        refine Go.step (fun t k => st115.trans k) ?_
        show Go _ _ _ _ _ _ _ (T115.setTop (own_f0 m 153 av bv cv fl kb kc 1 1 1 li qa qb qc [vv_115]))
        have hI_116 : own_I 3 gk2_115 gl2_115 true true true av kb kc qa qb qc := by rw [o115_hgk, o115_hgl]; exact own_I.putC (n := 2) hI_114 (fun _ => hac) (fun _ => hbc) o115_hpn o115_hlo o115_hhi
        refine Go.step (fun t k => XS.pop X115.here hx rfl (hb hby at_153) rfl (own_cat o115_hvr) k) ?_
        show Go _ _ _ _ _ _ _ (T115.setTop (own_f0 m 154 av bv cv fl kb kc 1 1 1 li qa qb qc []))
        exact L154_111 _ _ _ kb kc li qa qb qc nd kr lr gk2_115 gl2_115 w_115 X115 rfl N115 Z115 F_root_li F_last_li F_ahead_li E_li g_li F_keys_nd F_levels_nd F_children_nd F_size_nd F_next_nd F_previous_nd E_nd A_kr R_lr g_nd g_kr g_lr o102_ne_kr_lr hI_116
  refine Go.step (fun t k => XS.iload X0.here hx rfl (hb hby at_0) rfl (XS.iconst X0.here hx rfl (hb hby at_2) (XS.ishr X0.here hx rfl (hb hby at_3) rfl (XS.iconst X0.here hx rfl (hb hby at_4) (XS.iand X0.here hx rfl (hb hby at_5) rfl k))))) ?_
  show Go _ _ _ _ _ _ _ (s₁.setTop (mkF m 6 #[.val (.long av), .second, .val (.long bv), .second, .val (.long cv), .second, .val (.int fl), .unset, .unset, .unset, .unset, .unset, .unset, .unset, .unset, .unset, .unset, .unset, .unset, .unset, .unset, .unset] [(.int ((fl >>> ((2 : Int32) &&& 31)) &&& (1 : Int32)))]))
  -- joined again at pc 14
  obtain ⟨kb, hkb⟩ : ∃ z : Int64, z = (if ((fl >>> ((2 : Int32) &&& 31)) &&& (1 : Int32)) = (0 : Int32) then bv else av) := ⟨_, rfl⟩
  have st117 : ∀ t, Steps p.tables e below (s₁.setTop (mkF m 14 #[.val (.long av), .second, .val (.long bv), .second, .val (.long cv), .second, .val (.int fl), .unset, .unset, .unset, .unset, .unset, .unset, .unset, .unset, .unset, .unset, .unset, .unset, .unset, .unset, .unset] [(.long kb)])) t → Steps p.tables e below (s₁.setTop (mkF m 6 #[.val (.long av), .second, .val (.long bv), .second, .val (.long cv), .second, .val (.int fl), .unset, .unset, .unset, .unset, .unset, .unset, .unset, .unset, .unset, .unset, .unset, .unset, .unset, .unset, .unset] [(.int ((fl >>> ((2 : Int32) &&& 31)) &&& (1 : Int32)))])) t := by
    intro t kt
    by_cases hd6_118 : ((fl >>> ((2 : Int32) &&& 31)) &&& (1 : Int32)) = (0 : Int32)
    · refine XS.ifYes X0.here hx rfl (pc0 := 6) (pc' := 13) rfl (hb hby at_6) rfl ((if0 _ _).trans (teq hd6_118).1) (by decide) (by decide) ?_
      show Steps p.tables e below (s₁.setTop (mkF m 13 #[.val (.long av), .second, .val (.long bv), .second, .val (.long cv), .second, .val (.int fl), .unset, .unset, .unset, .unset, .unset, .unset, .unset, .unset, .unset, .unset, .unset, .unset, .unset, .unset, .unset] [])) _
      refine XS.lloadN X0.here hx rfl (hb hby at_13) rfl ?_
      show Steps p.tables e below (s₁.setTop (mkF m 14 #[.val (.long av), .second, .val (.long bv), .second, .val (.long cv), .second, .val (.int fl), .unset, .unset, .unset, .unset, .unset, .unset, .unset, .unset, .unset, .unset, .unset, .unset, .unset, .unset, .unset] [(.long bv)])) _
      have qkb : kb = bv := by rw [hkb]; simp only [if_pos hd6_118]
      rw [qkb] at kt
      exact kt
    · refine XS.ifNo X0.here hx rfl (hb hby at_6) rfl ((if0 _ _).trans (feq hd6_118).1) ?_
      show Steps p.tables e below (s₁.setTop (mkF m 9 #[.val (.long av), .second, .val (.long bv), .second, .val (.long cv), .second, .val (.int fl), .unset, .unset, .unset, .unset, .unset, .unset, .unset, .unset, .unset, .unset, .unset, .unset, .unset, .unset, .unset] [])) _
      refine XS.lloadN X0.here hx rfl (hb hby at_9) rfl ?_
      show Steps p.tables e below (s₁.setTop (mkF m 10 #[.val (.long av), .second, .val (.long bv), .second, .val (.long cv), .second, .val (.int fl), .unset, .unset, .unset, .unset, .unset, .unset, .unset, .unset, .unset, .unset, .unset, .unset, .unset, .unset, .unset] [(.long av)])) _
      refine XS.goto X0.here hx rfl (pc0 := 10) (pc' := 14) rfl (hb hby at_10) (by decide) (by decide) ?_
      show Steps p.tables e below (s₁.setTop (mkF m 14 #[.val (.long av), .second, .val (.long bv), .second, .val (.long cv), .second, .val (.int fl), .unset, .unset, .unset, .unset, .unset, .unset, .unset, .unset, .unset, .unset, .unset, .unset, .unset, .unset, .unset] [(.long av)])) _
      have qkb : kb = av := by rw [hkb]; simp only [if_neg hd6_118]
      rw [qkb] at kt
      exact kt
  refine Go.step st117 ?_
  show Go _ _ _ _ _ _ _ (s₁.setTop (mkF m 14 #[.val (.long av), .second, .val (.long bv), .second, .val (.long cv), .second, .val (.int fl), .unset, .unset, .unset, .unset, .unset, .unset, .unset, .unset, .unset, .unset, .unset, .unset, .unset, .unset, .unset] [(.long kb)]))
  refine Go.step (fun t k => XS.lstore X0.here hx rfl (hb hby at_14) rfl (l' := #[.val (.long av), .second, .val (.long bv), .second, .val (.long cv), .second, .val (.int fl), .val (.long kb), .second, .unset, .unset, .unset, .unset, .unset, .unset, .unset, .unset, .unset, .unset, .unset, .unset, .unset]) rfl (XS.iload X0.here hx rfl (hb hby at_16) rfl (XS.iconst X0.here hx rfl (hb hby at_18) (XS.ishr X0.here hx rfl (hb hby at_19) rfl (XS.iconst X0.here hx rfl (hb hby at_20) (XS.iand X0.here hx rfl (hb hby at_21) rfl k)))))) ?_
  show Go _ _ _ _ _ _ _ (s₁.setTop (mkF m 22 #[.val (.long av), .second, .val (.long bv), .second, .val (.long cv), .second, .val (.int fl), .val (.long kb), .second, .unset, .unset, .unset, .unset, .unset, .unset, .unset, .unset, .unset, .unset, .unset, .unset, .unset] [(.int ((fl >>> ((3 : Int32) &&& 31)) &&& (1 : Int32)))]))
  -- joined again at pc 32
  obtain ⟨kc, hkc⟩ : ∃ z : Int64, z = (if ((fl >>> ((3 : Int32) &&& 31)) &&& (1 : Int32)) = (0 : Int32) then cv else kb) := ⟨_, rfl⟩
  have st119 : ∀ t, Steps p.tables e below (s₁.setTop (mkF m 32 #[.val (.long av), .second, .val (.long bv), .second, .val (.long cv), .second, .val (.int fl), .val (.long kb), .second, .unset, .unset, .unset, .unset, .unset, .unset, .unset, .unset, .unset, .unset, .unset, .unset, .unset] [(.long kc)])) t → Steps p.tables e below (s₁.setTop (mkF m 22 #[.val (.long av), .second, .val (.long bv), .second, .val (.long cv), .second, .val (.int fl), .val (.long kb), .second, .unset, .unset, .unset, .unset, .unset, .unset, .unset, .unset, .unset, .unset, .unset, .unset, .unset] [(.int ((fl >>> ((3 : Int32) &&& 31)) &&& (1 : Int32)))])) t := by
    intro t kt
    by_cases hd22_120 : ((fl >>> ((3 : Int32) &&& 31)) &&& (1 : Int32)) = (0 : Int32)
    · refine XS.ifYes X0.here hx rfl (pc0 := 22) (pc' := 30) rfl (hb hby at_22) rfl ((if0 _ _).trans (teq hd22_120).1) (by decide) (by decide) ?_
      show Steps p.tables e below (s₁.setTop (mkF m 30 #[.val (.long av), .second, .val (.long bv), .second, .val (.long cv), .second, .val (.int fl), .val (.long kb), .second, .unset, .unset, .unset, .unset, .unset, .unset, .unset, .unset, .unset, .unset, .unset, .unset, .unset] [])) _
      refine XS.lload X0.here hx rfl (hb hby at_30) rfl ?_
      show Steps p.tables e below (s₁.setTop (mkF m 32 #[.val (.long av), .second, .val (.long bv), .second, .val (.long cv), .second, .val (.int fl), .val (.long kb), .second, .unset, .unset, .unset, .unset, .unset, .unset, .unset, .unset, .unset, .unset, .unset, .unset, .unset] [(.long cv)])) _
      have qkc : kc = cv := by rw [hkc]; simp only [if_pos hd22_120]
      rw [qkc] at kt
      exact kt
    · refine XS.ifNo X0.here hx rfl (hb hby at_22) rfl ((if0 _ _).trans (feq hd22_120).1) ?_
      show Steps p.tables e below (s₁.setTop (mkF m 25 #[.val (.long av), .second, .val (.long bv), .second, .val (.long cv), .second, .val (.int fl), .val (.long kb), .second, .unset, .unset, .unset, .unset, .unset, .unset, .unset, .unset, .unset, .unset, .unset, .unset, .unset] [])) _
      refine XS.lload X0.here hx rfl (hb hby at_25) rfl ?_
      show Steps p.tables e below (s₁.setTop (mkF m 27 #[.val (.long av), .second, .val (.long bv), .second, .val (.long cv), .second, .val (.int fl), .val (.long kb), .second, .unset, .unset, .unset, .unset, .unset, .unset, .unset, .unset, .unset, .unset, .unset, .unset, .unset] [(.long kb)])) _
      refine XS.goto X0.here hx rfl (pc0 := 27) (pc' := 32) rfl (hb hby at_27) (by decide) (by decide) ?_
      show Steps p.tables e below (s₁.setTop (mkF m 32 #[.val (.long av), .second, .val (.long bv), .second, .val (.long cv), .second, .val (.int fl), .val (.long kb), .second, .unset, .unset, .unset, .unset, .unset, .unset, .unset, .unset, .unset, .unset, .unset, .unset, .unset] [(.long kb)])) _
      have qkc : kc = kb := by rw [hkc]; simp only [if_neg hd22_120]
      rw [qkc] at kt
      exact kt
  refine Go.step st119 ?_
  show Go _ _ _ _ _ _ _ (s₁.setTop (mkF m 32 #[.val (.long av), .second, .val (.long bv), .second, .val (.long cv), .second, .val (.int fl), .val (.long kb), .second, .unset, .unset, .unset, .unset, .unset, .unset, .unset, .unset, .unset, .unset, .unset, .unset, .unset] [(.long kc)]))
  refine Go.step (fun t k => XS.lstore X0.here hx rfl (hb hby at_32) rfl (l' := #[.val (.long av), .second, .val (.long bv), .second, .val (.long cv), .second, .val (.int fl), .val (.long kb), .second, .val (.long kc), .second, .unset, .unset, .unset, .unset, .unset, .unset, .unset, .unset, .unset, .unset, .unset]) rfl (XS.iconst X0.here hx rfl (hb hby at_34) (XS.istore X0.here hx rfl (hb hby at_35) rfl (l' := #[.val (.long av), .second, .val (.long bv), .second, .val (.long cv), .second, .val (.int fl), .val (.long kb), .second, .val (.long kc), .second, .val (.int (1 : Int32)), .unset, .unset, .unset, .unset, .unset, .unset, .unset, .unset, .unset, .unset]) rfl (XS.lload X0.here hx rfl (hb hby at_37) rfl (XS.lloadN X0.here hx rfl (hb hby at_39) rfl (XS.lcmp X0.here hx rfl (hb hby at_40) rfl k)))))) ?_
  show Go _ _ _ _ _ _ _ (s₁.setTop (mkF m 41 #[.val (.long av), .second, .val (.long bv), .second, .val (.long cv), .second, .val (.int fl), .val (.long kb), .second, .val (.long kc), .second, .val (.int (1 : Int32)), .unset, .unset, .unset, .unset, .unset, .unset, .unset, .unset, .unset, .unset] [(.int (lcmpW kb av))]))
  by_cases hc41_121 : kb = av
  · refine Go.step (fun t k => XS.ifYes X0.here hx rfl (pc0 := 41) (pc' := 48) rfl (hb hby at_41) rfl ((if0 _ _).trans (teq (own_lweq hc41_121)).1) (by decide) (by decide) k) ?_
    show Go _ _ _ _ _ _ _ (s₁.setTop (mkF m 48 #[.val (.long av), .second, .val (.long bv), .second, .val (.long cv), .second, .val (.int fl), .val (.long kb), .second, .val (.long kc), .second, .val (.int (1 : Int32)), .unset, .unset, .unset, .unset, .unset, .unset, .unset, .unset, .unset, .unset] []))
    refine Go.step (fun t k => XS.iconst X0.here hx rfl (hb hby at_48) (XS.istore X0.here hx rfl (hb hby at_49) rfl (l' := #[.val (.long av), .second, .val (.long bv), .second, .val (.long cv), .second, .val (.int fl), .val (.long kb), .second, .val (.long kc), .second, .val (.int (1 : Int32)), .val (.int (0 : Int32)), .unset, .unset, .unset, .unset, .unset, .unset, .unset, .unset, .unset]) rfl (XS.lload X0.here hx rfl (hb hby at_51) rfl (XS.lloadN X0.here hx rfl (hb hby at_53) rfl (XS.lcmp X0.here hx rfl (hb hby at_54) rfl k))))) ?_
    show Go _ _ _ _ _ _ _ (s₁.setTop (mkF m 55 #[.val (.long av), .second, .val (.long bv), .second, .val (.long cv), .second, .val (.int fl), .val (.long kb), .second, .val (.long kc), .second, .val (.int (1 : Int32)), .val (.int (0 : Int32)), .unset, .unset, .unset, .unset, .unset, .unset, .unset, .unset, .unset] [(.int (lcmpW kc av))]))
    by_cases hc55_122 : kc = av
    · refine Go.step (fun t k => XS.ifYes X0.here hx rfl (pc0 := 55) (pc' := 70) rfl (hb hby at_55) rfl ((if0 _ _).trans (teq (own_lweq hc55_122)).1) (by decide) (by decide) k) ?_
      show Go _ _ _ _ _ _ _ (s₁.setTop (mkF m 70 #[.val (.long av), .second, .val (.long bv), .second, .val (.long cv), .second, .val (.int fl), .val (.long kb), .second, .val (.long kc), .second, .val (.int (1 : Int32)), .val (.int (0 : Int32)), .unset, .unset, .unset, .unset, .unset, .unset, .unset, .unset, .unset] []))
      refine Go.step (fun t k => XS.iconst X0.here hx rfl (hb hby at_70) (XS.istore X0.here hx rfl (hb hby at_71) rfl (l' := #[.val (.long av), .second, .val (.long bv), .second, .val (.long cv), .second, .val (.int fl), .val (.long kb), .second, .val (.long kc), .second, .val (.int (1 : Int32)), .val (.int (0 : Int32)), .val (.int (0 : Int32)), .unset, .unset, .unset, .unset, .unset, .unset, .unset, .unset]) rfl k)) ?_
      show Go _ _ _ _ _ _ _ (s₁.setTop (mkF m 73 #[.val (.long av), .second, .val (.long bv), .second, .val (.long cv), .second, .val (.int fl), .val (.long kb), .second, .val (.long kc), .second, .val (.int (1 : Int32)), .val (.int (0 : Int32)), .val (.int (0 : Int32)), .unset, .unset, .unset, .unset, .unset, .unset, .unset, .unset] []))
      exact L73 _ _ _ kb kc (0 : Int32) (0 : Int32) X0 e0 N0 Z0 (Or.inl rfl) (Or.inl rfl)
    · refine Go.step (fun t k => XS.ifNo X0.here hx rfl (hb hby at_55) rfl ((if0 _ _).trans (feq (own_nlweq hc55_122)).1) k) ?_
      show Go _ _ _ _ _ _ _ (s₁.setTop (mkF m 58 #[.val (.long av), .second, .val (.long bv), .second, .val (.long cv), .second, .val (.int fl), .val (.long kb), .second, .val (.long kc), .second, .val (.int (1 : Int32)), .val (.int (0 : Int32)), .unset, .unset, .unset, .unset, .unset, .unset, .unset, .unset, .unset] []))
      refine Go.step (fun t k => XS.lload X0.here hx rfl (hb hby at_58) rfl (XS.lload X0.here hx rfl (hb hby at_60) rfl (XS.lcmp X0.here hx rfl (hb hby at_62) rfl k))) ?_
      show Go _ _ _ _ _ _ _ (s₁.setTop (mkF m 63 #[.val (.long av), .second, .val (.long bv), .second, .val (.long cv), .second, .val (.int fl), .val (.long kb), .second, .val (.long kc), .second, .val (.int (1 : Int32)), .val (.int (0 : Int32)), .unset, .unset, .unset, .unset, .unset, .unset, .unset, .unset, .unset] [(.int (lcmpW kc kb))]))
      by_cases hc63_123 : kc = kb
      · refine Go.step (fun t k => XS.ifYes X0.here hx rfl (pc0 := 63) (pc' := 70) rfl (hb hby at_63) rfl ((if0 _ _).trans (teq (own_lweq hc63_123)).1) (by decide) (by decide) k) ?_
        show Go _ _ _ _ _ _ _ (s₁.setTop (mkF m 70 #[.val (.long av), .second, .val (.long bv), .second, .val (.long cv), .second, .val (.int fl), .val (.long kb), .second, .val (.long kc), .second, .val (.int (1 : Int32)), .val (.int (0 : Int32)), .unset, .unset, .unset, .unset, .unset, .unset, .unset, .unset, .unset] []))
        refine Go.step (fun t k => XS.iconst X0.here hx rfl (hb hby at_70) (XS.istore X0.here hx rfl (hb hby at_71) rfl (l' := #[.val (.long av), .second, .val (.long bv), .second, .val (.long cv), .second, .val (.int fl), .val (.long kb), .second, .val (.long kc), .second, .val (.int (1 : Int32)), .val (.int (0 : Int32)), .val (.int (0 : Int32)), .unset, .unset, .unset, .unset, .unset, .unset, .unset, .unset]) rfl k)) ?_
        show Go _ _ _ _ _ _ _ (s₁.setTop (mkF m 73 #[.val (.long av), .second, .val (.long bv), .second, .val (.long cv), .second, .val (.int fl), .val (.long kb), .second, .val (.long kc), .second, .val (.int (1 : Int32)), .val (.int (0 : Int32)), .val (.int (0 : Int32)), .unset, .unset, .unset, .unset, .unset, .unset, .unset, .unset] []))
        exact L73 _ _ _ kb kc (0 : Int32) (0 : Int32) X0 e0 N0 Z0 (Or.inl rfl) (Or.inl rfl)
      · refine Go.step (fun t k => XS.ifNo X0.here hx rfl (hb hby at_63) rfl ((if0 _ _).trans (feq (own_nlweq hc63_123)).1) k) ?_
        show Go _ _ _ _ _ _ _ (s₁.setTop (mkF m 66 #[.val (.long av), .second, .val (.long bv), .second, .val (.long cv), .second, .val (.int fl), .val (.long kb), .second, .val (.long kc), .second, .val (.int (1 : Int32)), .val (.int (0 : Int32)), .unset, .unset, .unset, .unset, .unset, .unset, .unset, .unset, .unset] []))
        refine Go.step (fun t k => XS.iconst X0.here hx rfl (hb hby at_66) k) ?_
        show Go _ _ _ _ _ _ _ (s₁.setTop (mkF m 67 #[.val (.long av), .second, .val (.long bv), .second, .val (.long cv), .second, .val (.int fl), .val (.long kb), .second, .val (.long kc), .second, .val (.int (1 : Int32)), .val (.int (0 : Int32)), .unset, .unset, .unset, .unset, .unset, .unset, .unset, .unset, .unset] [(.int (1 : Int32))]))
        refine Go.step (fun t k => XS.goto X0.here hx rfl (pc0 := 67) (pc' := 71) rfl (hb hby at_67) (by decide) (by decide) (XS.istore X0.here hx rfl (hb hby at_71) rfl (l' := #[.val (.long av), .second, .val (.long bv), .second, .val (.long cv), .second, .val (.int fl), .val (.long kb), .second, .val (.long kc), .second, .val (.int (1 : Int32)), .val (.int (0 : Int32)), .val (.int (1 : Int32)), .unset, .unset, .unset, .unset, .unset, .unset, .unset, .unset]) rfl k)) ?_
        show Go _ _ _ _ _ _ _ (s₁.setTop (mkF m 73 #[.val (.long av), .second, .val (.long bv), .second, .val (.long cv), .second, .val (.int fl), .val (.long kb), .second, .val (.long kc), .second, .val (.int (1 : Int32)), .val (.int (0 : Int32)), .val (.int (1 : Int32)), .unset, .unset, .unset, .unset, .unset, .unset, .unset, .unset] []))
        exact L73 _ _ _ kb kc (0 : Int32) (1 : Int32) X0 e0 N0 Z0 (Or.inl rfl) (Or.inr ⟨rfl, fun q => hc55_122 q.symm, fun q => hc63_123 q.symm⟩)
  · refine Go.step (fun t k => XS.ifNo X0.here hx rfl (hb hby at_41) rfl ((if0 _ _).trans (feq (own_nlweq hc41_121)).1) k) ?_
    show Go _ _ _ _ _ _ _ (s₁.setTop (mkF m 44 #[.val (.long av), .second, .val (.long bv), .second, .val (.long cv), .second, .val (.int fl), .val (.long kb), .second, .val (.long kc), .second, .val (.int (1 : Int32)), .unset, .unset, .unset, .unset, .unset, .unset, .unset, .unset, .unset, .unset] []))
    refine Go.step (fun t k => XS.iconst X0.here hx rfl (hb hby at_44) k) ?_
    show Go _ _ _ _ _ _ _ (s₁.setTop (mkF m 45 #[.val (.long av), .second, .val (.long bv), .second, .val (.long cv), .second, .val (.int fl), .val (.long kb), .second, .val (.long kc), .second, .val (.int (1 : Int32)), .unset, .unset, .unset, .unset, .unset, .unset, .unset, .unset, .unset, .unset] [(.int (1 : Int32))]))
    refine Go.step (fun t k => XS.goto X0.here hx rfl (pc0 := 45) (pc' := 49) rfl (hb hby at_45) (by decide) (by decide) (XS.istore X0.here hx rfl (hb hby at_49) rfl (l' := #[.val (.long av), .second, .val (.long bv), .second, .val (.long cv), .second, .val (.int fl), .val (.long kb), .second, .val (.long kc), .second, .val (.int (1 : Int32)), .val (.int (1 : Int32)), .unset, .unset, .unset, .unset, .unset, .unset, .unset, .unset, .unset]) rfl (XS.lload X0.here hx rfl (hb hby at_51) rfl (XS.lloadN X0.here hx rfl (hb hby at_53) rfl (XS.lcmp X0.here hx rfl (hb hby at_54) rfl k))))) ?_
    show Go _ _ _ _ _ _ _ (s₁.setTop (mkF m 55 #[.val (.long av), .second, .val (.long bv), .second, .val (.long cv), .second, .val (.int fl), .val (.long kb), .second, .val (.long kc), .second, .val (.int (1 : Int32)), .val (.int (1 : Int32)), .unset, .unset, .unset, .unset, .unset, .unset, .unset, .unset, .unset] [(.int (lcmpW kc av))]))
    by_cases hc55_124 : kc = av
    · refine Go.step (fun t k => XS.ifYes X0.here hx rfl (pc0 := 55) (pc' := 70) rfl (hb hby at_55) rfl ((if0 _ _).trans (teq (own_lweq hc55_124)).1) (by decide) (by decide) k) ?_
      show Go _ _ _ _ _ _ _ (s₁.setTop (mkF m 70 #[.val (.long av), .second, .val (.long bv), .second, .val (.long cv), .second, .val (.int fl), .val (.long kb), .second, .val (.long kc), .second, .val (.int (1 : Int32)), .val (.int (1 : Int32)), .unset, .unset, .unset, .unset, .unset, .unset, .unset, .unset, .unset] []))
      refine Go.step (fun t k => XS.iconst X0.here hx rfl (hb hby at_70) (XS.istore X0.here hx rfl (hb hby at_71) rfl (l' := #[.val (.long av), .second, .val (.long bv), .second, .val (.long cv), .second, .val (.int fl), .val (.long kb), .second, .val (.long kc), .second, .val (.int (1 : Int32)), .val (.int (1 : Int32)), .val (.int (0 : Int32)), .unset, .unset, .unset, .unset, .unset, .unset, .unset, .unset]) rfl k)) ?_
      show Go _ _ _ _ _ _ _ (s₁.setTop (mkF m 73 #[.val (.long av), .second, .val (.long bv), .second, .val (.long cv), .second, .val (.int fl), .val (.long kb), .second, .val (.long kc), .second, .val (.int (1 : Int32)), .val (.int (1 : Int32)), .val (.int (0 : Int32)), .unset, .unset, .unset, .unset, .unset, .unset, .unset, .unset] []))
      exact L73 _ _ _ kb kc (1 : Int32) (0 : Int32) X0 e0 N0 Z0 (Or.inr ⟨rfl, fun q => hc41_121 q.symm⟩) (Or.inl rfl)
    · refine Go.step (fun t k => XS.ifNo X0.here hx rfl (hb hby at_55) rfl ((if0 _ _).trans (feq (own_nlweq hc55_124)).1) k) ?_
      show Go _ _ _ _ _ _ _ (s₁.setTop (mkF m 58 #[.val (.long av), .second, .val (.long bv), .second, .val (.long cv), .second, .val (.int fl), .val (.long kb), .second, .val (.long kc), .second, .val (.int (1 : Int32)), .val (.int (1 : Int32)), .unset, .unset, .unset, .unset, .unset, .unset, .unset, .unset, .unset] []))
      refine Go.step (fun t k => XS.lload X0.here hx rfl (hb hby at_58) rfl (XS.lload X0.here hx rfl (hb hby at_60) rfl (XS.lcmp X0.here hx rfl (hb hby at_62) rfl k))) ?_
      show Go _ _ _ _ _ _ _ (s₁.setTop (mkF m 63 #[.val (.long av), .second, .val (.long bv), .second, .val (.long cv), .second, .val (.int fl), .val (.long kb), .second, .val (.long kc), .second, .val (.int (1 : Int32)), .val (.int (1 : Int32)), .unset, .unset, .unset, .unset, .unset, .unset, .unset, .unset, .unset] [(.int (lcmpW kc kb))]))
      by_cases hc63_125 : kc = kb
      · refine Go.step (fun t k => XS.ifYes X0.here hx rfl (pc0 := 63) (pc' := 70) rfl (hb hby at_63) rfl ((if0 _ _).trans (teq (own_lweq hc63_125)).1) (by decide) (by decide) k) ?_
        show Go _ _ _ _ _ _ _ (s₁.setTop (mkF m 70 #[.val (.long av), .second, .val (.long bv), .second, .val (.long cv), .second, .val (.int fl), .val (.long kb), .second, .val (.long kc), .second, .val (.int (1 : Int32)), .val (.int (1 : Int32)), .unset, .unset, .unset, .unset, .unset, .unset, .unset, .unset, .unset] []))
        refine Go.step (fun t k => XS.iconst X0.here hx rfl (hb hby at_70) (XS.istore X0.here hx rfl (hb hby at_71) rfl (l' := #[.val (.long av), .second, .val (.long bv), .second, .val (.long cv), .second, .val (.int fl), .val (.long kb), .second, .val (.long kc), .second, .val (.int (1 : Int32)), .val (.int (1 : Int32)), .val (.int (0 : Int32)), .unset, .unset, .unset, .unset, .unset, .unset, .unset, .unset]) rfl k)) ?_
        show Go _ _ _ _ _ _ _ (s₁.setTop (mkF m 73 #[.val (.long av), .second, .val (.long bv), .second, .val (.long cv), .second, .val (.int fl), .val (.long kb), .second, .val (.long kc), .second, .val (.int (1 : Int32)), .val (.int (1 : Int32)), .val (.int (0 : Int32)), .unset, .unset, .unset, .unset, .unset, .unset, .unset, .unset] []))
        exact L73 _ _ _ kb kc (1 : Int32) (0 : Int32) X0 e0 N0 Z0 (Or.inr ⟨rfl, fun q => hc41_121 q.symm⟩) (Or.inl rfl)
      · refine Go.step (fun t k => XS.ifNo X0.here hx rfl (hb hby at_63) rfl ((if0 _ _).trans (feq (own_nlweq hc63_125)).1) k) ?_
        show Go _ _ _ _ _ _ _ (s₁.setTop (mkF m 66 #[.val (.long av), .second, .val (.long bv), .second, .val (.long cv), .second, .val (.int fl), .val (.long kb), .second, .val (.long kc), .second, .val (.int (1 : Int32)), .val (.int (1 : Int32)), .unset, .unset, .unset, .unset, .unset, .unset, .unset, .unset, .unset] []))
        refine Go.step (fun t k => XS.iconst X0.here hx rfl (hb hby at_66) k) ?_
        show Go _ _ _ _ _ _ _ (s₁.setTop (mkF m 67 #[.val (.long av), .second, .val (.long bv), .second, .val (.long cv), .second, .val (.int fl), .val (.long kb), .second, .val (.long kc), .second, .val (.int (1 : Int32)), .val (.int (1 : Int32)), .unset, .unset, .unset, .unset, .unset, .unset, .unset, .unset, .unset] [(.int (1 : Int32))]))
        refine Go.step (fun t k => XS.goto X0.here hx rfl (pc0 := 67) (pc' := 71) rfl (hb hby at_67) (by decide) (by decide) (XS.istore X0.here hx rfl (hb hby at_71) rfl (l' := #[.val (.long av), .second, .val (.long bv), .second, .val (.long cv), .second, .val (.int fl), .val (.long kb), .second, .val (.long kc), .second, .val (.int (1 : Int32)), .val (.int (1 : Int32)), .val (.int (1 : Int32)), .unset, .unset, .unset, .unset, .unset, .unset, .unset, .unset]) rfl k)) ?_
        show Go _ _ _ _ _ _ _ (s₁.setTop (mkF m 73 #[.val (.long av), .second, .val (.long bv), .second, .val (.long cv), .second, .val (.int fl), .val (.long kb), .second, .val (.long kc), .second, .val (.int (1 : Int32)), .val (.int (1 : Int32)), .val (.int (1 : Int32)), .unset, .unset, .unset, .unset, .unset, .unset, .unset, .unset] []))
        exact L73 _ _ _ kb kc (1 : Int32) (1 : Int32) X0 e0 N0 Z0 (Or.inr ⟨rfl, fun q => hc41_121 q.symm⟩) (Or.inr ⟨rfl, fun q => hc55_124 q.symm, fun q => hc63_125 q.symm⟩)
set_option maxRecDepth 65536 in
set_option maxHeartbeats 40000000 in
theorem comes_1 {Post : Tables → Env → Array Value → State → Outcome → State → Prop} (hpost : ∀ tb e args s v u, (limb_1_1.after args s (.returned v) u = true ∧ limb_1_2.after args s (.returned v) u = true ∧ True) → FrameEnd s (.returned v) u (Jvm.fieldLocs frame_1_writes args s ++ Jvm.arrayLocs frame_1_arrays args s ++ Jvm.staticLocs frame_1_statics s) 32 704 → Post tb e args s (.returned v) u) :
    ArmFor flags0 classFile x code maxLocals ret World_1 tables_1 room_1 Calls_1 rest_1 Pre_1 Post := by
  intro l hfl _ _ p e ha hc hk s m args below hf hA hF happ hP
  obtain ⟨hcalls, hrest, hpre⟩ := hP
  obtain ⟨-, -, -, hnamed, -, -, -, hat⟩ := (Spec.applies_iff hf).mp happ
  obtain ⟨hg, hn⟩ := and_e (Cond.before_iff.mp (show (Jvm.Cond.and given_1 narrow_1).before args s = true from hpre))
  obtain ⟨gv1, gv2⟩ := and_e hg
  obtain ⟨gv3, gv4⟩ := and_e gv2
  obtain ⟨gv5, gv6⟩ := and_e gv4
  obtain ⟨gv7, gv8⟩ := and_e gv6
  obtain ⟨w0, w1, w2, w3, rfl⟩ : ∃ w0 w1 w2 w3 : Value, args = #[w0, w1, w2, w3] := by
    have hs : args.size = 4 := by simpa [Cond.value, given_1] using gv1
    obtain ⟨L⟩ := args
    match L, hs with
    | [w0, w1, w2, w3], _ => exact ⟨w0, w1, w2, w3, rfl⟩
  have hw := fun d (hd : d ∈ tables_1) => atoms_spec (ws := Jvm.Cond.code x code maxLocals ret :: tables_1) hat d (List.mem_cons_of_mem _ hd)
  have hfit : Fit s := fun {y c} hc i hi => by
    obtain ⟨ha, rfl⟩ := Array.getElem?_eq_some_iff.mp hc
    have q := List.all_eq_true.mp ((Array.all_eq_true_iff_forall_mem.mp hF) _ (Array.getElem_mem ha)) i (List.mem_range.mpr hi)
    simpa [Array.getElem?_eq_getElem hi] using q
  obtain ⟨i0, ei0⟩ := isL_v gv3
  obtain rfl : w0 = (.long i0) := Option.some.inj ei0
  obtain ⟨i1, ei1⟩ := isL_v gv5
  obtain rfl : w1 = (.long i1) := Option.some.inj ei1
  obtain ⟨i2, ei2⟩ := isL_v gv7
  obtain rfl : w2 = (.long i2) := Option.some.inj ei2
  obtain ⟨i3, ei3⟩ := is_v gv8
  obtain rfl : w3 = (.int i3) := Option.some.inj ei3
  obtain ⟨n, o, h1, h2, h3, _, L, rfl, ⟨rfl, N⟩, hq⟩ := rm0 l s _ hw tables_1 i0 i1 i2 i3 s.heap s.heap.size (Nat.le_refl _) p e ha hc hk s m _ below hf ((Spec.applies_iff_loose hf).mp happ).1 ⟨rfl, State.Warmed39.refl s, rfl⟩ trivial
  refine ⟨n, _, h1, h2, h3, hpost _ _ _ _ _ _ ⟨Cond.after_iff.mpr rfl, Cond.after_iff.mpr (eq_i res_at (Term.int_eval (1)) rfl), trivial⟩ ⟨hq.1, hq.2.1, (hq.2.2.sift fun y hy => Or.inr (N y hy)).mono (by decide) (by decide)⟩⟩
theorem main_1_1 : Claimed_1_1 := comes_1 fun _ _ _ _ _ _ h hF => ⟨h.1, hF⟩
theorem main_1_2 : Claimed_1_2 := comes_1 fun _ _ _ _ _ _ h hF => ⟨h.2.1, hF⟩
end Jvm.Pilot.@@N@@
namespace Jvm.Pilot.@@N@@
open Jvm Jvm.ClassFile Sem Op Lib Jvm.Free Jvm.Stand Jvm.Pilot.@@N@@.Jvm.D
/-! MADE BY PROGRAM (witnessworld.py) out of the Statement's table words and the real class files: 16 classes; the members and pool entries that the words name. The judged class is class 1, her method 2. -/
namespace start1
open Jvm.ClassFile
def u (s : String) : CpInfo := .utf8 (stringToUtf16 s)
/-- a pool by its gaps: so many unusable entries, then the entry; so many at the end -/
def gap : Nat → List CpInfo → List CpInfo
  | 0, r => r
  | n + 1, r => .unusable :: gap n r
def poolList (es : List (Nat × CpInfo)) (last : Nat) : List CpInfo := es.foldr (fun e r => gap e.1 (e.2 :: r)) (gap last [])
def pool (es : List (Nat × CpInfo)) (last : Nat) : Array CpInfo := ⟨poolList es last⟩
def fileOf (pool : Array CpInfo) (this : Nat) (attrs : Array Attribute := #[]) (ms : Array MethodInfo := #[]) (fl : Nat := 33) (sup : Nat := 0) (ifs : Array Nat := #[]) (fds : Array FieldInfo := #[]) : ClassFile where
  minorVersion := 0
  majorVersion := 65
  constantPool := pool
  accessFlags := fl
  thisClass := this
  superClass := sup
  interfaces := ifs
  fields := fds
  methods := ms
  attributes := attrs
def plain (name : String) (sup : Option ClassId) : Class where
  name := name
  kind := .ordinary
  loader := none
  accessFlags := 33
  super := sup
  interfaces := #[]
  cf := none
  fields := #[]
  methods := #[]
  instanceTypes := #[]
  staticTypes := #[]
  resolved := #[]
  callSites := []
  init := .initialized
  statics := none
  mirror := none

def pool0 : Array CpInfo := pool [(5, u "<init>"), (0, u "()V"), (1, .class_ 10), (1, u "java/lang/Object")] 113

def k0c0 : Code := { maxStack := 0, maxLocals := 1, code := object_method_1_code, exceptionTable := #[], attributes := #[] }
def k0m0 : Method := { name := "<init>", desc := "()V", sig := { parameters := [], returnType := none }, accessFlags := 1, code := some k0c0 }
/-- java/lang/Object -/
def k0 : Class := { plain "java/lang/Object" none with
  accessFlags := 33
  interfaces := #[]
  cf := some (fileOf pool0 8 #[] #[{ accessFlags := 1, nameIndex := 5, descriptorIndex := 6, attributes := #[] }] 33 0 #[] #[])
  fields := #[]
  methods := #[k0m0]
  instanceTypes := #[]
  staticTypes := #[]
  resolved := Array.replicate 124 none
  statics := none }

def pool1 : Array CpInfo := pool [(2, .class_ 4), (0, .nameAndType 5 6), (0, u "java/lang/Object"), (0, u "<init>"), (0, u "()V"), (0, .class_ 8), (0, u "com/example/matchstone/matchstone/LevelIndex"), (0, .methodref 7 3), (0, .class_ 11), (0, u "com/example/matchstone/matchstone/PriceLevel"), (0, .methodref 10 13), (0, .nameAndType 5 14), (0, u "(Lcom/example/matchstone/matchstone/Price;Lcom/example/matchstone/matchstone/BookSide;)V"), (0, .methodref 7 16), (0, .nameAndType 17 18), (0, u "put"), (0, u "(JLcom/example/matchstone/matchstone/PriceLevel;)Lcom/example/matchstone/matchstone/PriceLevel;"), (0, .methodref 7 20), (0, .nameAndType 21 22), (0, u "best"), (0, u "()Lcom/example/matchstone/matchstone/PriceLevel;"), (0, .methodref 24 25), (0, .class_ 26), (0, .nameAndType 27 28), (0, u "com/example/matchstone/matchstone/LevelIndexBestPinLaw"), (0, u "expected"), (0, u "(ZJLcom/example/matchstone/matchstone/PriceLevel;ZJLcom/example/matchstone/matchstone/PriceLevel;ZJLcom/example/matchstone/matchstone/PriceLevel;)Lcom/example/matchstone/matchstone/PriceLevel;"), (0, .methodref 7 30), (0, .nameAndType 31 32), (0, u "remove"), (0, u "(J)V"), (3, u "law"), (0, u "(JJJI)Z")] 2

def k1m0 : Method := { name := "<init>", desc := "()V", sig := { parameters := [], returnType := none }, accessFlags := 1, code := none }
def k1c1 : Code := { maxStack := 4, maxLocals := 15, code := method_2_code, exceptionTable := #[], attributes := #[] }
def k1m1 : Method := { name := "expected", desc := "(ZJLcom/example/matchstone/matchstone/PriceLevel;ZJLcom/example/matchstone/matchstone/PriceLevel;ZJLcom/example/matchstone/matchstone/PriceLevel;)Lcom/example/matchstone/matchstone/PriceLevel;", sig := { parameters := [.boolean, .long, (.object "com/example/matchstone/matchstone/PriceLevel"), .boolean, .long, (.object "com/example/matchstone/matchstone/PriceLevel"), .boolean, .long, (.object "com/example/matchstone/matchstone/PriceLevel")], returnType := some (.object "com/example/matchstone/matchstone/PriceLevel") }, accessFlags := 10, code := some k1c1 }
def k1c2 : Code := { maxStack := 13, maxLocals := 22, code := code, exceptionTable := #[], attributes := #[] }
def k1m2 : Method := { name := "law", desc := "(JJJI)Z", sig := { parameters := [.long, .long, .long, .int], returnType := some .boolean }, accessFlags := 9, code := some k1c2 }
/-- com/example/matchstone/matchstone/LevelIndexBestPinLaw -/
def k1 : Class := { plain "com/example/matchstone/matchstone/LevelIndexBestPinLaw" (some 0) with
  accessFlags := 49
  interfaces := #[]
  cf := some (fileOf pool1 24 #[] #[{ accessFlags := 1, nameIndex := 5, descriptorIndex := 6, attributes := #[] }, { accessFlags := 10, nameIndex := 27, descriptorIndex := 28, attributes := #[] }, { accessFlags := 9, nameIndex := 36, descriptorIndex := 37, attributes := #[] }] 49 2 #[] #[])
  fields := #[]
  methods := #[k1m0, k1m1, k1m2]
  instanceTypes := #[]
  staticTypes := #[]
  resolved := Array.replicate 40 none
  statics := none }

def pool2 : Array CpInfo := pool [(1, .methodref 2 3), (0, .class_ 4), (0, .nameAndType 5 6), (0, u "java/lang/Object"), (0, u "<init>"), (0, u "()V"), (0, .methodref 8 9), (0, .class_ 10), (0, .nameAndType 11 12), (0, u "com/example/matchstone/matchstone/LevelIndex$Node"), (0, u "leaf"), (0, u "()Lcom/example/matchstone/matchstone/LevelIndex$Node;"), (0, .fieldref 14 15), (0, .class_ 16), (0, .nameAndType 17 18), (0, u "com/example/matchstone/matchstone/LevelIndex"), (0, u "root"), (0, u "Lcom/example/matchstone/matchstone/LevelIndex$Node;"), (0, .fieldref 14 20), (0, .nameAndType 21 18), (0, u "last"), (4, .fieldref 8 27), (0, .nameAndType 28 29), (0, u "keys"), (0, u "[J"), (0, .fieldref 8 31), (0, .nameAndType 32 33), (0, u "size"), (0, u "I"), (0, .methodref 35 36), (0, .class_ 37), (0, .nameAndType 38 39), (0, u "java/util/Arrays"), (0, u "binarySearch"), (0, u "([JIIJ)I"), (0, .fieldref 8 41), (0, .nameAndType 42 43), (0, u "levels"), (0, u "[Lcom/example/matchstone/matchstone/PriceLevel;"), (0, .fieldref 8 45), (0, .nameAndType 46 18), (0, u "next"), (0, .fieldref 8 48), (0, .nameAndType 49 18), (0, u "previous"), (0, .methodref 8 51), (0, .nameAndType 52 53), (0, u "isLeaf"), (0, u "()Z"), (0, .fieldref 8 55), (0, .nameAndType 56 57), (0, u "children"), (0, u "[Lcom/example/matchstone/matchstone/LevelIndex$Node;"), (4, .class_ 63), (0, u "com/example/matchstone/matchstone/LevelIndex$Descending"), (3, .methodref 8 68), (0, .nameAndType 69 70), (0, u "insertEntry"), (0, u "(IJLcom/example/matchstone/matchstone/PriceLevel;)V"), (0, .methodref 14 72), (0, .nameAndType 73 74), (0, u "insert"), (0, u "(Lcom/example/matchstone/matchstone/LevelIndex$Node;JLcom/example/matchstone/matchstone/PriceLevel;)Lcom/example/matchstone/matchstone/LevelIndex$Node;"), (3, .fieldref 14 79), (0, .nameAndType 80 81), (0, u "splitKey"), (0, u "J"), (0, .fieldref 14 83), (0, .nameAndType 84 85), (0, u "ahead"), (0, u "Lcom/example/matchstone/matchstone/PriceLevel;"), (0, .methodref 8 87), (0, .nameAndType 88 89), (0, u "removeEntry"), (0, u "(I)V"), (0, .methodref 14 91), (0, .nameAndType 92 93), (0, u "remove"), (0, u "(Lcom/example/matchstone/matchstone/LevelIndex$Node;J)Z"), (11, .methodref 8 106), (0, .nameAndType 107 53), (0, u "isEmpty"), (3, u "MAX_KEYS"), (9, u "best"), (0, u "()Lcom/example/matchstone/matchstone/PriceLevel;"), (6, u "put"), (0, u "(JLcom/example/matchstone/matchstone/PriceLevel;)Lcom/example/matchstone/matchstone/PriceLevel;"), (0, u "(J)V")] 6

def k2c0 : Code := { maxStack := 2, maxLocals := 1, code := prog_21_method_1_code, exceptionTable := #[], attributes := #[] }
def k2m0 : Method := { name := "<init>", desc := "()V", sig := { parameters := [], returnType := none }, accessFlags := 0, code := some k2c0 }
def k2c1 : Code := { maxStack := 3, maxLocals := 1, code := prog_21_method_3_code, exceptionTable := #[], attributes := #[] }
def k2m1 : Method := { name := "best", desc := "()Lcom/example/matchstone/matchstone/PriceLevel;", sig := { parameters := [], returnType := some (.object "com/example/matchstone/matchstone/PriceLevel") }, accessFlags := 0, code := some k2c1 }
def k2c2 : Code := { maxStack := 5, maxLocals := 6, code := prog_21_method_8_code, exceptionTable := #[], attributes := #[] }
def k2m2 : Method := { name := "put", desc := "(JLcom/example/matchstone/matchstone/PriceLevel;)Lcom/example/matchstone/matchstone/PriceLevel;", sig := { parameters := [.long, (.object "com/example/matchstone/matchstone/PriceLevel")], returnType := some (.object "com/example/matchstone/matchstone/PriceLevel") }, accessFlags := 0, code := some k2c2 }
def k2c3 : Code := { maxStack := 5, maxLocals := 3, code := prog_21_method_9_code, exceptionTable := #[], attributes := #[] }
def k2m3 : Method := { name := "remove", desc := "(J)V", sig := { parameters := [.long], returnType := none }, accessFlags := 0, code := some k2c3 }
def k2c4 : Code := { maxStack := 5, maxLocals := 7, code := prog_21_method_10_code, exceptionTable := #[], attributes := #[] }
def k2m4 : Method := { name := "insert", desc := "(Lcom/example/matchstone/matchstone/LevelIndex$Node;JLcom/example/matchstone/matchstone/PriceLevel;)Lcom/example/matchstone/matchstone/LevelIndex$Node;", sig := { parameters := [(.object "com/example/matchstone/matchstone/LevelIndex$Node"), .long, (.object "com/example/matchstone/matchstone/PriceLevel")], returnType := some (.object "com/example/matchstone/matchstone/LevelIndex$Node") }, accessFlags := 2, code := some k2c4 }
def k2c5 : Code := { maxStack := 6, maxLocals := 5, code := prog_21_method_11_code, exceptionTable := #[], attributes := #[] }
def k2m5 : Method := { name := "remove", desc := "(Lcom/example/matchstone/matchstone/LevelIndex$Node;J)Z", sig := { parameters := [(.object "com/example/matchstone/matchstone/LevelIndex$Node"), .long], returnType := some .boolean }, accessFlags := 2, code := some k2c5 }
/-- com/example/matchstone/matchstone/LevelIndex -/
def k2 : Class := { plain "com/example/matchstone/matchstone/LevelIndex" (some 0) with
  accessFlags := 48
  interfaces := #[]
  cf := some (fileOf pool2 14 #[.nestMembers #[8, 62]] #[{ accessFlags := 0, nameIndex := 5, descriptorIndex := 6, attributes := #[] }, { accessFlags := 0, nameIndex := 121, descriptorIndex := 122, attributes := #[] }, { accessFlags := 0, nameIndex := 129, descriptorIndex := 130, attributes := #[] }, { accessFlags := 0, nameIndex := 92, descriptorIndex := 131, attributes := #[] }, { accessFlags := 2, nameIndex := 73, descriptorIndex := 74, attributes := #[] }, { accessFlags := 2, nameIndex := 92, descriptorIndex := 93, attributes := #[] }] 48 2 #[] #[{ accessFlags := 26, nameIndex := 111, descriptorIndex := 33, attributes := #[] }, { accessFlags := 2, nameIndex := 17, descriptorIndex := 18, attributes := #[] }, { accessFlags := 2, nameIndex := 21, descriptorIndex := 18, attributes := #[] }, { accessFlags := 2, nameIndex := 80, descriptorIndex := 81, attributes := #[] }, { accessFlags := 2, nameIndex := 84, descriptorIndex := 85, attributes := #[] }])
  fields := #[{ name := "MAX_KEYS", type := .int, accessFlags := 26, slot := 0, constantValue := 0 }, { name := "root", type := (.object "com/example/matchstone/matchstone/LevelIndex$Node"), accessFlags := 2, slot := 0, constantValue := 0 }, { name := "last", type := (.object "com/example/matchstone/matchstone/LevelIndex$Node"), accessFlags := 2, slot := 1, constantValue := 0 }, { name := "splitKey", type := .long, accessFlags := 2, slot := 2, constantValue := 0 }, { name := "ahead", type := (.object "com/example/matchstone/matchstone/PriceLevel"), accessFlags := 2, slot := 3, constantValue := 0 }]
  methods := #[k2m0, k2m1, k2m2, k2m3, k2m4, k2m5]
  instanceTypes := #[(.object "com/example/matchstone/matchstone/LevelIndex$Node"), (.object "com/example/matchstone/matchstone/LevelIndex$Node"), .long, (.object "com/example/matchstone/matchstone/PriceLevel")]
  staticTypes := #[.int]
  resolved := ((((((Array.replicate 138 none).set! 26 (some (.field 3 0))).set! 30 (some (.field 3 3))).set! 40 (some (.field 3 1))).set! 44 (some (.field 3 5))).set! 47 (some (.field 3 4))).set! 54 (some (.field 3 2))
  statics := none }

def pool3 : Array CpInfo := pool [(1, .class_ 2), (0, u "com/example/matchstone/matchstone/LevelIndex"), (0, .methodref 4 5), (0, .class_ 6), (0, .nameAndType 7 8), (0, u "java/lang/Object"), (0, u "<init>"), (0, u "()V"), (0, .fieldref 10 11), (0, .class_ 12), (0, .nameAndType 13 14), (0, u "com/example/matchstone/matchstone/LevelIndex$Node"), (0, u "keys"), (0, u "[J"), (0, .fieldref 10 16), (0, .nameAndType 17 18), (0, u "levels"), (0, u "[Lcom/example/matchstone/matchstone/PriceLevel;"), (0, .fieldref 10 20), (0, .nameAndType 21 22), (0, u "children"), (0, u "[Lcom/example/matchstone/matchstone/LevelIndex$Node;"), (0, .class_ 24), (0, u "com/example/matchstone/matchstone/PriceLevel"), (0, .methodref 10 26), (0, .nameAndType 7 27), (0, u "([J[Lcom/example/matchstone/matchstone/PriceLevel;[Lcom/example/matchstone/matchstone/LevelIndex$Node;)V"), (0, .methodref 10 29), (0, .nameAndType 30 31), (0, u "isLeaf"), (0, u "()Z"), (0, .fieldref 10 33), (0, .nameAndType 34 35), (0, u "size"), (0, u "I"), (0, .methodref 37 38), (0, .class_ 39), (0, .nameAndType 40 41), (0, u "java/lang/System"), (0, u "arraycopy"), (0, u "(Ljava/lang/Object;ILjava/lang/Object;II)V"), (0, .methodref 10 43), (0, .nameAndType 44 8), (0, u "unlinkLeaf"), (8, u "leaf"), (0, u "()Lcom/example/matchstone/matchstone/LevelIndex$Node;"), (6, .fieldref 10 62), (0, .nameAndType 63 64), (0, u "previous"), (0, u "Lcom/example/matchstone/matchstone/LevelIndex$Node;"), (0, .fieldref 10 66), (0, .nameAndType 67 64), (0, u "next"), (13, u "isEmpty"), (0, u "insertEntry"), (0, u "(IJLcom/example/matchstone/matchstone/PriceLevel;)V"), (0, u "removeEntry"), (0, u "(I)V")] 11

def k3c0 : Code := { maxStack := 2, maxLocals := 4, code := prog_23_method_1_code, exceptionTable := #[], attributes := #[] }
def k3m0 : Method := { name := "<init>", desc := "([J[Lcom/example/matchstone/matchstone/PriceLevel;[Lcom/example/matchstone/matchstone/LevelIndex$Node;)V", sig := { parameters := [(.array .long), (.array (.object "com/example/matchstone/matchstone/PriceLevel")), (.array (.object "com/example/matchstone/matchstone/LevelIndex$Node"))], returnType := none }, accessFlags := 2, code := some k3c0 }
def k3c1 : Code := { maxStack := 5, maxLocals := 0, code := prog_23_method_2_code, exceptionTable := #[], attributes := #[] }
def k3m1 : Method := { name := "leaf", desc := "()Lcom/example/matchstone/matchstone/LevelIndex$Node;", sig := { parameters := [], returnType := some (.object "com/example/matchstone/matchstone/LevelIndex$Node") }, accessFlags := 8, code := some k3c1 }
def k3c2 : Code := { maxStack := 1, maxLocals := 1, code := prog_23_method_4_code, exceptionTable := #[], attributes := #[] }
def k3m2 : Method := { name := "isLeaf", desc := "()Z", sig := { parameters := [], returnType := some .boolean }, accessFlags := 0, code := some k3c2 }
def k3c3 : Code := { maxStack := 2, maxLocals := 1, code := prog_23_method_5_code, exceptionTable := #[], attributes := #[] }
def k3m3 : Method := { name := "isEmpty", desc := "()Z", sig := { parameters := [], returnType := some .boolean }, accessFlags := 0, code := some k3c3 }
def k3c4 : Code := { maxStack := 6, maxLocals := 5, code := prog_23_method_6_code, exceptionTable := #[], attributes := #[] }
def k3m4 : Method := { name := "insertEntry", desc := "(IJLcom/example/matchstone/matchstone/PriceLevel;)V", sig := { parameters := [.int, .long, (.object "com/example/matchstone/matchstone/PriceLevel")], returnType := none }, accessFlags := 0, code := some k3c4 }
def k3c5 : Code := { maxStack := 6, maxLocals := 2, code := prog_23_method_7_code, exceptionTable := #[], attributes := #[] }
def k3m5 : Method := { name := "removeEntry", desc := "(I)V", sig := { parameters := [.int], returnType := none }, accessFlags := 0, code := some k3c5 }
def k3c6 : Code := { maxStack := 2, maxLocals := 1, code := prog_23_method_12_code, exceptionTable := #[], attributes := #[] }
def k3m6 : Method := { name := "unlinkLeaf", desc := "()V", sig := { parameters := [], returnType := none }, accessFlags := 2, code := some k3c6 }
/-- com/example/matchstone/matchstone/LevelIndex$Node -/
def k3 : Class := { plain "com/example/matchstone/matchstone/LevelIndex$Node" (some 0) with
  accessFlags := 48
  interfaces := #[]
  cf := some (fileOf pool3 10 #[.nestHost 1] #[{ accessFlags := 2, nameIndex := 7, descriptorIndex := 27, attributes := #[] }, { accessFlags := 8, nameIndex := 53, descriptorIndex := 54, attributes := #[] }, { accessFlags := 0, nameIndex := 30, descriptorIndex := 31, attributes := #[] }, { accessFlags := 0, nameIndex := 81, descriptorIndex := 31, attributes := #[] }, { accessFlags := 0, nameIndex := 82, descriptorIndex := 83, attributes := #[] }, { accessFlags := 0, nameIndex := 84, descriptorIndex := 85, attributes := #[] }, { accessFlags := 2, nameIndex := 44, descriptorIndex := 8, attributes := #[] }] 48 4 #[] #[{ accessFlags := 18, nameIndex := 13, descriptorIndex := 14, attributes := #[] }, { accessFlags := 18, nameIndex := 17, descriptorIndex := 18, attributes := #[] }, { accessFlags := 18, nameIndex := 21, descriptorIndex := 22, attributes := #[] }, { accessFlags := 2, nameIndex := 34, descriptorIndex := 35, attributes := #[] }, { accessFlags := 2, nameIndex := 63, descriptorIndex := 64, attributes := #[] }, { accessFlags := 2, nameIndex := 67, descriptorIndex := 64, attributes := #[] }])
  fields := #[{ name := "keys", type := (.array .long), accessFlags := 18, slot := 0, constantValue := 0 }, { name := "levels", type := (.array (.object "com/example/matchstone/matchstone/PriceLevel")), accessFlags := 18, slot := 1, constantValue := 0 }, { name := "children", type := (.array (.object "com/example/matchstone/matchstone/LevelIndex$Node")), accessFlags := 18, slot := 2, constantValue := 0 }, { name := "size", type := .int, accessFlags := 2, slot := 3, constantValue := 0 }, { name := "previous", type := (.object "com/example/matchstone/matchstone/LevelIndex$Node"), accessFlags := 2, slot := 4, constantValue := 0 }, { name := "next", type := (.object "com/example/matchstone/matchstone/LevelIndex$Node"), accessFlags := 2, slot := 5, constantValue := 0 }]
  methods := #[k3m0, k3m1, k3m2, k3m3, k3m4, k3m5, k3m6]
  instanceTypes := #[(.array .long), (.array (.object "com/example/matchstone/matchstone/PriceLevel")), (.array (.object "com/example/matchstone/matchstone/LevelIndex$Node")), .int, (.object "com/example/matchstone/matchstone/LevelIndex$Node"), (.object "com/example/matchstone/matchstone/LevelIndex$Node")]
  staticTypes := #[]
  resolved := Array.replicate 97 none
  statics := none }

def pool4 : Array CpInfo := pool [(1, .methodref 2 3), (0, .class_ 4), (0, .nameAndType 5 6), (0, u "java/lang/Object"), (0, u "<init>"), (0, u "()V"), (0, .fieldref 8 9), (0, .class_ 10), (0, .nameAndType 11 12), (0, u "com/example/matchstone/matchstone/PriceLevel"), (0, u "price"), (0, u "Lcom/example/matchstone/matchstone/Price;"), (0, .fieldref 8 14), (0, .nameAndType 15 16), (0, u "bookSide"), (0, u "Lcom/example/matchstone/matchstone/BookSide;"), (2, u "first"), (0, u "Lcom/example/matchstone/matchstone/RestingOrder;"), (6, u "lastDisplayed"), (21, u "KINDS"), (0, u "[Lcom/example/matchstone/matchstone/Interest;"), (8, .class_ 61), (1, u "com/example/matchstone/matchstone/PriceLevel$1"), (9, u "lastNonDisplayed"), (2, u "lastPeg"), (19, u "better"), (0, u "Lcom/example/matchstone/matchstone/PriceLevel;"), (0, u "worse"), (0, u "(Lcom/example/matchstone/matchstone/Price;Lcom/example/matchstone/matchstone/BookSide;)V")] 35

def k4c0 : Code := { maxStack := 2, maxLocals := 3, code := prog_42_method_1_code, exceptionTable := #[], attributes := #[] }
def k4m0 : Method := { name := "<init>", desc := "(Lcom/example/matchstone/matchstone/Price;Lcom/example/matchstone/matchstone/BookSide;)V", sig := { parameters := [(.object "com/example/matchstone/matchstone/Price"), (.object "com/example/matchstone/matchstone/BookSide")], returnType := none }, accessFlags := 0, code := some k4c0 }
/-- com/example/matchstone/matchstone/PriceLevel -/
def k4 : Class := { plain "com/example/matchstone/matchstone/PriceLevel" (some 0) with
  accessFlags := 48
  interfaces := #[]
  cf := some (fileOf pool4 8 #[.nestMembers #[59]] #[{ accessFlags := 0, nameIndex := 5, descriptorIndex := 97, attributes := #[] }] 48 2 #[] #[{ accessFlags := 26, nameIndex := 49, descriptorIndex := 50, attributes := #[] }, { accessFlags := 18, nameIndex := 11, descriptorIndex := 12, attributes := #[] }, { accessFlags := 18, nameIndex := 15, descriptorIndex := 16, attributes := #[] }, { accessFlags := 2, nameIndex := 19, descriptorIndex := 20, attributes := #[] }, { accessFlags := 2, nameIndex := 27, descriptorIndex := 20, attributes := #[] }, { accessFlags := 2, nameIndex := 71, descriptorIndex := 20, attributes := #[] }, { accessFlags := 2, nameIndex := 74, descriptorIndex := 20, attributes := #[] }, { accessFlags := 0, nameIndex := 94, descriptorIndex := 95, attributes := #[] }, { accessFlags := 0, nameIndex := 96, descriptorIndex := 95, attributes := #[] }])
  fields := #[{ name := "KINDS", type := (.array (.object "com/example/matchstone/matchstone/Interest")), accessFlags := 26, slot := 0, constantValue := 0 }, { name := "price", type := (.object "com/example/matchstone/matchstone/Price"), accessFlags := 18, slot := 0, constantValue := 0 }, { name := "bookSide", type := (.object "com/example/matchstone/matchstone/BookSide"), accessFlags := 18, slot := 1, constantValue := 0 }, { name := "first", type := (.object "com/example/matchstone/matchstone/RestingOrder"), accessFlags := 2, slot := 2, constantValue := 0 }, { name := "lastDisplayed", type := (.object "com/example/matchstone/matchstone/RestingOrder"), accessFlags := 2, slot := 3, constantValue := 0 }, { name := "lastNonDisplayed", type := (.object "com/example/matchstone/matchstone/RestingOrder"), accessFlags := 2, slot := 4, constantValue := 0 }, { name := "lastPeg", type := (.object "com/example/matchstone/matchstone/RestingOrder"), accessFlags := 2, slot := 5, constantValue := 0 }, { name := "better", type := (.object "com/example/matchstone/matchstone/PriceLevel"), accessFlags := 0, slot := 6, constantValue := 0 }, { name := "worse", type := (.object "com/example/matchstone/matchstone/PriceLevel"), accessFlags := 0, slot := 7, constantValue := 0 }]
  methods := #[k4m0]
  instanceTypes := #[(.object "com/example/matchstone/matchstone/Price"), (.object "com/example/matchstone/matchstone/BookSide"), (.object "com/example/matchstone/matchstone/RestingOrder"), (.object "com/example/matchstone/matchstone/RestingOrder"), (.object "com/example/matchstone/matchstone/RestingOrder"), (.object "com/example/matchstone/matchstone/RestingOrder"), (.object "com/example/matchstone/matchstone/PriceLevel"), (.object "com/example/matchstone/matchstone/PriceLevel")]
  staticTypes := #[(.array (.object "com/example/matchstone/matchstone/Interest"))]
  resolved := Array.replicate 133 none
  statics := none }

def pool5 : Array CpInfo := pool [(2, .class_ 4), (1, u "java/lang/Object"), (0, u "<init>"), (0, u "()V"), (1, .class_ 10), (1, u "java/lang/System"), (0, u "allowSecurityManager"), (0, u "I"), (16, u "cons"), (0, u "Ljava/io/Console;"), (77, .class_ 110), (1, u "java/lang/System$CallersHolder"), (43, u "initialErrStream"), (0, u "Ljava/io/PrintStream;"), (19, u "security"), (0, u "Ljava/lang/SecurityManager;"), (31, .class_ 209), (0, u "java/lang/System$1"), (7, u "props"), (0, u "Ljava/util/Properties;"), (2, u "lineSeparator"), (0, u "Ljava/lang/String;"), (96, .class_ 321), (1, u "java/lang/System$LoggerFinder"), (5, .class_ 328), (0, u "java/lang/System$Logger"), (67, u "err"), (2, u "out"), (91, u "notSupportedJnuEncoding"), (15, u "in"), (17, u "initialIn"), (0, u "Ljava/io/InputStream;"), (35, u "bootLayer"), (0, u "Ljava/lang/ModuleLayer;"), (99, .class_ 664), (0, u "java/lang/System$2"), (9, u "NEVER"), (2, u "MAYBE"), (49, u "arraycopy"), (0, u "(Ljava/lang/Object;ILjava/lang/Object;II)V"), (72, .class_ 802), (0, u "java/lang/System$Logger$Level")] 31

def k5m0 : Method := { name := "<init>", desc := "()V", sig := { parameters := [], returnType := none }, accessFlags := 2, code := none }
def k5m1 : Method := { name := "arraycopy", desc := "(Ljava/lang/Object;ILjava/lang/Object;II)V", sig := { parameters := [(.object "java/lang/Object"), .int, (.object "java/lang/Object"), .int, .int], returnType := none }, accessFlags := 265, code := none }
/-- java/lang/System -/
def k5 : Class := { plain "java/lang/System" (some 0) with
  accessFlags := 49
  interfaces := #[]
  cf := some (fileOf pool5 8 #[.nestMembers #[319, 327, 801, 108, 663, 208]] #[{ accessFlags := 2, nameIndex := 5, descriptorIndex := 6, attributes := #[] }, { accessFlags := 265, nameIndex := 727, descriptorIndex := 728, attributes := #[] }] 49 2 #[] #[{ accessFlags := 25, nameIndex := 507, descriptorIndex := 526, attributes := #[] }, { accessFlags := 25, nameIndex := 399, descriptorIndex := 155, attributes := #[] }, { accessFlags := 25, nameIndex := 396, descriptorIndex := 155, attributes := #[] }, { accessFlags := 10, nameIndex := 525, descriptorIndex := 526, attributes := #[] }, { accessFlags := 26, nameIndex := 674, descriptorIndex := 12, attributes := #[] }, { accessFlags := 26, nameIndex := 677, descriptorIndex := 12, attributes := #[] }, { accessFlags := 10, nameIndex := 11, descriptorIndex := 12, attributes := #[] }, { accessFlags := 74, nameIndex := 175, descriptorIndex := 176, attributes := #[] }, { accessFlags := 10, nameIndex := 491, descriptorIndex := 222, attributes := #[] }, { accessFlags := 74, nameIndex := 29, descriptorIndex := 30, attributes := #[] }, { accessFlags := 74, nameIndex := 154, descriptorIndex := 155, attributes := #[] }, { accessFlags := 10, nameIndex := 217, descriptorIndex := 218, attributes := #[] }, { accessFlags := 10, nameIndex := 221, descriptorIndex := 222, attributes := #[] }, { accessFlags := 8, nameIndex := 562, descriptorIndex := 563, attributes := #[] }])
  fields := #[{ name := "in", type := (.object "java/io/InputStream"), accessFlags := 25, slot := 0, constantValue := 0 }, { name := "out", type := (.object "java/io/PrintStream"), accessFlags := 25, slot := 1, constantValue := 0 }, { name := "err", type := (.object "java/io/PrintStream"), accessFlags := 25, slot := 2, constantValue := 0 }, { name := "initialIn", type := (.object "java/io/InputStream"), accessFlags := 10, slot := 3, constantValue := 0 }, { name := "NEVER", type := .int, accessFlags := 26, slot := 4, constantValue := 0 }, { name := "MAYBE", type := .int, accessFlags := 26, slot := 5, constantValue := 0 }, { name := "allowSecurityManager", type := .int, accessFlags := 10, slot := 6, constantValue := 0 }, { name := "security", type := (.object "java/lang/SecurityManager"), accessFlags := 74, slot := 7, constantValue := 0 }, { name := "notSupportedJnuEncoding", type := (.object "java/lang/String"), accessFlags := 10, slot := 8, constantValue := 0 }, { name := "cons", type := (.object "java/io/Console"), accessFlags := 74, slot := 9, constantValue := 0 }, { name := "initialErrStream", type := (.object "java/io/PrintStream"), accessFlags := 74, slot := 10, constantValue := 0 }, { name := "props", type := (.object "java/util/Properties"), accessFlags := 10, slot := 11, constantValue := 0 }, { name := "lineSeparator", type := (.object "java/lang/String"), accessFlags := 10, slot := 12, constantValue := 0 }, { name := "bootLayer", type := (.object "java/lang/ModuleLayer"), accessFlags := 8, slot := 13, constantValue := 0 }]
  methods := #[k5m0, k5m1]
  instanceTypes := #[]
  staticTypes := #[(.object "java/io/InputStream"), (.object "java/io/PrintStream"), (.object "java/io/PrintStream"), (.object "java/io/InputStream"), .int, .int, .int, (.object "java/lang/SecurityManager"), (.object "java/lang/String"), (.object "java/io/Console"), (.object "java/io/PrintStream"), (.object "java/util/Properties"), (.object "java/lang/String"), (.object "java/lang/ModuleLayer")]
  resolved := Array.replicate 834 none
  statics := none }

def pool6 : Array CpInfo := pool [(2, .class_ 4), (1, u "java/lang/Object"), (0, u "<init>"), (0, u "()V"), (6, .methodref 14 15), (0, .class_ 16), (0, .nameAndType 17 18), (0, u "java/util/Arrays"), (0, u "rangeCheck"), (0, u "(III)V"), (55, .class_ 76), (1, u "java/util/Arrays$NaturalOrder"), (36, .class_ 115), (1, u "java/util/Arrays$LegacyMergeSort"), (1, u "Z"), (87, .methodref 14 206), (0, .nameAndType 207 208), (0, u "binarySearch0"), (0, u "([JIIJ)I"), (166, .class_ 376), (0, u "java/util/Arrays$ArrayList"), (68, u "$assertionsDisabled"), (269, u "MIN_ARRAY_SORT_GRAN"), (0, u "I"), (2, u "INSERTIONSORT_THRESHOLD"), (74, u "binarySearch"), (180, .class_ 976), (0, u "java/util/Arrays$ArrayItr")] 52

def k6m0 : Method := { name := "<init>", desc := "()V", sig := { parameters := [], returnType := none }, accessFlags := 2, code := none }
def k6c1 : Code := { maxStack := 4, maxLocals := 3, code := jdk_65_method_30_code, exceptionTable := #[], attributes := #[] }
def k6m1 : Method := { name := "rangeCheck", desc := "(III)V", sig := { parameters := [.int, .int, .int], returnType := none }, accessFlags := 8, code := some k6c1 }
def k6c2 : Code := { maxStack := 5, maxLocals := 5, code := jdk_65_method_55_code, exceptionTable := #[], attributes := #[] }
def k6m2 : Method := { name := "binarySearch", desc := "([JIIJ)I", sig := { parameters := [(.array .long), .int, .int, .long], returnType := some .int }, accessFlags := 9, code := some k6c2 }
def k6c3 : Code := { maxStack := 4, maxLocals := 10, code := jdk_65_method_56_code, exceptionTable := #[], attributes := #[] }
def k6m3 : Method := { name := "binarySearch0", desc := "([JIIJ)I", sig := { parameters := [(.array .long), .int, .int, .long], returnType := some .int }, accessFlags := 10, code := some k6c3 }
/-- java/util/Arrays -/
def k6 : Class := { plain "java/util/Arrays" (some 0) with
  accessFlags := 49
  interfaces := #[]
  cf := some (fileOf pool6 14 #[.nestMembers #[975, 375, 113, 74]] #[{ accessFlags := 2, nameIndex := 5, descriptorIndex := 6, attributes := #[] }, { accessFlags := 8, nameIndex := 17, descriptorIndex := 18, attributes := #[] }, { accessFlags := 9, nameIndex := 794, descriptorIndex := 208, attributes := #[] }, { accessFlags := 10, nameIndex := 207, descriptorIndex := 208, attributes := #[] }] 49 2 #[] #[{ accessFlags := 26, nameIndex := 715, descriptorIndex := 716, attributes := #[] }, { accessFlags := 26, nameIndex := 719, descriptorIndex := 716, attributes := #[] }, { accessFlags := 4120, nameIndex := 445, descriptorIndex := 117, attributes := #[] }])
  fields := #[{ name := "MIN_ARRAY_SORT_GRAN", type := .int, accessFlags := 26, slot := 0, constantValue := 0 }, { name := "INSERTIONSORT_THRESHOLD", type := .int, accessFlags := 26, slot := 1, constantValue := 0 }, { name := "$assertionsDisabled", type := .boolean, accessFlags := 4120, slot := 2, constantValue := 0 }]
  methods := #[k6m0, k6m1, k6m2, k6m3]
  instanceTypes := #[]
  staticTypes := #[.int, .int, .boolean]
  resolved := Array.replicate 1029 none
  statics := none }

def pool7 : Array CpInfo := pool [(1, u "java/lang/Cloneable"), (0, .class_ 1), (0, u "java/lang/Object"), (0, .class_ 3)] 3

/-- java/lang/Cloneable -/
def k7 : Class := { plain "java/lang/Cloneable" (some 0) with
  accessFlags := 1537
  interfaces := #[]
  cf := some (fileOf pool7 2 #[] #[] 1537 4 #[] #[])
  fields := #[]
  methods := #[]
  instanceTypes := #[]
  staticTypes := #[]
  resolved := Array.replicate 8 none
  statics := none }

def pool8 : Array CpInfo := pool [(1, u "java/io/Serializable"), (0, .class_ 1), (0, u "java/lang/Object"), (0, .class_ 3)] 3

/-- java/io/Serializable -/
def k8 : Class := { plain "java/io/Serializable" (some 0) with
  accessFlags := 1537
  interfaces := #[]
  cf := some (fileOf pool8 2 #[] #[] 1537 4 #[] #[])
  fields := #[]
  methods := #[]
  instanceTypes := #[]
  staticTypes := #[]
  resolved := Array.replicate 8 none
  statics := none }

/-- the primitive byte -/
def k9 : Class := { plain "byte" none with kind := .primitive 'B', accessFlags := 0x411 }
/-- [B -/
def k10 : Class := { plain "[B" (some 0) with kind := .array 9 .byte, interfaces := #[7, 8], accessFlags := 1041 }

/-- the primitive int -/
def k11 : Class := { plain "int" none with kind := .primitive 'I', accessFlags := 0x411 }
/-- [I -/
def k12 : Class := { plain "[I" (some 0) with kind := .array 11 .int, interfaces := #[7, 8], accessFlags := 1041 }

/-- the primitive long -/
def k13 : Class := { plain "long" none with kind := .primitive 'J', accessFlags := 0x411 }
/-- [J -/
def k14 : Class := { plain "[J" (some 0) with kind := .array 13 .long, interfaces := #[7, 8], accessFlags := 1041 }

/-- [Lcom/example/matchstone/matchstone/PriceLevel; -/
def k15 : Class := { plain "[Lcom/example/matchstone/matchstone/PriceLevel;" (some 0) with kind := .array 4 (.object "com/example/matchstone/matchstone/PriceLevel"), interfaces := #[7, 8], accessFlags := 1041 }

def heap : Heap := #[]
def classes : Array Class := #[k0, k1, k2, k3, k4, k5, k6, k7, k8, k9, k10, k11, k12, k13, k14, k15]
def interned : List (Array UInt16 × Addr) := []
def slotsUsed : Nat := 0
def theMethod : MethodId := ⟨1, 2⟩
def args0 : Array Value := #[.long 5, .long 7, .long 6, .int 0]
def aboutOver (below : List Frame) : State where
  vm := { classes := classes, interned := interned.toArray }
  heap := heap
  slotsUsed := slotsUsed
  threads := #[{ frames := .invoking theMethod args0 :: below }]
def below0 : List Frame := [.native { method := ⟨0, 0⟩, args := #[] }]
def about1 : State := aboutOver below0
def p0 : Program := .bare "" "" ""
def e0 : Env := launch0.env 0 0 0
theorem w_frames : about1.frames = Frame.invoking theMethod args0 :: below0 := rfl
set_option maxRecDepth 65536 in
theorem w_args : argsFit about1.vm theMethod args0 = true := by decide +kernel
set_option maxRecDepth 65536 in
theorem w_heap : heapFits about1 = true := by decide +kernel
set_option maxRecDepth 65536 in
theorem w_runnable : about1.curStatus? = some .runnable := by decide +kernel
set_option maxRecDepth 65536 in
theorem w_alone : about1.alone = true := by decide +kernel
set_option maxRecDepth 65536 in
theorem w_named : about1.methodNamed? x = some theMethod := by decide +kernel
set_option maxRecDepth 65536 in
theorem w_hears : about1.hears theMethod below0 = true := by decide +kernel
set_option maxRecDepth 65536 in
theorem w_ripe : about1.ripe theMethod args0 below0 = true := by decide +kernel
theorem w_running : about1.status = .running := rfl
set_option maxRecDepth 65536 in
theorem w_room : about1.hasRoom e0.platform room_1 = true :=
  launch0.hasRoom_least _ room_1 (by decide +kernel) (by decide +kernel) (by decide +kernel) (by decide +kernel) (by decide +kernel) (by decide +kernel)
theorem allAtoms_all (ts : List Jvm.Cond) (a : Array Jvm.Value) (st : Jvm.State) : (allAtoms ts).before a st = ts.all (fun c => c.before a st) := by
  induction ts with
  | nil => rfl
  | cons c t ih =>
    show (Jvm.Cond.and c (allAtoms t)).before a st = _
    rw [Jvm.Cond.before_and, ih, List.all_cons]
def words1 : List Jvm.Cond := Jvm.Cond.code x code maxLocals ret :: tables_1
/-- a 'code' word, met by the world's own term for the bytes: nothing is compared byte by byte -/
theorem code_word {y : MethodName} {bytes : ByteArray} {mx : Nat} {rt : Option FieldType} {a : Array Value} {s : State} {m : MethodId} {meth : Method} {c : Code} (h1 : s.methodNamed? y = some m) (h2 : s.vm.method? m = some meth) (h3 : meth.code = some c) (h4 : c.code = bytes)
    (h5 : (c.maxLocals == mx && c.exceptionTable.isEmpty && decide (c.maxStack ≤ mostOperands) && decide (meth.sig.returnType = rt) && !meth.locks && decide (parseMethodDescriptor y.desc = some meth.sig)) = true) : (Jvm.Cond.code y bytes mx rt).before a s = true := by
  simp only [Bool.and_eq_true, beq_iff_eq, Bool.not_eq_true', decide_eq_true_eq] at h5
  obtain ⟨⟨⟨⟨⟨g1, g2⟩, g3⟩, g4⟩, g5⟩, g6⟩ := h5
  simp [Cond.before, Cond.holds, Cond.value, h1, h2, h3, h4, g1, g2, g3, g4, g5, g6]
def isCode : Jvm.Cond → Bool
  | .code _ _ _ _ => true
  | _ => false
theorem all_split {L : List Jvm.Cond} {P : Jvm.Cond → Bool} (h1 : L.all (fun c => isCode c || P c) = true) (h2 : ∀ c ∈ L.filter isCode, P c = true) : L.all P = true := by
  refine List.all_eq_true.mpr fun c hc => ?_
  have h := List.all_eq_true.mp h1 c hc
  rcases Bool.eq_false_or_eq_true (isCode c) with hi | hi
  · exact h2 c (List.mem_filter.mpr ⟨hc, hi⟩)
  · simpa [hi] using h
set_option maxRecDepth 65536 in
theorem w_c0 : (Jvm.Cond.code x code maxLocals ret).before args0 about1 = true := code_word (m := ⟨1, 2⟩) (meth := k1m2) (c := k1c2) (by decide +kernel) rfl rfl rfl (by decide +kernel)
set_option maxRecDepth 65536 in
theorem w_c1 : (Jvm.Cond.code ({ cls := "com/example/matchstone/matchstone/LevelIndex", name := "<init>", desc := "()V" } : Jvm.MethodName) prog_21_method_1_code (1 : Nat) (Option.none : Option Jvm.ClassFile.FieldType)).before args0 about1 = true := code_word (m := ⟨2, 0⟩) (meth := k2m0) (c := k2c0) (by decide +kernel) rfl rfl rfl (by decide +kernel)
set_option maxRecDepth 65536 in
theorem w_c2 : (Jvm.Cond.code ({ cls := "java/lang/Object", name := "<init>", desc := "()V" } : Jvm.MethodName) object_method_1_code (1 : Nat) (Option.none : Option Jvm.ClassFile.FieldType)).before args0 about1 = true := code_word (m := ⟨0, 0⟩) (meth := k0m0) (c := k0c0) (by decide +kernel) rfl rfl rfl (by decide +kernel)
set_option maxRecDepth 65536 in
theorem w_c3 : (Jvm.Cond.code ({ cls := "com/example/matchstone/matchstone/LevelIndex$Node", name := "leaf", desc := "()Lcom/example/matchstone/matchstone/LevelIndex$Node;" } : Jvm.MethodName) prog_23_method_2_code (0 : Nat) (Option.some (Jvm.ClassFile.FieldType.object "com/example/matchstone/matchstone/LevelIndex$Node"))).before args0 about1 = true := code_word (m := ⟨3, 1⟩) (meth := k3m1) (c := k3c1) (by decide +kernel) rfl rfl rfl (by decide +kernel)
set_option maxRecDepth 65536 in
theorem w_c4 : (Jvm.Cond.code ({ cls := "com/example/matchstone/matchstone/LevelIndex$Node", name := "<init>", desc := "([J[Lcom/example/matchstone/matchstone/PriceLevel;[Lcom/example/matchstone/matchstone/LevelIndex$Node;)V" } : Jvm.MethodName) prog_23_method_1_code (4 : Nat) (Option.none : Option Jvm.ClassFile.FieldType)).before args0 about1 = true := code_word (m := ⟨3, 0⟩) (meth := k3m0) (c := k3c0) (by decide +kernel) rfl rfl rfl (by decide +kernel)
set_option maxRecDepth 65536 in
theorem w_c5 : (Jvm.Cond.code ({ cls := "com/example/matchstone/matchstone/PriceLevel", name := "<init>", desc := "(Lcom/example/matchstone/matchstone/Price;Lcom/example/matchstone/matchstone/BookSide;)V" } : Jvm.MethodName) prog_42_method_1_code (3 : Nat) (Option.none : Option Jvm.ClassFile.FieldType)).before args0 about1 = true := code_word (m := ⟨4, 0⟩) (meth := k4m0) (c := k4c0) (by decide +kernel) rfl rfl rfl (by decide +kernel)
set_option maxRecDepth 65536 in
theorem w_c6 : (Jvm.Cond.code ({ cls := "com/example/matchstone/matchstone/LevelIndex", name := "put", desc := "(JLcom/example/matchstone/matchstone/PriceLevel;)Lcom/example/matchstone/matchstone/PriceLevel;" } : Jvm.MethodName) prog_21_method_8_code (6 : Nat) (Option.some (Jvm.ClassFile.FieldType.object "com/example/matchstone/matchstone/PriceLevel"))).before args0 about1 = true := code_word (m := ⟨2, 2⟩) (meth := k2m2) (c := k2c2) (by decide +kernel) rfl rfl rfl (by decide +kernel)
set_option maxRecDepth 65536 in
theorem w_c7 : (Jvm.Cond.code ({ cls := "com/example/matchstone/matchstone/LevelIndex$Node", name := "insertEntry", desc := "(IJLcom/example/matchstone/matchstone/PriceLevel;)V" } : Jvm.MethodName) prog_23_method_6_code (5 : Nat) (Option.none : Option Jvm.ClassFile.FieldType)).before args0 about1 = true := code_word (m := ⟨3, 4⟩) (meth := k3m4) (c := k3c4) (by decide +kernel) rfl rfl rfl (by decide +kernel)
set_option maxRecDepth 65536 in
theorem w_c8 : (Jvm.Cond.code ({ cls := "com/example/matchstone/matchstone/LevelIndex", name := "insert", desc := "(Lcom/example/matchstone/matchstone/LevelIndex$Node;JLcom/example/matchstone/matchstone/PriceLevel;)Lcom/example/matchstone/matchstone/LevelIndex$Node;" } : Jvm.MethodName) prog_21_method_10_code (7 : Nat) (Option.some (Jvm.ClassFile.FieldType.object "com/example/matchstone/matchstone/LevelIndex$Node"))).before args0 about1 = true := code_word (m := ⟨2, 4⟩) (meth := k2m4) (c := k2c4) (by decide +kernel) rfl rfl rfl (by decide +kernel)
set_option maxRecDepth 65536 in
theorem w_c9 : (Jvm.Cond.code ({ cls := "com/example/matchstone/matchstone/LevelIndex$Node", name := "isLeaf", desc := "()Z" } : Jvm.MethodName) prog_23_method_4_code (1 : Nat) (Option.some Jvm.ClassFile.FieldType.boolean)).before args0 about1 = true := code_word (m := ⟨3, 2⟩) (meth := k3m2) (c := k3c2) (by decide +kernel) rfl rfl rfl (by decide +kernel)
set_option maxRecDepth 65536 in
theorem w_c10 : (Jvm.Cond.code ({ cls := "java/util/Arrays", name := "binarySearch", desc := "([JIIJ)I" } : Jvm.MethodName) jdk_65_method_55_code (5 : Nat) (Option.some Jvm.ClassFile.FieldType.int)).before args0 about1 = true := code_word (m := ⟨6, 2⟩) (meth := k6m2) (c := k6c2) (by decide +kernel) rfl rfl rfl (by decide +kernel)
set_option maxRecDepth 65536 in
theorem w_c11 : (Jvm.Cond.code ({ cls := "java/util/Arrays", name := "rangeCheck", desc := "(III)V" } : Jvm.MethodName) jdk_65_method_30_code (3 : Nat) (Option.none : Option Jvm.ClassFile.FieldType)).before args0 about1 = true := code_word (m := ⟨6, 1⟩) (meth := k6m1) (c := k6c1) (by decide +kernel) rfl rfl rfl (by decide +kernel)
set_option maxRecDepth 65536 in
theorem w_c12 : (Jvm.Cond.code ({ cls := "java/util/Arrays", name := "binarySearch0", desc := "([JIIJ)I" } : Jvm.MethodName) jdk_65_method_56_code (10 : Nat) (Option.some Jvm.ClassFile.FieldType.int)).before args0 about1 = true := code_word (m := ⟨6, 3⟩) (meth := k6m3) (c := k6c3) (by decide +kernel) rfl rfl rfl (by decide +kernel)
set_option maxRecDepth 65536 in
theorem w_c13 : (Jvm.Cond.code ({ cls := "com/example/matchstone/matchstone/LevelIndex", name := "best", desc := "()Lcom/example/matchstone/matchstone/PriceLevel;" } : Jvm.MethodName) prog_21_method_3_code (1 : Nat) (Option.some (Jvm.ClassFile.FieldType.object "com/example/matchstone/matchstone/PriceLevel"))).before args0 about1 = true := code_word (m := ⟨2, 1⟩) (meth := k2m1) (c := k2c1) (by decide +kernel) rfl rfl rfl (by decide +kernel)
set_option maxRecDepth 65536 in
theorem w_c14 : (Jvm.Cond.code ({ cls := "com/example/matchstone/matchstone/LevelIndexBestPinLaw", name := "expected", desc := "(ZJLcom/example/matchstone/matchstone/PriceLevel;ZJLcom/example/matchstone/matchstone/PriceLevel;ZJLcom/example/matchstone/matchstone/PriceLevel;)Lcom/example/matchstone/matchstone/PriceLevel;" } : Jvm.MethodName) method_2_code (15 : Nat) (Option.some (Jvm.ClassFile.FieldType.object "com/example/matchstone/matchstone/PriceLevel"))).before args0 about1 = true := code_word (m := ⟨1, 1⟩) (meth := k1m1) (c := k1c1) (by decide +kernel) rfl rfl rfl (by decide +kernel)
set_option maxRecDepth 65536 in
theorem w_c15 : (Jvm.Cond.code ({ cls := "com/example/matchstone/matchstone/LevelIndex", name := "remove", desc := "(J)V" } : Jvm.MethodName) prog_21_method_9_code (3 : Nat) (Option.none : Option Jvm.ClassFile.FieldType)).before args0 about1 = true := code_word (m := ⟨2, 3⟩) (meth := k2m3) (c := k2c3) (by decide +kernel) rfl rfl rfl (by decide +kernel)
set_option maxRecDepth 65536 in
theorem w_c16 : (Jvm.Cond.code ({ cls := "com/example/matchstone/matchstone/LevelIndex", name := "remove", desc := "(Lcom/example/matchstone/matchstone/LevelIndex$Node;J)Z" } : Jvm.MethodName) prog_21_method_11_code (5 : Nat) (Option.some Jvm.ClassFile.FieldType.boolean)).before args0 about1 = true := code_word (m := ⟨2, 5⟩) (meth := k2m5) (c := k2c5) (by decide +kernel) rfl rfl rfl (by decide +kernel)
set_option maxRecDepth 65536 in
theorem w_c17 : (Jvm.Cond.code ({ cls := "com/example/matchstone/matchstone/LevelIndex$Node", name := "removeEntry", desc := "(I)V" } : Jvm.MethodName) prog_23_method_7_code (2 : Nat) (Option.none : Option Jvm.ClassFile.FieldType)).before args0 about1 = true := code_word (m := ⟨3, 5⟩) (meth := k3m5) (c := k3c5) (by decide +kernel) rfl rfl rfl (by decide +kernel)
set_option maxRecDepth 65536 in
theorem w_c18 : (Jvm.Cond.code ({ cls := "com/example/matchstone/matchstone/LevelIndex$Node", name := "isEmpty", desc := "()Z" } : Jvm.MethodName) prog_23_method_5_code (1 : Nat) (Option.some Jvm.ClassFile.FieldType.boolean)).before args0 about1 = true := code_word (m := ⟨3, 3⟩) (meth := k3m3) (c := k3c3) (by decide +kernel) rfl rfl rfl (by decide +kernel)
set_option maxRecDepth 65536 in
theorem w_c19 : (Jvm.Cond.code ({ cls := "com/example/matchstone/matchstone/LevelIndex$Node", name := "unlinkLeaf", desc := "()V" } : Jvm.MethodName) prog_23_method_12_code (1 : Nat) (Option.none : Option Jvm.ClassFile.FieldType)).before args0 about1 = true := code_word (m := ⟨3, 6⟩) (meth := k3m6) (c := k3c6) (by decide +kernel) rfl rfl rfl (by decide +kernel)
def codes1 : List Jvm.Cond := [Jvm.Cond.code x code maxLocals ret, Jvm.Cond.code ({ cls := "com/example/matchstone/matchstone/LevelIndex", name := "<init>", desc := "()V" } : Jvm.MethodName) prog_21_method_1_code (1 : Nat) (Option.none : Option Jvm.ClassFile.FieldType), Jvm.Cond.code ({ cls := "java/lang/Object", name := "<init>", desc := "()V" } : Jvm.MethodName) object_method_1_code (1 : Nat) (Option.none : Option Jvm.ClassFile.FieldType), Jvm.Cond.code ({ cls := "com/example/matchstone/matchstone/LevelIndex$Node", name := "leaf", desc := "()Lcom/example/matchstone/matchstone/LevelIndex$Node;" } : Jvm.MethodName) prog_23_method_2_code (0 : Nat) (Option.some (Jvm.ClassFile.FieldType.object "com/example/matchstone/matchstone/LevelIndex$Node")), Jvm.Cond.code ({ cls := "com/example/matchstone/matchstone/LevelIndex$Node", name := "<init>", desc := "([J[Lcom/example/matchstone/matchstone/PriceLevel;[Lcom/example/matchstone/matchstone/LevelIndex$Node;)V" } : Jvm.MethodName) prog_23_method_1_code (4 : Nat) (Option.none : Option Jvm.ClassFile.FieldType), Jvm.Cond.code ({ cls := "com/example/matchstone/matchstone/PriceLevel", name := "<init>", desc := "(Lcom/example/matchstone/matchstone/Price;Lcom/example/matchstone/matchstone/BookSide;)V" } : Jvm.MethodName) prog_42_method_1_code (3 : Nat) (Option.none : Option Jvm.ClassFile.FieldType), Jvm.Cond.code ({ cls := "com/example/matchstone/matchstone/LevelIndex", name := "put", desc := "(JLcom/example/matchstone/matchstone/PriceLevel;)Lcom/example/matchstone/matchstone/PriceLevel;" } : Jvm.MethodName) prog_21_method_8_code (6 : Nat) (Option.some (Jvm.ClassFile.FieldType.object "com/example/matchstone/matchstone/PriceLevel")), Jvm.Cond.code ({ cls := "com/example/matchstone/matchstone/LevelIndex$Node", name := "insertEntry", desc := "(IJLcom/example/matchstone/matchstone/PriceLevel;)V" } : Jvm.MethodName) prog_23_method_6_code (5 : Nat) (Option.none : Option Jvm.ClassFile.FieldType), Jvm.Cond.code ({ cls := "com/example/matchstone/matchstone/LevelIndex", name := "insert", desc := "(Lcom/example/matchstone/matchstone/LevelIndex$Node;JLcom/example/matchstone/matchstone/PriceLevel;)Lcom/example/matchstone/matchstone/LevelIndex$Node;" } : Jvm.MethodName) prog_21_method_10_code (7 : Nat) (Option.some (Jvm.ClassFile.FieldType.object "com/example/matchstone/matchstone/LevelIndex$Node")), Jvm.Cond.code ({ cls := "com/example/matchstone/matchstone/LevelIndex$Node", name := "isLeaf", desc := "()Z" } : Jvm.MethodName) prog_23_method_4_code (1 : Nat) (Option.some Jvm.ClassFile.FieldType.boolean), Jvm.Cond.code ({ cls := "java/util/Arrays", name := "binarySearch", desc := "([JIIJ)I" } : Jvm.MethodName) jdk_65_method_55_code (5 : Nat) (Option.some Jvm.ClassFile.FieldType.int), Jvm.Cond.code ({ cls := "java/util/Arrays", name := "rangeCheck", desc := "(III)V" } : Jvm.MethodName) jdk_65_method_30_code (3 : Nat) (Option.none : Option Jvm.ClassFile.FieldType), Jvm.Cond.code ({ cls := "java/util/Arrays", name := "binarySearch0", desc := "([JIIJ)I" } : Jvm.MethodName) jdk_65_method_56_code (10 : Nat) (Option.some Jvm.ClassFile.FieldType.int), Jvm.Cond.code ({ cls := "com/example/matchstone/matchstone/LevelIndex", name := "best", desc := "()Lcom/example/matchstone/matchstone/PriceLevel;" } : Jvm.MethodName) prog_21_method_3_code (1 : Nat) (Option.some (Jvm.ClassFile.FieldType.object "com/example/matchstone/matchstone/PriceLevel")), Jvm.Cond.code ({ cls := "com/example/matchstone/matchstone/LevelIndexBestPinLaw", name := "expected", desc := "(ZJLcom/example/matchstone/matchstone/PriceLevel;ZJLcom/example/matchstone/matchstone/PriceLevel;ZJLcom/example/matchstone/matchstone/PriceLevel;)Lcom/example/matchstone/matchstone/PriceLevel;" } : Jvm.MethodName) method_2_code (15 : Nat) (Option.some (Jvm.ClassFile.FieldType.object "com/example/matchstone/matchstone/PriceLevel")), Jvm.Cond.code ({ cls := "com/example/matchstone/matchstone/LevelIndex", name := "remove", desc := "(J)V" } : Jvm.MethodName) prog_21_method_9_code (3 : Nat) (Option.none : Option Jvm.ClassFile.FieldType), Jvm.Cond.code ({ cls := "com/example/matchstone/matchstone/LevelIndex", name := "remove", desc := "(Lcom/example/matchstone/matchstone/LevelIndex$Node;J)Z" } : Jvm.MethodName) prog_21_method_11_code (5 : Nat) (Option.some Jvm.ClassFile.FieldType.boolean), Jvm.Cond.code ({ cls := "com/example/matchstone/matchstone/LevelIndex$Node", name := "removeEntry", desc := "(I)V" } : Jvm.MethodName) prog_23_method_7_code (2 : Nat) (Option.none : Option Jvm.ClassFile.FieldType), Jvm.Cond.code ({ cls := "com/example/matchstone/matchstone/LevelIndex$Node", name := "isEmpty", desc := "()Z" } : Jvm.MethodName) prog_23_method_5_code (1 : Nat) (Option.some Jvm.ClassFile.FieldType.boolean), Jvm.Cond.code ({ cls := "com/example/matchstone/matchstone/LevelIndex$Node", name := "unlinkLeaf", desc := "()V" } : Jvm.MethodName) prog_23_method_12_code (1 : Nat) (Option.none : Option Jvm.ClassFile.FieldType)]
set_option maxRecDepth 65536 in
theorem codes_eq : words1.filter isCode = codes1 := rfl
theorem w_codes : ∀ c ∈ words1.filter isCode, c.before args0 about1 = true := by
  rw [codes_eq]
  intro c hc
  simp only [codes1, List.mem_cons, List.not_mem_nil, or_false] at hc
  rcases hc with rfl | rfl | rfl | rfl | rfl | rfl | rfl | rfl | rfl | rfl | rfl | rfl | rfl | rfl | rfl | rfl | rfl | rfl | rfl | rfl
  · exact w_c0
  · exact w_c1
  · exact w_c2
  · exact w_c3
  · exact w_c4
  · exact w_c5
  · exact w_c6
  · exact w_c7
  · exact w_c8
  · exact w_c9
  · exact w_c10
  · exact w_c11
  · exact w_c12
  · exact w_c13
  · exact w_c14
  · exact w_c15
  · exact w_c16
  · exact w_c17
  · exact w_c18
  · exact w_c19
set_option maxRecDepth 65536 in
theorem w_t1 : (words1.take 24).all (fun c => isCode c || c.before args0 about1) = true := by decide +kernel
set_option maxRecDepth 65536 in
theorem w_t2 : ((words1.drop 24).take 24).all (fun c => isCode c || c.before args0 about1) = true := by decide +kernel
set_option maxRecDepth 65536 in
theorem w_t3 : (((words1.drop 24).drop 24).take 24).all (fun c => isCode c || c.before args0 about1) = true := by decide +kernel
set_option maxRecDepth 65536 in
theorem w_t4 : ((((words1.drop 24).drop 24).drop 24).take 24).all (fun c => isCode c || c.before args0 about1) = true := by decide +kernel
set_option maxRecDepth 65536 in
theorem w_t5 : (((((words1.drop 24).drop 24).drop 24).drop 24).take 24).all (fun c => isCode c || c.before args0 about1) = true := by decide +kernel
set_option maxRecDepth 65536 in
theorem w_t6 : (((((words1.drop 24).drop 24).drop 24).drop 24).drop 24).all (fun c => isCode c || c.before args0 about1) = true := by decide +kernel
theorem w_tables : (allAtoms (Jvm.Cond.code x code maxLocals ret :: tables_1)).before args0 about1 = true := by
  rw [allAtoms_all]
  show words1.all (fun c => c.before args0 about1) = true
  refine all_split ?_ w_codes
  rw [← List.take_append_drop 24 words1, List.all_append, w_t1, ← List.take_append_drop 24 (words1.drop 24), List.all_append, w_t2, ← List.take_append_drop 24 ((words1.drop 24).drop 24), List.all_append, w_t3, ← List.take_append_drop 24 (((words1.drop 24).drop 24).drop 24), List.all_append, w_t4, ← List.take_append_drop 24 ((((words1.drop 24).drop 24).drop 24).drop 24), List.all_append, w_t5, w_t6]
  rfl
set_option maxRecDepth 65536 in
theorem w_case : (Jvm.Cond.and given_1 narrow_1).before args0 about1 = true := by decide +kernel
theorem w_applies : (headSpec (Jvm.Cond.code x code maxLocals ret :: tables_1) room_1).applies x e0.platform about1 = true :=
  (Spec.applies_iff w_frames).mpr ⟨w_running, w_runnable, w_alone, w_named, w_hears, w_ripe, w_room, w_tables⟩
theorem atStart : AtStart classFile x code maxLocals ret World_1 tables_1 room_1 Calls_1 rest_1 Pre_1 launch0 p0 e0 about1 theMethod args0 below0 :=
  ⟨lists_1, trivial, launch0.admits_env _ _ _, launch0.least_env, fairChoices_fair.cas, fairChoices_fair.clock, w_frames, w_args, w_heap, w_applies, trivial, trivial, w_case⟩
end start1
theorem witness_1 : WitnessClaimed_1 := ⟨start1.p0, start1.e0, start1.about1, start1.theMethod, start1.args0, start1.below0, start1.atStart⟩
end Jvm.Pilot.@@N@@
