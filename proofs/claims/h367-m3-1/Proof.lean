import JvmDerived
import JvmDerived.Pilot.@@N@@Statement
import JvmDerived.Pilot.@@N@@Code
set_option linter.unusedVariables false
set_option linter.unusedSimpArgs false
namespace Jvm.Pilot.@@N@@
open Jvm Jvm.ClassFile Sem Op Lib Jvm.Free Jvm.Stand Jvm.LawKit Jvm.RoadKit Bundle Jvm.Pilot.@@N@@.Jvm.D
section Own
variable {p : Program} {l : Launch} {e : Env} {R : Room} {s : State} {m : MethodId} {args : Array Value} {below : List Frame} {meth : Method} {c : Code} {T : State} {locs : List Loc} {cells slots : Nat} {Z : State} {h h' : Heap} {a b : Addr}
/-- from the state σ the run comes to a return that meets Qk -/
def Go (p : Program) (e : Env) (below : List Frame) (s : State) (Qk : Option Value → Heap → List Loc → Prop) (C S : Nat) (σ : State) : Prop :=
  ∃ s₂ o, Steps p.tables e below σ s₂ ∧ s₂.status = .running ∧ Ended s₂ below o ∧ ∃ v L, o = .returned v ∧ Qk v s₂.heap L ∧ FrameEnd s o s₂ L C S
variable {Qk : Option Value → Heap → List Loc → Prop} {C S : Nat}
theorem Go.step {σ σ' : State} (hs : ∀ t, Steps p.tables e below σ' t → Steps p.tables e below σ t) (k : Go p e below s Qk C S σ') : Go p e below s Qk C S σ := by
  obtain ⟨s₂, o, h1, r⟩ := k
  exact ⟨s₂, o, hs _ h1, r⟩
theorem Go.retV (X : Stand p l e R s m args below meth c T locs cells slots) (hlk : meth.locks = false) (hx : p.tables.exec = Jvm.exec) {pc : Nat} {Ls : Array Slot} (hret : meth.sig.returnType = none) (hd : decode c.code pc = .ok (.return_, 1)) (hc : cells ≤ C) (hs : slots ≤ S) (hQ : Qk none T.heap locs) :
    Go p e below s Qk C S (T.setTop (mkF m pc Ls [])) := by
  obtain ⟨fs, hr, hrun, hended, hW, hsame⟩ := X.leave (v := none) (fun _ => rfl) hlk
  exact ⟨_, _, X.returnOut hx hret hd hr, hrun, hended, _, _, rfl, hQ, ⟨_, rfl⟩, hW, hsame.mono hc hs⟩
theorem Go.retW (X : Stand p l e R s m args below meth c T locs cells slots) (hlk : meth.locks = false) (hx : p.tables.exec = Jvm.exec) {pc : Nat} {Ls : Array Slot} {w : Value} {t : FieldType} {i : Instr} {rest : List Value} (hret : meth.sig.returnType = some t) (hn : narrow t w = w)
    (hi : (i = .ireturn ∧ (t = .int ∨ t = .boolean ∨ t = .byte ∨ t = .char ∨ t = .short) ∧ ∃ z, w = .int z) ∨ (i = .lreturn ∧ t = .long ∧ ∃ z, w = .long z) ∨ (i = .dreturn ∧ t = .double ∧ ∃ z, w = .double z) ∨ (i = .freturn ∧ t = .float ∧ ∃ z, w = .float z) ∨ (i = .areturn ∧ t.isReference = true ∧ w.isRef = true))
    (hd : decode c.code pc = .ok (i, 1)) (hc : cells ≤ C) (hs : slots ≤ S) (hQ : Qk (some w) T.heap locs) :
    Go p e below s Qk C S (T.setTop (mkF m pc Ls (w :: rest))) := by
  obtain ⟨fs, hr, hrun, hended, hW, hsame⟩ := X.leave (v := some w) (fun q => by rw [hret] at q; cases q) hlk
  exact ⟨_, _, retOut X hx hret hn hi hd hr, hrun, hended, _, _, rfl, hQ, ⟨_, rfl⟩, hW, hsame.mono hc hs⟩
theorem Go.retI (X : Stand p l e R s m args below meth c T locs cells slots) (hlk : meth.locks = false) (hx : p.tables.exec = Jvm.exec) {pc : Nat} {Ls : Array Slot} {z : Int32} {rest : List Value} (hret : meth.sig.returnType = some .int) (hd : decode c.code pc = .ok (.ireturn, 1)) (hc : cells ≤ C) (hs : slots ≤ S) (hQ : Qk (some (.int z)) T.heap locs) :
    Go p e below s Qk C S (T.setTop (mkF m pc Ls (.int z :: rest))) :=
  Go.retW X hlk hx hret rfl (Or.inl ⟨rfl, Or.inl rfl, z, rfl⟩) hd hc hs hQ
theorem Go.retJ (X : Stand p l e R s m args below meth c T locs cells slots) (hlk : meth.locks = false) (hx : p.tables.exec = Jvm.exec) {pc : Nat} {Ls : Array Slot} {z : Int64} {rest : List Value} (hret : meth.sig.returnType = some .long) (hd : decode c.code pc = .ok (.lreturn, 1)) (hc : cells ≤ C) (hs : slots ≤ S) (hQ : Qk (some (.long z)) T.heap locs) :
    Go p e below s Qk C S (T.setTop (mkF m pc Ls (.long z :: rest))) :=
  Go.retW X hlk hx hret rfl (Or.inr (Or.inl ⟨rfl, rfl, z, rfl⟩)) hd hc hs hQ
theorem Go.retA (X : Stand p l e R s m args below meth c T locs cells slots) (hlk : meth.locks = false) (hx : p.tables.exec = Jvm.exec) {pc : Nat} {Ls : Array Slot} {w : Value} {t : FieldType} {rest : List Value} (hret : meth.sig.returnType = some t) (hn : narrow t w = w) (ht : t.isReference = true) (hw : w.isRef = true) (hd : decode c.code pc = .ok (.areturn, 1)) (hc : cells ≤ C) (hs : slots ≤ S) (hQ : Qk (some w) T.heap locs) :
    Go p e below s Qk C S (T.setTop (mkF m pc Ls (w :: rest))) :=
  Go.retW X hlk hx hret hn (Or.inr (Or.inr (Or.inr (Or.inr ⟨rfl, ht, hw⟩)))) hd hc hs hQ
theorem Go.retN (X : Stand p l e R s m args below meth c T locs cells slots) (hlk : meth.locks = false) (hx : p.tables.exec = Jvm.exec) {pc : Nat} {Ls : Array Slot} {z : Int32} {t : FieldType} {rest : List Value} (hret : meth.sig.returnType = some t) (ht : t = .boolean ∨ t = .byte ∨ t = .char ∨ t = .short) (hd : decode c.code pc = .ok (.ireturn, 1)) (hc : cells ≤ C) (hs : slots ≤ S) (z' : Int32) (hz : nar t z = z') (hQ : Qk (some (.int z')) T.heap locs) :
    Go p e below s Qk C S (T.setTop (mkF m pc Ls (.int z :: rest))) := by
  subst hz
  obtain ⟨fs, hr, hrun, hended, hW, hsame⟩ := X.leave (v := some (.int (nar t z))) (fun q => by rw [hret] at q; cases q) hlk
  exact ⟨_, _, Jvm.RoadKit.retN X hx hret ht hd hr, hrun, hended, _, _, rfl, hQ, ⟨_, rfl⟩, hW, hsame.mono hc hs⟩
theorem own_narb {P : Prop} [Decidable P] : nar .boolean (if P then (1 : Int32) else (0 : Int32)) = (if P then (1 : Int32) else (0 : Int32)) := by split <;> rfl
theorem own_narb01 {z : Int32} (h : z = 0 ∨ z = 1) : nar .boolean z = z := by rcases h with rfl | rfl <;> rfl
/-- a function turned at one place -/
def up {α : Type} (f : Nat → α) (k : Nat) (v : α) : Nat → α := fun i => if i = k then v else f i
theorem up_same {α : Type} (f : Nat → α) (k : Nat) (v : α) : up f k v k = v := if_pos rfl
theorem up_ne {α : Type} (f : Nat → α) {k i : Nat} (v : α) (q : i ≠ k) : up f k v i = f i := if_neg q
/-- an array of n places; place i holds g i -/
def Ary (Z : State) (h : Heap) (a : Addr) (ty : FieldType) (n : Nat) (g : Nat → Value) : Prop := ∃ c : Cell, Arr Z h a c ty ∧ c.slots.size = n ∧ n < 2 ^ 31 ∧ ∀ i, i < n → c.slots[i]? = some (g i)
variable {ty : FieldType} {n : Nat} {g : Nat → Value}
theorem Ary.lt (F : Ary Z h a ty n g) : a < h.size := by obtain ⟨c, A, -⟩ := F; exact A.lt
theorem Ary.ext (F : Ary Z h a ty n g) (E : Ext h h') : Ary Z h' a ty n g := by obtain ⟨c, A, r⟩ := F; exact ⟨c, A.ext E, r⟩
theorem Ary.other {sl : Nat} {v : Value} (F : Ary Z h b ty n g) (W : Wr h h' a sl v) (q : b ≠ a) : Ary Z h' b ty n g := by obtain ⟨c, A, r⟩ := F; exact ⟨c, A.other W q, r⟩
theorem Ary.keep {ws : List Addr} (F : Ary Z h a ty n g) (K : Keep h h' ws) (q : a ∉ ws) : Ary Z h' a ty n g := by obtain ⟨c, A, r⟩ := F; exact ⟨c, ⟨K.2.1 a c A.1 q, A.2⟩, r⟩
theorem Ary.set {k : Nat} {v : Value} (F : Ary Z h a ty n g) (W : Wr h h' a k v) : Ary Z h' a ty n (up g k v) := by
  obtain ⟨c, A, S, B, H⟩ := F
  refine ⟨_, A.same W, by rw [sz_set]; exact S, B, fun i hi => ?_⟩
  by_cases q : k = i
  · subst q; rw [up_same]; simp [Cell.setSlot, S, hi]
  · rw [up_ne _ _ (Ne.symm q), ← H i hi]; simp only [Cell.setSlot]; rw [Array.getElem?_setIfInBounds_ne q]
theorem Ary.new {k : ClassId} {z : Int32} (A : Arr Z h a (newA k ty z) ty) (q : z.toInt = n) : Ary Z h a ty n (fun _ => defaultValue ty) := by
  have e1 : z.toNatClampNeg = n := by simp only [Int32.toNatClampNeg]; omega
  refine ⟨_, A, by rw [sz_new]; exact e1, ?_, fun i hi => ?_⟩
  · have := Int32.toInt_lt z; omega
  · simp [newA, e1, hi]
theorem Ary.congr {g' : Nat → Value} (F : Ary Z h a ty n g) (q : ∀ i, i < n → g i = g' i) : Ary Z h a ty n g' := by
  obtain ⟨c, A, S, B, H⟩ := F
  exact ⟨c, A, S, B, fun i hi => by rw [← q i hi]; exact H i hi⟩
abbrev AryI (Z : State) (h : Heap) (a : Addr) (ty : FieldType) (n : Nat) (g : Nat → Int32) : Prop := Ary Z h a ty n (fun i => .int (g i))
abbrev AryJ (Z : State) (h : Heap) (a : Addr) (n : Nat) (g : Nat → Int64) : Prop := Ary Z h a .long n (fun i => .long (g i))
theorem own_upI (f : Nat → Int32) (k : Nat) (v : Int32) : up (fun i => Value.int (f i)) k (.int v) = fun i => Value.int (up f k v i) := by funext i; simp only [up]; split <;> rfl
theorem own_upJ (f : Nat → Int64) (k : Nat) (v : Int64) : up (fun i => Value.long (f i)) k (.long v) = fun i => Value.long (up f k v i) := by funext i; simp only [up]; split <;> rfl
theorem Ary.setI {f : Nat → Int32} {k : Nat} {v : Int32} (F : AryI Z h a ty n f) (W : Wr h h' a k (.int v)) : AryI Z h' a ty n (up f k v) := by have r := Ary.set F W; rw [own_upI] at r; exact r
theorem Ary.setJ {f : Nat → Int64} {k : Nat} {v : Int64} (F : AryJ Z h a n f) (W : Wr h h' a k (.long v)) : AryJ Z h' a n (up f k v) := by have r := Ary.set F W; rw [own_upJ] at r; exact r
theorem own_idx {c : Cell} {j : Int32} {k : Nat} (S : c.slots.size = n) (q : j.toInt = k) (hk : k < n) : ¬ (j < 0 ∨ c.slots.size ≤ j.toNatClampNeg) ∧ j.toNatClampNeg = k := by
  have e1 : j.toNatClampNeg = k := by simp only [Int32.toNatClampNeg]; omega
  have e0 : (0 : Int32).toInt = 0 := rfl
  refine ⟨?_, e1⟩
  rw [e1, S, Int32.lt_iff_toInt_lt]; omega
theorem own_ld (X : Stand p l e R s m args below meth c T locs cells slots) (hx : p.tables.exec = Jvm.exec) (hZ : Z.Warmed39 s.vm) (eT : T.heap = h) (F : Ary Z h a ty n g) {j : Int32} (k : Nat) (q : j.toInt = k) (hk : k < n) {v : Value} (hv : g k = v) {i : Instr}
    (hi : (i = .iaload ∧ ty = .int) ∨ (i = .laload ∧ ty = .long) ∨ (i = .caload ∧ ty = .char) ∨ (i = .baload ∧ ty = .byte)) {f : JFrame} (hg : f.method = m) {rest : List Value} (hs : f.stack = .int j :: .ref a :: rest) (hd : decode c.code f.pc = .ok (i, 1)) :
    ∀ target, Steps p.tables e below (T.setTop { f with pc := f.pc + 1, stack := v :: rest }) target → Steps p.tables e below (T.setTop f) target := by
  subst hv
  obtain ⟨cl, A, S, -, H⟩ := F
  obtain ⟨hin, e1⟩ := own_idx S q hk
  have hat : cl.slots[j.toNatClampNeg]? = some (g k) := by rw [e1]; exact H k hk
  intro t kt
  rcases hi with ⟨rfl, rfl⟩ | ⟨rfl, rfl⟩ | ⟨rfl, rfl⟩ | ⟨rfl, rfl⟩
  · exact X.iaload hx (by rw [eT]; exact A.1) (State.isArrayOf_alike hZ.alike A.2.1) A.2.2 hin hat hg hs hd t kt
  · exact X.laload hx (by rw [eT]; exact A.1) (State.isArrayOf_alike hZ.alike A.2.1) A.2.2 hin hat hg hs hd t kt
  · exact X.caload hx (by rw [eT]; exact A.1) (State.isArrayOf_alike hZ.alike A.2.1) A.2.2 hin hat hg hs hd t kt
  · exact X.baloadBytes hx (by rw [eT]; exact A.1) (State.isArrayOf_alike hZ.alike A.2.1) A.2.2 hin hat hg hs hd t kt
theorem own_len (X : Stand p l e R s m args below meth c T locs cells slots) (hx : p.tables.exec = Jvm.exec) (hZ : Z.Warmed39 s.vm) (eT : T.heap = h) (F : Ary Z h a ty n g) {z : Int32} (hz : n.toInt32 = z) {f : JFrame} (hg : f.method = m) {rest : List Value} (hs : f.stack = .ref a :: rest) (hd : decode c.code f.pc = .ok (.arraylength, 1)) :
    ∀ target, Steps p.tables e below (T.setTop { f with pc := f.pc + 1, stack := .int z :: rest }) target → Steps p.tables e below (T.setTop f) target := by
  subst hz
  obtain ⟨cl, A, S, -⟩ := F
  intro t kt
  refine X.arraylength hx (by rw [eT]; exact A.1) (State.isArrayOf_alike hZ.alike A.2.1) hg hs hd t ?_
  rw [S]; exact kt
theorem own_stI (X : Stand p l e R s m args below meth c T locs cells slots) (hx : p.tables.exec = Jvm.exec) (hZ : Z.Warmed39 s.vm) (eT : T.heap = h) (F : Ary Z h a .int n g) {j x : Int32} (k : Nat) (q : j.toInt = k) (hk : k < n) {f : JFrame} (hg : f.method = m) {rest : List Value} (hs : f.stack = .int x :: .int j :: .ref a :: rest) (hd : decode c.code f.pc = .ok (.iastore, 1)) :
    ∃ T' h', Stand p l e R s m args below meth c T' (locs ++ [⟨a, k⟩]) cells slots ∧ T'.heap = h' ∧ Wr h h' a k (.int x) ∧ ∀ target, Steps p.tables e below (T'.setTop { f with pc := f.pc + 1, stack := rest }) target → Steps p.tables e below (T.setTop f) target := by
  obtain ⟨cl, A, S, -, -⟩ := F
  obtain ⟨hin, e1⟩ := own_idx S q hk
  have r := stI X hx hZ eT A hin hg hs hd
  rw [e1] at r; exact r
theorem own_stJ (X : Stand p l e R s m args below meth c T locs cells slots) (hx : p.tables.exec = Jvm.exec) (hZ : Z.Warmed39 s.vm) (eT : T.heap = h) (F : Ary Z h a .long n g) {j : Int32} {x : Int64} (k : Nat) (q : j.toInt = k) (hk : k < n) {f : JFrame} (hg : f.method = m) {rest : List Value} (hs : f.stack = .long x :: .int j :: .ref a :: rest) (hd : decode c.code f.pc = .ok (.lastore, 1)) :
    ∃ T' h', Stand p l e R s m args below meth c T' (locs ++ [⟨a, k⟩]) cells slots ∧ T'.heap = h' ∧ Wr h h' a k (.long x) ∧ ∀ target, Steps p.tables e below (T'.setTop { f with pc := f.pc + 1, stack := rest }) target → Steps p.tables e below (T.setTop f) target := by
  obtain ⟨cl, A, S, -, -⟩ := F
  obtain ⟨hin, e1⟩ := own_idx S q hk
  have r := stJ X hx hZ eT A hin hg hs hd
  rw [e1] at r; exact r
theorem own_stB (X : Stand p l e R s m args below meth c T locs cells slots) (hx : p.tables.exec = Jvm.exec) (hZ : Z.Warmed39 s.vm) (eT : T.heap = h) (F : Ary Z h a .byte n g) {j x : Int32} (k : Nat) (q : j.toInt = k) (hk : k < n) {f : JFrame} (hg : f.method = m) {rest : List Value} (hs : f.stack = .int x :: .int j :: .ref a :: rest) (hd : decode c.code f.pc = .ok (.bastore, 1)) :
    ∃ T' h', Stand p l e R s m args below meth c T' (locs ++ [⟨a, k⟩]) cells slots ∧ T'.heap = h' ∧ Wr h h' a k (.int (nar .byte x)) ∧ ∀ target, Steps p.tables e below (T'.setTop { f with pc := f.pc + 1, stack := rest }) target → Steps p.tables e below (T.setTop f) target := by
  obtain ⟨cl, A, S, -, -⟩ := F
  obtain ⟨hin, e1⟩ := own_idx S q hk
  have r := stB X hx hZ eT A hin hg hs hd
  rw [e1] at r; exact r
theorem own_stC (X : Stand p l e R s m args below meth c T locs cells slots) (hx : p.tables.exec = Jvm.exec) (hZ : Z.Warmed39 s.vm) (eT : T.heap = h) (F : Ary Z h a .char n g) {j x : Int32} (k : Nat) (q : j.toInt = k) (hk : k < n) {f : JFrame} (hg : f.method = m) {rest : List Value} (hs : f.stack = .int x :: .int j :: .ref a :: rest) (hd : decode c.code f.pc = .ok (.castore, 1)) :
    ∃ T' h', Stand p l e R s m args below meth c T' (locs ++ [⟨a, k⟩]) cells slots ∧ T'.heap = h' ∧ Wr h h' a k (.int (nar .char x)) ∧ ∀ target, Steps p.tables e below (T'.setTop { f with pc := f.pc + 1, stack := rest }) target → Steps p.tables e below (T.setTop f) target := by
  obtain ⟨cl, A, S, -, -⟩ := F
  obtain ⟨hin, e1⟩ := own_idx S q hk
  have r := stC X hx hZ eT A hin hg hs hd
  rw [e1] at r; exact r
theorem own_neA {a0 : Array Value} {k : Nat} {K : String} (F : Exa Z h a K) (wi : (Cond.instantiable K k).before a0 Z = true) (G : Ary Z h b ty n g) : a ≠ b := by
  obtain ⟨cl, A, -⟩ := G
  exact ne_arr F wi A
theorem own_selP {y : MethodName} {k : Nat} {a0 as' : Array Value} (hZ : Z.Warmed39 s.vm) (wi : (Cond.instantiable y.cls k).before a0 Z = true) (wn : (Cond.instanceMethod y).before a0 Z = true) (wp : (Cond.privateMethod y).before a0 Z = true) (hy : y.cls ≠ "java/lang/invoke/MethodHandle" ∧ y.cls ≠ "java/lang/invoke/VarHandle") : (Cond.selects y.cls y y).before as' s = true := by
  have wi' : (Cond.instantiable y.cls k).before as' s = true := mvT hZ wi
  obtain ⟨c, kc, h1, h2, -, h4, -⟩ := Cond.instantiable_spec wi'
  refine selects_self_of_private h1 h2 ?_ (Cond.privateMethod_at (mvP hZ wp (args := #[]))) (mvT hZ wn) hy
  cases hi : kc.isInterface with
  | false => rfl
  | true => rw [hi] at h4; simp at h4
/-- long comparisons -/
theorem own_lwlt {x y : Int64} (h : x < y) : lcmpW x y < 0 := (lw_lt x y).mpr h
theorem own_nlwlt {x y : Int64} (h : ¬ x < y) : ¬ lcmpW x y < 0 := fun q => h ((lw_lt x y).mp q)
theorem own_lwgt {x y : Int64} (h : y < x) : 0 < lcmpW x y := (lw_gt x y).mpr h
theorem own_nlwgt {x y : Int64} (h : ¬ y < x) : ¬ 0 < lcmpW x y := fun q => h ((lw_gt x y).mp q)
theorem own_lweq {x y : Int64} (h : x = y) : lcmpW x y = 0 := (lw_eq x y).mpr h
theorem own_nlweq {x y : Int64} (h : ¬ x = y) : ¬ lcmpW x y = 0 := fun q => h ((lw_eq x y).mp q)
end Own
theorem own_lt {x y : Int32} (h : x < y) : x.toInt < y.toInt := Int32.lt_iff_toInt_lt.mp h
theorem own_nlt {x y : Int32} (h : ¬ x < y) : ¬ x.toInt < y.toInt := fun q => h (Int32.lt_iff_toInt_lt.mpr q)
theorem own_eq {x y : Int32} (h : x = y) : x.toInt = y.toInt := by rw [h]
theorem own_neq {x y : Int32} (h : ¬ x = y) : ¬ x.toInt = y.toInt := fun q => h (Int32.toInt_inj.mp q)
theorem own_ltL {x y : Int64} (h : x < y) : x.toInt < y.toInt := Int64.lt_iff_toInt_lt.mp h
theorem own_nltL {x y : Int64} (h : ¬ x < y) : ¬ x.toInt < y.toInt := fun q => h (Int64.lt_iff_toInt_lt.mpr q)
theorem own_eqL {x y : Int64} (h : x = y) : x.toInt = y.toInt := by rw [h]
theorem own_neqL {x y : Int64} (h : ¬ x = y) : ¬ x.toInt = y.toInt := fun q => h (Int64.toInt_inj.mp q)
theorem own_rng32 (x : Int32) : -2147483648 ≤ x.toInt ∧ x.toInt ≤ 2147483647 := by
  have h1 := Int32.le_toInt x
  have h2 := Int32.toInt_lt x
  omega
theorem own_rng64 (x : Int64) : -9223372036854775808 ≤ x.toInt ∧ x.toInt ≤ 9223372036854775807 := by
  have h1 := Int64.le_toInt x
  have h2 := Int64.toInt_lt x
  omega

abbrev own_rl (q : Int64) : Prop := ¬ q < (100 : Int64) ∧ (q - (q / (100 : Int64)) * (100 : Int64)) = (0 : Int64)
theorem own_fa {lo re q qr : Int} (b2 : 0 ≤ re ∧ re ≤ 99) (b4 : q = lo * 100 + re) (c1 : 0 ≤ q → qr = q % 100) : (¬ q < 100 ∧ qr = 0) ↔ (¬ lo < 1 ∧ re = 0) := by
  constructor
  · rintro ⟨r1, r2⟩
    have c2 := c1 (by omega)
    constructor <;> omega
  · rintro ⟨r1, r2⟩
    have c2 := c1 (by omega)
    constructor <;> omega
set_option maxHeartbeats 4000000 in
theorem own_fin (kk : Int64) (rr : Int32) : own_rl (((kk / (101 : Int64)) * (100 : Int64)) + (((rr &&& (2147483647 : Int32)) % (100 : Int32)).toInt64)) ↔ (¬ (kk / (101 : Int64)) < (1 : Int64) ∧ (((rr &&& (2147483647 : Int32)) % (100 : Int32)).toInt64) = (0 : Int64)) := by
  have ar1 := own_rng64 ((((kk / (101 : Int64)) * (100 : Int64)) + (((rr &&& (2147483647 : Int32)) % (100 : Int32)).toInt64)))
  have ar2 := own_rng64 (((kk / (101 : Int64)) * (100 : Int64)))
  have ar3 := own_rng64 ((kk / (101 : Int64)))
  have ar4 := own_rng64 (kk)
  have ar5 := c_ldiv (kk) (101 : Int64) 101 rfl (by decide)
  have ar6 : ((((kk / (101 : Int64)) * (100 : Int64))).toInt - ((kk / (101 : Int64))).toInt * 100) % 18446744073709551616 = 0 := c_lmul ((kk / (101 : Int64))) ((100 : Int64))
  have ar7 := own_rng64 ((((rr &&& (2147483647 : Int32)) % (100 : Int32)).toInt64))
  have ar8 := own_rng32 (((rr &&& (2147483647 : Int32)) % (100 : Int32)))
  have ar9 := own_rng32 ((rr &&& (2147483647 : Int32)))
  have ar10 := own_rng32 (rr)
  have ar11 := c_mask (rr) (2147483647 : Int32) 31 (by decide) (by decide)
  have ar12 := c_irem ((rr &&& (2147483647 : Int32))) (100 : Int32) 100 rfl
  have ar13 := c_i2l (((rr &&& (2147483647 : Int32)) % (100 : Int32)))
  have ar14 := c_ladd (((kk / (101 : Int64)) * (100 : Int64))) ((((rr &&& (2147483647 : Int32)) % (100 : Int32)).toInt64))
  have ar15 := c_lrem ((((kk / (101 : Int64)) * (100 : Int64)) + (((rr &&& (2147483647 : Int32)) % (100 : Int32)).toInt64))) (100 : Int64) 100 rfl
  unfold own_rl
  rw [Int64.lt_iff_toInt_lt, Int64.lt_iff_toInt_lt, ← Int64.toInt_inj, ← Int64.toInt_inj]
  have e1 : (100 : Int64).toInt = 100 := rfl
  have e2 : (1 : Int64).toInt = 1 := rfl
  have e3 : (0 : Int64).toInt = 0 := rfl
  rw [e1, e2, e3]
  have b1 : -91320515216383921 ≤ (kk / (101 : Int64)).toInt ∧ (kk / (101 : Int64)).toInt ≤ 91320515216383921 := by omega
  have b2 : 0 ≤ (((rr &&& (2147483647 : Int32)) % (100 : Int32)).toInt64).toInt ∧ (((rr &&& (2147483647 : Int32)) % (100 : Int32)).toInt64).toInt ≤ 99 := by omega
  have b3 : ((kk / (101 : Int64)) * (100 : Int64)).toInt = (kk / (101 : Int64)).toInt * 100 := by omega
  have b4 : (((kk / (101 : Int64)) * (100 : Int64)) + (((rr &&& (2147483647 : Int32)) % (100 : Int32)).toInt64)).toInt = (kk / (101 : Int64)).toInt * 100 + (((rr &&& (2147483647 : Int32)) % (100 : Int32)).toInt64).toInt := by omega
  exact own_fa b2 b4 ar15.1
theorem own_same {z w : Int32} {a b : Int64} {P : Prop} (h1 : (z = 1 ∧ P) ∨ (z = 0 ∧ ¬ P)) (h2 : w = if a < (1 : Int64) then (0 : Int32) else if b = (0 : Int64) then (1 : Int32) else (0 : Int32)) (h3 : P ↔ (¬ a < (1 : Int64) ∧ b = (0 : Int64))) : z = w := by
  subst h2
  by_cases c1 : a < (1 : Int64)
  · rw [if_pos c1]; rcases h1 with ⟨rfl, p⟩ | ⟨rfl, p⟩
    · exact absurd c1 (h3.mp p).1
    · rfl
  · rw [if_neg c1]
    by_cases c2 : b = (0 : Int64)
    · rw [if_pos c2]; rcases h1 with ⟨rfl, p⟩ | ⟨rfl, p⟩
      · rfl
      · exact absurd (h3.mpr ⟨c1, c2⟩) p
    · rw [if_neg c2]; rcases h1 with ⟨rfl, p⟩ | ⟨rfl, p⟩
      · exact absurd (h3.mp p).2 c2
      · rfl
theorem d2_0 : decode jdk_30_method_1_code 0 = .ok (.aload_n 0, 1) := by decide +kernel
theorem d2_1 : decode jdk_30_method_1_code 1 = .ok (.invokespecial 1, 3) := by decide +kernel
theorem d2_4 : decode jdk_30_method_1_code 4 = .ok (.return_, 1) := by decide +kernel
theorem pn_2 : plainName "java/lang/Record" = true := by first | (simp [plainName, overriddenIn]; done) | decide +kernel
theorem ef_2 (m : MethodId) (x0 : Addr) : entryFrame m #[(.ref x0)] 1 = mkF m 0 #[.val (.ref x0)] [] := by first | (simp [entryFrame, mkF, argsToLocals, Value.category]; done) | rfl
def Q2 (Z : State) (aa : Addr) (h0 : Heap) (n0 : Nat) (v : Option Value) (h : Heap) (L : List Loc) : Prop := v = none ∧ Fr n0 L ∧ h = h0
set_option maxRecDepth 65536 in
set_option maxHeartbeats 40000000 in
theorem rm2 (l : Launch) (Z : State) (a0 : Array Value) (hw : ∀ d ∈ tables_1, d.before a0 Z = true) (ws : List Jvm.Cond) (aa : Addr) (h0 : Heap) (n0 : Nat) (Z0 : n0 ≤ h0.size) :
    MetFree l (⟨"java/lang/Record", "<init>", "()V"⟩ : MethodName) (head1 (Jvm.Cond.code (⟨"java/lang/Record", "<init>", "()V"⟩ : MethodName) jdk_30_method_1_code 1 none :: ws) ({ frames := 1, cells := 0, slots := 0, locals := 12 } : Room)) (fun a U => a = #[(.ref aa)] ∧ Z.Warmed39 U.vm ∧ U.heap = h0) (fun _ _ _ _ _ => True) (fun _ U o U' => ∃ v L, o = .returned v ∧ Q2 Z aa h0 n0 v U'.heap L ∧ FrameEnd U o U' L ({ frames := 1, cells := 0, slots := 0, locals := 12 } : Room).cells ({ frames := 1, cells := 0, slots := 0, locals := 12 } : Room).slots) := by
  refine MetFree.of_bodySF (plainFor_of_name pn_2) hisR ?_
  intro p e s m args below meth c s₁ Bd hml0 hP hK
  obtain ⟨rfl, hZ, hh⟩ := hP
  have hx := Bd.exec
  have hby := Bd.bytes
  have hml : c.maxLocals = 1 := hml0
  have hown : s.vm.findClass "java/lang/Record" = some m.cls := findClass_of_methodNamed Bd.named
  have hnm := (name_of_methodNamed Bd.named Bd.method).1
  have X0 : Stand p l e ({ frames := 1, cells := 0, slots := 0, locals := 12 } : Room) s m #[(.ref aa)] below meth c s₁ [] 0 0 := Stand.of_body Bd
  have e0 : s₁.heap = h0 := by rw [← hh, Bd.state]; rfl
  have N0 := Fr.nil n0
  show Go p e below s (Q2 Z aa h0 n0) ({ frames := 1, cells := 0, slots := 0, locals := 12 } : Room).cells ({ frames := 1, cells := 0, slots := 0, locals := 12 } : Room).slots (s₁.setTop (entryFrame m #[(.ref aa)] 1))
  rw [ef_2]
  show Go _ _ _ _ _ _ _ (s₁.setTop (mkF m 0 #[.val (.ref aa)] []))
  refine Go.step (fun t k => XS.aloadN X0.here hx rfl (hb hby d2_0) rfl rfl k) ?_
  show Go _ _ _ _ _ _ _ (s₁.setTop (mkF m 1 #[.val (.ref aa)] [(.ref aa)]))
  obtain ⟨T1, X1, e1, st1⟩ := initO X0 hx hZ hown (hw _ (List.mem_of_getElem? (i := 14) rfl)) (hw _ (List.mem_of_getElem? (i := 15) rfl)) (hw _ (List.mem_of_getElem? (i := 16) rfl)) e0 (g := (mkF m 1 #[.val (.ref aa)] [(.ref aa)])) rfl (by rw [hml]; rfl) rfl (hb hby d2_1) (by decide) (W := 0) (by show 2 * 0 + _ ≤ _; exact Nat.le_of_eq rfl) (by decide)
  refine Go.step st1 ?_
  show Go _ _ _ _ _ _ _ (T1.setTop (mkF m 4 #[.val (.ref aa)] []))
  refine Go.retV X1 Bd.notSynchronized hx Bd.returns (hb hby d2_4) (by decide) (by decide) ?_
  rw [e1]
  exact ⟨rfl, N0, rfl⟩
theorem d1_0 : decode prog_49_method_1_code 0 = .ok (.aload_n 0, 1) := by decide +kernel
theorem d1_1 : decode prog_49_method_1_code 1 = .ok (.invokespecial 1, 3) := by decide +kernel
theorem d1_4 : decode prog_49_method_1_code 4 = .ok (.aload_n 0, 1) := by decide +kernel
theorem d1_5 : decode prog_49_method_1_code 5 = .ok (.lload_n 1, 1) := by decide +kernel
theorem d1_6 : decode prog_49_method_1_code 6 = .ok (.putfield 7, 3) := by decide +kernel
theorem d1_9 : decode prog_49_method_1_code 9 = .ok (.return_, 1) := by decide +kernel
theorem pn_1 : plainName "com/example/matchstone/matchstone/Reserve" = true := by first | (simp [plainName, overriddenIn]; done) | decide +kernel
theorem pd_1_0 : parseMethodDescriptor "()V" = some ⟨[], none⟩ := by decide +kernel
theorem ef_1 (m : MethodId) (x0 : Addr) (x1 : Int64) : entryFrame m #[(.ref x0), (.long x1)] 3 = mkF m 0 #[.val (.ref x0), .val (.long x1), .second] [] := by first | (simp [entryFrame, mkF, argsToLocals, Value.category]; done) | rfl
def Q1 (Z : State) (aa : Addr) (qq : Int64) (h0 : Heap) (n0 : Nat) (v : Option Value) (h : Heap) (L : List Loc) : Prop := v = none ∧ Fr n0 L ∧ Keep h0 h [aa] ∧ Fld Z h aa "com/example/matchstone/matchstone/Reserve" "displayQuantity" "J" (.long qq)
set_option maxRecDepth 65536 in
set_option maxHeartbeats 40000000 in
theorem rm1 (l : Launch) (Z : State) (a0 : Array Value) (hw : ∀ d ∈ tables_1, d.before a0 Z = true) (ws : List Jvm.Cond) (aa : Addr) (qq : Int64) (h0 : Heap) (n0 : Nat) (Z0 : n0 ≤ h0.size) (F_displayQuantity_aa : Fld Z h0 aa "com/example/matchstone/matchstone/Reserve" "displayQuantity" "J" (.long (0 : Int64))) (E_aa : Exa Z h0 aa "com/example/matchstone/matchstone/Reserve") (g_aa : n0 ≤ aa) :
    MetFree l (⟨"com/example/matchstone/matchstone/Reserve", "<init>", "(J)V"⟩ : MethodName) (head1 (Jvm.Cond.code (⟨"com/example/matchstone/matchstone/Reserve", "<init>", "(J)V"⟩ : MethodName) prog_49_method_1_code 3 none :: ws) ({ frames := 2, cells := 0, slots := 0, locals := 24 } : Room)) (fun a U => a = #[(.ref aa), (.long qq)] ∧ Z.Warmed39 U.vm ∧ U.heap = h0) (fun _ _ _ _ _ => True) (fun _ U o U' => ∃ v L, o = .returned v ∧ Q1 Z aa qq h0 n0 v U'.heap L ∧ FrameEnd U o U' L ({ frames := 2, cells := 0, slots := 0, locals := 24 } : Room).cells ({ frames := 2, cells := 0, slots := 0, locals := 24 } : Room).slots) := by
  refine MetFree.of_bodySF (plainFor_of_name pn_1) hisR ?_
  intro p e s m args below meth c s₁ Bd hml0 hP hK
  obtain ⟨rfl, hZ, hh⟩ := hP
  have hx := Bd.exec
  have hby := Bd.bytes
  have hml : c.maxLocals = 3 := hml0
  have hown : s.vm.findClass "com/example/matchstone/matchstone/Reserve" = some m.cls := findClass_of_methodNamed Bd.named
  have hnm := (name_of_methodNamed Bd.named Bd.method).1
  have X0 : Stand p l e ({ frames := 2, cells := 0, slots := 0, locals := 24 } : Room) s m #[(.ref aa), (.long qq)] below meth c s₁ [] 0 0 := Stand.of_body Bd
  have e0 : s₁.heap = h0 := by rw [← hh, Bd.state]; rfl
  have N0 := Fr.nil n0
  have K0 := Keep.refl h0 ([aa] : List Addr)
  show Go p e below s (Q1 Z aa qq h0 n0) ({ frames := 2, cells := 0, slots := 0, locals := 24 } : Room).cells ({ frames := 2, cells := 0, slots := 0, locals := 24 } : Room).slots (s₁.setTop (entryFrame m #[(.ref aa), (.long qq)] 3))
  rw [ef_1]
  show Go _ _ _ _ _ _ _ (s₁.setTop (mkF m 0 #[.val (.ref aa), .val (.long qq), .second] []))
  refine Go.step (fun t k => XS.aloadN X0.here hx rfl (hb hby d1_0) rfl rfl k) ?_
  show Go _ _ _ _ _ _ _ (s₁.setTop (mkF m 1 #[.val (.ref aa), .val (.long qq), .second] [(.ref aa)]))
  obtain ⟨_, _, ⟨T1, L1, k1, n1⟩, -, X1, ⟨Lc1, hQ1, l1, y1, z1⟩, st1⟩ := X0.specialBack hx (y := (⟨"java/lang/Record", "<init>", "()V"⟩ : MethodName)) rfl hown (mvT hZ (hw _ (List.mem_of_getElem? (i := 9) rfl))) (mvT hZ (hw _ (List.mem_of_getElem? (i := 10) rfl))) (mvT hZ (hw _ (List.mem_of_getElem? (i := 13) rfl))) (by decide) (backOf (W := 0) (rm2 l Z a0 hw [] aa h0 n0 Z0) hZ (hw _ (List.mem_of_getElem? (i := 13) rfl)) (hw _ (List.mem_of_getElem? (i := 12) rfl)) (by decide) (by decide)) (g := (mkF m 1 #[.val (.ref aa), .val (.long qq), .second] [(.ref aa)])) rfl (by rw [hml]; rfl) (Steps.refl _) (a := aa) (argsL := []) (rest := []) (lenOf pd_1_0 rfl) rfl (by show 2 * 0 + _ ≤ _; exact Nat.le_of_eq rfl) (hb hby d1_1) (fun _ _ => ⟨rfl, e0, (by decide : 0 + 0 ≤ _), (by decide : 0 + 0 ≤ _)⟩)
  dsimp only [Pt.U, Pt.locs, Pt.cells, Pt.slots] at X1 l1 y1 z1 st1 hQ1
  subst l1 y1 z1
  obtain ⟨rfl, N1q, K1q⟩ := hQ1
  have N1 := Fr.app N0 N1q
  refine Go.step (fun t k => st1.trans k) ?_
  show Go _ _ _ _ _ _ _ (T1.setTop (mkF m 4 #[.val (.ref aa), .val (.long qq), .second] []))
  refine Go.step (fun t k => XS.aloadN X1.here hx rfl (hb hby d1_4) rfl rfl k) ?_
  show Go _ _ _ _ _ _ _ (T1.setTop (mkF m 5 #[.val (.ref aa), .val (.long qq), .second] [(.ref aa)]))
  refine Go.step (fun t k => XS.lloadN X1.here hx rfl (hb hby d1_5) rfl k) ?_
  show Go _ _ _ _ _ _ _ (T1.setTop (mkF m 6 #[.val (.ref aa), .val (.long qq), .second] [(.long qq), (.ref aa)]))
  obtain ⟨T2, h2, X2, e2, W2, st2⟩ := putF X1 hx hZ hown (host := "") (Or.inl (hw _ (List.mem_of_getElem? (i := 17) rfl))) Via.refl K1q F_displayQuantity_aa E_aa (Or.inr ⟨(hw _ (List.mem_of_getElem? (i := 18) rfl)), rfl, hnm⟩) (hw _ (List.mem_of_getElem? (i := 4) rfl)) (ty := .long) (by decide) rfl rfl (g := (mkF m 6 #[.val (.ref aa), .val (.long qq), .second] [(.long qq), (.ref aa)])) rfl rfl (hb hby d1_6)
  replace E_aa := E_aa.wr W2
  have Z2 := Nat.le_trans Z0 (Keep.of_wr W2).1
  have N2 := Fr.snoc X2 N1 g_aa
  have K2 := K0.wr W2 (Or.inl (List.mem_of_getElem? (i := 0) rfl))
  replace F_displayQuantity_aa := F_displayQuantity_aa.same W2
  refine Go.step st2 ?_
  show Go _ _ _ _ _ _ _ (T2.setTop (mkF m 9 #[.val (.ref aa), .val (.long qq), .second] []))
  refine Go.retV X2 Bd.notSynchronized hx Bd.returns (hb hby d1_9) (by decide) (by decide) ?_
  rw [e2]
  exact ⟨rfl, N2, K2, F_displayQuantity_aa⟩
theorem d4_0 : decode prog_49_method_2_code 0 = .ok (.aload_n 0, 1) := by decide +kernel
theorem d4_1 : decode prog_49_method_2_code 1 = .ok (.getfield 7, 3) := by decide +kernel
theorem d4_4 : decode prog_49_method_2_code 4 = .ok (.ldc2_w 13, 3) := by decide +kernel
theorem d4_7 : decode prog_49_method_2_code 7 = .ok (.lcmp, 1) := by decide +kernel
theorem d4_8 : decode prog_49_method_2_code 8 = .ok (.ifCond .lt 20, 3) := by decide +kernel
theorem d4_11 : decode prog_49_method_2_code 11 = .ok (.aload_n 0, 1) := by decide +kernel
theorem d4_12 : decode prog_49_method_2_code 12 = .ok (.getfield 7, 3) := by decide +kernel
theorem d4_15 : decode prog_49_method_2_code 15 = .ok (.ldc2_w 13, 3) := by decide +kernel
theorem d4_18 : decode prog_49_method_2_code 18 = .ok (.lrem, 1) := by decide +kernel
theorem d4_19 : decode prog_49_method_2_code 19 = .ok (.lconst 0, 1) := by decide +kernel
theorem d4_20 : decode prog_49_method_2_code 20 = .ok (.lcmp, 1) := by decide +kernel
theorem d4_21 : decode prog_49_method_2_code 21 = .ok (.ifCond .ne 7, 3) := by decide +kernel
theorem d4_24 : decode prog_49_method_2_code 24 = .ok (.iconst 1, 1) := by decide +kernel
theorem d4_25 : decode prog_49_method_2_code 25 = .ok (.goto 4, 3) := by decide +kernel
theorem d4_28 : decode prog_49_method_2_code 28 = .ok (.iconst 0, 1) := by decide +kernel
theorem d4_29 : decode prog_49_method_2_code 29 = .ok (.ireturn, 1) := by decide +kernel
theorem pn_4 : plainName "com/example/matchstone/matchstone/Reserve" = true := by first | (simp [plainName, overriddenIn]; done) | decide +kernel
theorem ef_4 (m : MethodId) (x0 : Addr) : entryFrame m #[(.ref x0)] 1 = mkF m 0 #[.val (.ref x0)] [] := by first | (simp [entryFrame, mkF, argsToLocals, Value.category]; done) | rfl
def Q4 (Z : State) (aa : Addr) (qq : Int64) (h0 : Heap) (n0 : Nat) (v : Option Value) (h : Heap) (L : List Loc) : Prop := ∃ z : Int32, v = some (.int z) ∧ Fr n0 L ∧ h = h0 ∧ ((z = 1 ∧ own_rl qq) ∨ (z = 0 ∧ ¬ own_rl qq))
set_option maxRecDepth 65536 in
set_option maxHeartbeats 40000000 in
theorem rm4 (l : Launch) (Z : State) (a0 : Array Value) (hw : ∀ d ∈ tables_1, d.before a0 Z = true) (ws : List Jvm.Cond) (aa : Addr) (qq : Int64) (h0 : Heap) (n0 : Nat) (Z0 : n0 ≤ h0.size) (F_displayQuantity_aa : Fld Z h0 aa "com/example/matchstone/matchstone/Reserve" "displayQuantity" "J" (.long qq)) :
    MetFree l (⟨"com/example/matchstone/matchstone/Reserve", "displaysRoundLots", "()Z"⟩ : MethodName) (head1 (Jvm.Cond.code (⟨"com/example/matchstone/matchstone/Reserve", "displaysRoundLots", "()Z"⟩ : MethodName) prog_49_method_2_code 1 (some .boolean) :: ws) ({ frames := 0, cells := 0, slots := 0, locals := 0 } : Room)) (fun a U => a = #[(.ref aa)] ∧ Z.Warmed39 U.vm ∧ U.heap = h0) (fun _ _ _ _ _ => True) (fun _ U o U' => ∃ v L, o = .returned v ∧ Q4 Z aa qq h0 n0 v U'.heap L ∧ FrameEnd U o U' L ({ frames := 0, cells := 0, slots := 0, locals := 0 } : Room).cells ({ frames := 0, cells := 0, slots := 0, locals := 0 } : Room).slots) := by
  refine MetFree.of_bodySF (plainFor_of_name pn_4) hisR ?_
  intro p e s m args below meth c s₁ Bd hml0 hP hK
  obtain ⟨rfl, hZ, hh⟩ := hP
  have hx := Bd.exec
  have hby := Bd.bytes
  have hml : c.maxLocals = 1 := hml0
  have hown : s.vm.findClass "com/example/matchstone/matchstone/Reserve" = some m.cls := findClass_of_methodNamed Bd.named
  have hnm := (name_of_methodNamed Bd.named Bd.method).1
  have X0 : Stand p l e ({ frames := 0, cells := 0, slots := 0, locals := 0 } : Room) s m #[(.ref aa)] below meth c s₁ [] 0 0 := Stand.of_body Bd
  have e0 : s₁.heap = h0 := by rw [← hh, Bd.state]; rfl
  have N0 := Fr.nil n0
  show Go p e below s (Q4 Z aa qq h0 n0) ({ frames := 0, cells := 0, slots := 0, locals := 0 } : Room).cells ({ frames := 0, cells := 0, slots := 0, locals := 0 } : Room).slots (s₁.setTop (entryFrame m #[(.ref aa)] 1))
  rw [ef_4]
  show Go _ _ _ _ _ _ _ (s₁.setTop (mkF m 0 #[.val (.ref aa)] []))
  refine Go.step (fun t k => XS.aloadN X0.here hx rfl (hb hby d4_0) rfl rfl k) ?_
  show Go _ _ _ _ _ _ _ (s₁.setTop (mkF m 1 #[.val (.ref aa)] [(.ref aa)]))
  obtain ⟨T1, X1, e1, st1⟩ := getF X0 hx hZ hown (host := "") (Or.inl (hw _ (List.mem_of_getElem? (i := 17) rfl))) Via.refl e0 F_displayQuantity_aa (g := (mkF m 1 #[.val (.ref aa)] [(.ref aa)])) rfl rfl (hb hby d4_1)
  refine Go.step st1 ?_
  show Go _ _ _ _ _ _ _ (T1.setTop (mkF m 4 #[.val (.ref aa)] [(.long qq)]))
  refine Go.step (fun t k => X1.ldc2Long hx hown (mvT hZ (hw _ (List.mem_of_getElem? (i := 24) rfl))) (g := (mkF m 4 #[.val (.ref aa)] [(.long qq)])) rfl (hb hby d4_4) _ k) ?_
  show Go _ _ _ _ _ _ _ (T1.setTop (mkF m 7 #[.val (.ref aa)] [(.long (100 : Int64)), (.long qq)]))
  refine Go.step (fun t k => XS.lcmp X1.here hx rfl (hb hby d4_7) rfl k) ?_
  show Go _ _ _ _ _ _ _ (T1.setTop (mkF m 8 #[.val (.ref aa)] [(.int (lcmpW qq (100 : Int64)))]))
  by_cases hc8_2 : qq < (100 : Int64)
  · refine Go.step (fun t k => XS.ifYes X1.here hx rfl (pc0 := 8) (pc' := 28) rfl (hb hby d4_8) rfl ((if0 _ _).trans (tlt (own_lwlt hc8_2)).1) (by decide) (by decide) k) ?_
    show Go _ _ _ _ _ _ _ (T1.setTop (mkF m 28 #[.val (.ref aa)] []))
    refine Go.step (fun t k => XS.iconst X1.here hx rfl (hb hby d4_28) k) ?_
    show Go _ _ _ _ _ _ _ (T1.setTop (mkF m 29 #[.val (.ref aa)] [(.int (0 : Int32))]))
    refine Go.retN X1 Bd.notSynchronized hx (t := .boolean) Bd.returns (by simp) (hb hby d4_29) (by decide) (by decide) (0 : Int32) rfl ?_
    rw [e1]
    exact ⟨(0 : Int32), rfl, N0, rfl, (Or.inr ⟨rfl, fun r => r.1 hc8_2⟩)⟩
  · refine Go.step (fun t k => XS.ifNo X1.here hx rfl (hb hby d4_8) rfl ((if0 _ _).trans (flt (own_nlwlt hc8_2)).1) k) ?_
    show Go _ _ _ _ _ _ _ (T1.setTop (mkF m 11 #[.val (.ref aa)] []))
    refine Go.step (fun t k => XS.aloadN X1.here hx rfl (hb hby d4_11) rfl rfl k) ?_
    show Go _ _ _ _ _ _ _ (T1.setTop (mkF m 12 #[.val (.ref aa)] [(.ref aa)]))
    obtain ⟨T3, X3, e3, st3⟩ := getF X1 hx hZ hown (host := "") (Or.inl (hw _ (List.mem_of_getElem? (i := 17) rfl))) Via.refl e1 F_displayQuantity_aa (g := (mkF m 12 #[.val (.ref aa)] [(.ref aa)])) rfl rfl (hb hby d4_12)
    refine Go.step st3 ?_
    show Go _ _ _ _ _ _ _ (T3.setTop (mkF m 15 #[.val (.ref aa)] [(.long qq)]))
    refine Go.step (fun t k => X3.ldc2Long hx hown (mvT hZ (hw _ (List.mem_of_getElem? (i := 24) rfl))) (g := (mkF m 15 #[.val (.ref aa)] [(.long qq)])) rfl (hb hby d4_15) _ k) ?_
    show Go _ _ _ _ _ _ _ (T3.setTop (mkF m 18 #[.val (.ref aa)] [(.long (100 : Int64)), (.long qq)]))
    refine Go.step (fun t k => XS.lrem X3.here hx rfl (hb hby d4_18) rfl (by decide) k) ?_
    show Go _ _ _ _ _ _ _ (T3.setTop (mkF m 19 #[.val (.ref aa)] [(.long (qq - (qq / (100 : Int64)) * (100 : Int64)))]))
    refine Go.step (fun t k => XS.lconst X3.here hx rfl (hb hby d4_19) k) ?_
    show Go _ _ _ _ _ _ _ (T3.setTop (mkF m 20 #[.val (.ref aa)] [(.long (0 : Int64)), (.long (qq - (qq / (100 : Int64)) * (100 : Int64)))]))
    refine Go.step (fun t k => XS.lcmp X3.here hx rfl (hb hby d4_20) rfl k) ?_
    show Go _ _ _ _ _ _ _ (T3.setTop (mkF m 21 #[.val (.ref aa)] [(.int (lcmpW (qq - (qq / (100 : Int64)) * (100 : Int64)) (0 : Int64)))]))
    by_cases hc21_4 : (qq - (qq / (100 : Int64)) * (100 : Int64)) = (0 : Int64)
    · refine Go.step (fun t k => XS.ifNo X3.here hx rfl (hb hby d4_21) rfl ((if0 _ _).trans (teq (own_lweq hc21_4)).2) k) ?_
      show Go _ _ _ _ _ _ _ (T3.setTop (mkF m 24 #[.val (.ref aa)] []))
      refine Go.step (fun t k => XS.iconst X3.here hx rfl (hb hby d4_24) k) ?_
      show Go _ _ _ _ _ _ _ (T3.setTop (mkF m 25 #[.val (.ref aa)] [(.int (1 : Int32))]))
      refine Go.step (fun t k => XS.goto X3.here hx rfl (pc0 := 25) (pc' := 29) rfl (hb hby d4_25) (by decide) (by decide) k) ?_
      show Go _ _ _ _ _ _ _ (T3.setTop (mkF m 29 #[.val (.ref aa)] [(.int (1 : Int32))]))
      refine Go.retN X3 Bd.notSynchronized hx (t := .boolean) Bd.returns (by simp) (hb hby d4_29) (by decide) (by decide) (1 : Int32) rfl ?_
      rw [e3]
      exact ⟨(1 : Int32), rfl, N0, rfl, (Or.inl ⟨rfl, hc8_2, hc21_4⟩)⟩
    · refine Go.step (fun t k => XS.ifYes X3.here hx rfl (pc0 := 21) (pc' := 28) rfl (hb hby d4_21) rfl ((if0 _ _).trans (feq (own_nlweq hc21_4)).2) (by decide) (by decide) k) ?_
      show Go _ _ _ _ _ _ _ (T3.setTop (mkF m 28 #[.val (.ref aa)] []))
      refine Go.step (fun t k => XS.iconst X3.here hx rfl (hb hby d4_28) k) ?_
      show Go _ _ _ _ _ _ _ (T3.setTop (mkF m 29 #[.val (.ref aa)] [(.int (0 : Int32))]))
      refine Go.retN X3 Bd.notSynchronized hx (t := .boolean) Bd.returns (by simp) (hb hby d4_29) (by decide) (by decide) (0 : Int32) rfl ?_
      rw [e3]
      exact ⟨(0 : Int32), rfl, N0, rfl, (Or.inr ⟨rfl, fun r => hc21_4 r.2⟩)⟩
theorem pn_0 : plainName "com/example/matchstone/matchstone/ReserveDisplaysRoundLotsPinLaw" = true := by first | (simp [plainName, overriddenIn]; done) | decide +kernel
theorem pd_0_0 : parseMethodDescriptor "(J)V" = some ⟨[.long], none⟩ := by decide +kernel
theorem pd_0_1 : parseMethodDescriptor "()Z" = some ⟨[], some .boolean⟩ := by decide +kernel
theorem ef_0 (m : MethodId) (x0 : Int64) (x1 : Int32) : entryFrame m #[(.long x0), (.int x1)] maxLocals = mkF m 0 #[.val (.long x0), .second, .val (.int x1), .unset, .unset, .unset, .unset, .unset, .unset, .unset, .unset] [] := by first | (simp [entryFrame, mkF, argsToLocals, Value.category, maxLocals]; done) | rfl
def Q0 (Z : State) (kk : Int64) (rr : Int32) (h0 : Heap) (n0 : Nat) (v : Option Value) (h : Heap) (L : List Loc) : Prop := v = some (.int (1 : Int32)) ∧ Fr n0 L
set_option maxRecDepth 65536 in
set_option maxHeartbeats 40000000 in
theorem rm0 (l : Launch) (Z : State) (a0 : Array Value) (hw : ∀ d ∈ tables_1, d.before a0 Z = true) (ws : List Jvm.Cond) (kk : Int64) (rr : Int32) (h0 : Heap) (n0 : Nat) (Z0 : n0 ≤ h0.size) :
    MetFree l x (head1 (Jvm.Cond.code x code maxLocals ret :: ws) room_1) (fun a U => a = #[(.long kk), (.int rr)] ∧ Z.Warmed39 U.vm ∧ U.heap = h0) (fun _ _ _ _ _ => True) (fun _ U o U' => ∃ v L, o = .returned v ∧ Q0 Z kk rr h0 n0 v U'.heap L ∧ FrameEnd U o U' L 16 128) := by
  refine MetFree.of_bodySF (plainFor_of_name pn_0) hisR ?_
  intro p e s m args below meth c s₁ Bd hml0 hP hK
  obtain ⟨rfl, hZ, hh⟩ := hP
  have hx := Bd.exec
  have hby := Bd.bytes
  have hml : c.maxLocals = 11 := hml0
  have hown : s.vm.findClass "com/example/matchstone/matchstone/ReserveDisplaysRoundLotsPinLaw" = some m.cls := findClass_of_methodNamed Bd.named
  have hnm := (name_of_methodNamed Bd.named Bd.method).1
  have X0 : Stand p l e room_1 s m #[(.long kk), (.int rr)] below meth c s₁ [] 0 0 := Stand.of_body Bd
  have e0 : s₁.heap = h0 := by rw [← hh, Bd.state]; rfl
  have N0 := Fr.nil n0
  show Go p e below s (Q0 Z kk rr h0 n0) 16 128 (s₁.setTop (entryFrame m #[(.long kk), (.int rr)] maxLocals))
  rw [ef_0]
  show Go _ _ _ _ _ _ _ (s₁.setTop (mkF m 0 #[.val (.long kk), .second, .val (.int rr), .unset, .unset, .unset, .unset, .unset, .unset, .unset, .unset] []))
  refine Go.step (fun t k => XS.lloadN X0.here hx rfl (hb hby at_0) rfl k) ?_
  show Go _ _ _ _ _ _ _ (s₁.setTop (mkF m 1 #[.val (.long kk), .second, .val (.int rr), .unset, .unset, .unset, .unset, .unset, .unset, .unset, .unset] [(.long kk)]))
  refine Go.step (fun t k => X0.ldc2Long hx hown (mvT hZ (hw _ (List.mem_of_getElem? (i := 0) rfl))) (g := (mkF m 1 #[.val (.long kk), .second, .val (.int rr), .unset, .unset, .unset, .unset, .unset, .unset, .unset, .unset] [(.long kk)])) rfl (hb hby at_1) _ k) ?_
  show Go _ _ _ _ _ _ _ (s₁.setTop (mkF m 4 #[.val (.long kk), .second, .val (.int rr), .unset, .unset, .unset, .unset, .unset, .unset, .unset, .unset] [(.long (101 : Int64)), (.long kk)]))
  refine Go.step (fun t k => XS.ldiv X0.here hx rfl (hb hby at_4) rfl (by decide) k) ?_
  show Go _ _ _ _ _ _ _ (s₁.setTop (mkF m 5 #[.val (.long kk), .second, .val (.int rr), .unset, .unset, .unset, .unset, .unset, .unset, .unset, .unset] [(.long (kk / (101 : Int64)))]))
  refine Go.step (fun t k => XS.lstoreN X0.here hx rfl (hb hby at_5) rfl (l' := #[.val (.long kk), .second, .val (.int rr), .val (.long (kk / (101 : Int64))), .second, .unset, .unset, .unset, .unset, .unset, .unset]) rfl k) ?_
  show Go _ _ _ _ _ _ _ (s₁.setTop (mkF m 6 #[.val (.long kk), .second, .val (.int rr), .val (.long (kk / (101 : Int64))), .second, .unset, .unset, .unset, .unset, .unset, .unset] []))
  refine Go.step (fun t k => XS.iloadN X0.here hx rfl (hb hby at_6) rfl k) ?_
  show Go _ _ _ _ _ _ _ (s₁.setTop (mkF m 7 #[.val (.long kk), .second, .val (.int rr), .val (.long (kk / (101 : Int64))), .second, .unset, .unset, .unset, .unset, .unset, .unset] [(.int rr)]))
  refine Go.step (fun t k => X0.ldcInt hx hown (mvT hZ (hw _ (List.mem_of_getElem? (i := 1) rfl))) (g := (mkF m 7 #[.val (.long kk), .second, .val (.int rr), .val (.long (kk / (101 : Int64))), .second, .unset, .unset, .unset, .unset, .unset, .unset] [(.int rr)])) rfl (hb hby at_7) _ k) ?_
  show Go _ _ _ _ _ _ _ (s₁.setTop (mkF m 9 #[.val (.long kk), .second, .val (.int rr), .val (.long (kk / (101 : Int64))), .second, .unset, .unset, .unset, .unset, .unset, .unset] [(.int (2147483647 : Int32)), (.int rr)]))
  refine Go.step (fun t k => XS.iand X0.here hx rfl (hb hby at_9) rfl k) ?_
  show Go _ _ _ _ _ _ _ (s₁.setTop (mkF m 10 #[.val (.long kk), .second, .val (.int rr), .val (.long (kk / (101 : Int64))), .second, .unset, .unset, .unset, .unset, .unset, .unset] [(.int (rr &&& (2147483647 : Int32)))]))
  refine Go.step (fun t k => XS.bipush X0.here hx rfl (hb hby at_10) k) ?_
  show Go _ _ _ _ _ _ _ (s₁.setTop (mkF m 12 #[.val (.long kk), .second, .val (.int rr), .val (.long (kk / (101 : Int64))), .second, .unset, .unset, .unset, .unset, .unset, .unset] [(.int (100 : Int32)), (.int (rr &&& (2147483647 : Int32)))]))
  refine Go.step (fun t k => iremM X0 hx rfl (hb hby at_12) rfl (by decide) k) ?_
  show Go _ _ _ _ _ _ _ (s₁.setTop (mkF m 13 #[.val (.long kk), .second, .val (.int rr), .val (.long (kk / (101 : Int64))), .second, .unset, .unset, .unset, .unset, .unset, .unset] [(.int ((rr &&& (2147483647 : Int32)) % (100 : Int32)))]))
  refine Go.step (fun t k => XS.i2l X0.here hx rfl (hb hby at_13) rfl k) ?_
  show Go _ _ _ _ _ _ _ (s₁.setTop (mkF m 14 #[.val (.long kk), .second, .val (.int rr), .val (.long (kk / (101 : Int64))), .second, .unset, .unset, .unset, .unset, .unset, .unset] [(.long (((rr &&& (2147483647 : Int32)) % (100 : Int32)).toInt64))]))
  refine Go.step (fun t k => XS.lstore X0.here hx rfl (hb hby at_14) rfl (l' := #[.val (.long kk), .second, .val (.int rr), .val (.long (kk / (101 : Int64))), .second, .val (.long (((rr &&& (2147483647 : Int32)) % (100 : Int32)).toInt64)), .second, .unset, .unset, .unset, .unset]) rfl k) ?_
  show Go _ _ _ _ _ _ _ (s₁.setTop (mkF m 16 #[.val (.long kk), .second, .val (.int rr), .val (.long (kk / (101 : Int64))), .second, .val (.long (((rr &&& (2147483647 : Int32)) % (100 : Int32)).toInt64)), .second, .unset, .unset, .unset, .unset] []))
  refine Go.step (fun t k => XS.lloadN X0.here hx rfl (hb hby at_16) rfl k) ?_
  show Go _ _ _ _ _ _ _ (s₁.setTop (mkF m 17 #[.val (.long kk), .second, .val (.int rr), .val (.long (kk / (101 : Int64))), .second, .val (.long (((rr &&& (2147483647 : Int32)) % (100 : Int32)).toInt64)), .second, .unset, .unset, .unset, .unset] [(.long (kk / (101 : Int64)))]))
  refine Go.step (fun t k => X0.ldc2Long hx hown (mvT hZ (hw _ (List.mem_of_getElem? (i := 2) rfl))) (g := (mkF m 17 #[.val (.long kk), .second, .val (.int rr), .val (.long (kk / (101 : Int64))), .second, .val (.long (((rr &&& (2147483647 : Int32)) % (100 : Int32)).toInt64)), .second, .unset, .unset, .unset, .unset] [(.long (kk / (101 : Int64)))])) rfl (hb hby at_17) _ k) ?_
  show Go _ _ _ _ _ _ _ (s₁.setTop (mkF m 20 #[.val (.long kk), .second, .val (.int rr), .val (.long (kk / (101 : Int64))), .second, .val (.long (((rr &&& (2147483647 : Int32)) % (100 : Int32)).toInt64)), .second, .unset, .unset, .unset, .unset] [(.long (100 : Int64)), (.long (kk / (101 : Int64)))]))
  refine Go.step (fun t k => XS.lmul X0.here hx rfl (hb hby at_20) rfl k) ?_
  show Go _ _ _ _ _ _ _ (s₁.setTop (mkF m 21 #[.val (.long kk), .second, .val (.int rr), .val (.long (kk / (101 : Int64))), .second, .val (.long (((rr &&& (2147483647 : Int32)) % (100 : Int32)).toInt64)), .second, .unset, .unset, .unset, .unset] [(.long ((kk / (101 : Int64)) * (100 : Int64)))]))
  refine Go.step (fun t k => XS.lload X0.here hx rfl (hb hby at_21) rfl k) ?_
  show Go _ _ _ _ _ _ _ (s₁.setTop (mkF m 23 #[.val (.long kk), .second, .val (.int rr), .val (.long (kk / (101 : Int64))), .second, .val (.long (((rr &&& (2147483647 : Int32)) % (100 : Int32)).toInt64)), .second, .unset, .unset, .unset, .unset] [(.long (((rr &&& (2147483647 : Int32)) % (100 : Int32)).toInt64)), (.long ((kk / (101 : Int64)) * (100 : Int64)))]))
  refine Go.step (fun t k => XS.ladd X0.here hx rfl (hb hby at_23) rfl k) ?_
  show Go _ _ _ _ _ _ _ (s₁.setTop (mkF m 24 #[.val (.long kk), .second, .val (.int rr), .val (.long (kk / (101 : Int64))), .second, .val (.long (((rr &&& (2147483647 : Int32)) % (100 : Int32)).toInt64)), .second, .unset, .unset, .unset, .unset] [(.long (((kk / (101 : Int64)) * (100 : Int64)) + (((rr &&& (2147483647 : Int32)) % (100 : Int32)).toInt64)))]))
  refine Go.step (fun t k => XS.lstore X0.here hx rfl (hb hby at_24) rfl (l' := #[.val (.long kk), .second, .val (.int rr), .val (.long (kk / (101 : Int64))), .second, .val (.long (((rr &&& (2147483647 : Int32)) % (100 : Int32)).toInt64)), .second, .val (.long (((kk / (101 : Int64)) * (100 : Int64)) + (((rr &&& (2147483647 : Int32)) % (100 : Int32)).toInt64))), .second, .unset, .unset]) rfl k) ?_
  show Go _ _ _ _ _ _ _ (s₁.setTop (mkF m 26 #[.val (.long kk), .second, .val (.int rr), .val (.long (kk / (101 : Int64))), .second, .val (.long (((rr &&& (2147483647 : Int32)) % (100 : Int32)).toInt64)), .second, .val (.long (((kk / (101 : Int64)) * (100 : Int64)) + (((rr &&& (2147483647 : Int32)) % (100 : Int32)).toInt64))), .second, .unset, .unset] []))
  refine Go.step (fun t k => XS.lloadN X0.here hx rfl (hb hby at_26) rfl k) ?_
  show Go _ _ _ _ _ _ _ (s₁.setTop (mkF m 27 #[.val (.long kk), .second, .val (.int rr), .val (.long (kk / (101 : Int64))), .second, .val (.long (((rr &&& (2147483647 : Int32)) % (100 : Int32)).toInt64)), .second, .val (.long (((kk / (101 : Int64)) * (100 : Int64)) + (((rr &&& (2147483647 : Int32)) % (100 : Int32)).toInt64))), .second, .unset, .unset] [(.long (kk / (101 : Int64)))]))
  refine Go.step (fun t k => XS.lconst X0.here hx rfl (hb hby at_27) k) ?_
  show Go _ _ _ _ _ _ _ (s₁.setTop (mkF m 28 #[.val (.long kk), .second, .val (.int rr), .val (.long (kk / (101 : Int64))), .second, .val (.long (((rr &&& (2147483647 : Int32)) % (100 : Int32)).toInt64)), .second, .val (.long (((kk / (101 : Int64)) * (100 : Int64)) + (((rr &&& (2147483647 : Int32)) % (100 : Int32)).toInt64))), .second, .unset, .unset] [(.long (1 : Int64)), (.long (kk / (101 : Int64)))]))
  refine Go.step (fun t k => XS.lcmp X0.here hx rfl (hb hby at_28) rfl k) ?_
  show Go _ _ _ _ _ _ _ (s₁.setTop (mkF m 29 #[.val (.long kk), .second, .val (.int rr), .val (.long (kk / (101 : Int64))), .second, .val (.long (((rr &&& (2147483647 : Int32)) % (100 : Int32)).toInt64)), .second, .val (.long (((kk / (101 : Int64)) * (100 : Int64)) + (((rr &&& (2147483647 : Int32)) % (100 : Int32)).toInt64))), .second, .unset, .unset] [(.int (lcmpW (kk / (101 : Int64)) (1 : Int64)))]))
  -- joined again at pc 44
  obtain ⟨ex, hex⟩ : ∃ z : Int32, z = (if (kk / (101 : Int64)) < (1 : Int64) then (0 : Int32) else (if (((rr &&& (2147483647 : Int32)) % (100 : Int32)).toInt64) = (0 : Int64) then (1 : Int32) else (0 : Int32))) := ⟨_, rfl⟩
  have st1 : ∀ t, Steps p.tables e below (s₁.setTop (mkF m 44 #[.val (.long kk), .second, .val (.int rr), .val (.long (kk / (101 : Int64))), .second, .val (.long (((rr &&& (2147483647 : Int32)) % (100 : Int32)).toInt64)), .second, .val (.long (((kk / (101 : Int64)) * (100 : Int64)) + (((rr &&& (2147483647 : Int32)) % (100 : Int32)).toInt64))), .second, .unset, .unset] [(.int ex)])) t → Steps p.tables e below (s₁.setTop (mkF m 29 #[.val (.long kk), .second, .val (.int rr), .val (.long (kk / (101 : Int64))), .second, .val (.long (((rr &&& (2147483647 : Int32)) % (100 : Int32)).toInt64)), .second, .val (.long (((kk / (101 : Int64)) * (100 : Int64)) + (((rr &&& (2147483647 : Int32)) % (100 : Int32)).toInt64))), .second, .unset, .unset] [(.int (lcmpW (kk / (101 : Int64)) (1 : Int64)))])) t := by
    intro t kt
    by_cases hd29_2 : (kk / (101 : Int64)) < (1 : Int64)
    · refine XS.ifYes X0.here hx rfl (pc0 := 29) (pc' := 43) rfl (hb hby at_29) rfl ((if0 _ _).trans (tlt (own_lwlt hd29_2)).1) (by decide) (by decide) ?_
      show Steps p.tables e below (s₁.setTop (mkF m 43 #[.val (.long kk), .second, .val (.int rr), .val (.long (kk / (101 : Int64))), .second, .val (.long (((rr &&& (2147483647 : Int32)) % (100 : Int32)).toInt64)), .second, .val (.long (((kk / (101 : Int64)) * (100 : Int64)) + (((rr &&& (2147483647 : Int32)) % (100 : Int32)).toInt64))), .second, .unset, .unset] [])) _
      refine XS.iconst X0.here hx rfl (hb hby at_43) ?_
      show Steps p.tables e below (s₁.setTop (mkF m 44 #[.val (.long kk), .second, .val (.int rr), .val (.long (kk / (101 : Int64))), .second, .val (.long (((rr &&& (2147483647 : Int32)) % (100 : Int32)).toInt64)), .second, .val (.long (((kk / (101 : Int64)) * (100 : Int64)) + (((rr &&& (2147483647 : Int32)) % (100 : Int32)).toInt64))), .second, .unset, .unset] [(.int (0 : Int32))])) _
      have qex : ex = (0 : Int32) := by rw [hex]; simp only [if_pos hd29_2]
      rw [qex] at kt
      exact kt
    · refine XS.ifNo X0.here hx rfl (hb hby at_29) rfl ((if0 _ _).trans (flt (own_nlwlt hd29_2)).1) ?_
      show Steps p.tables e below (s₁.setTop (mkF m 32 #[.val (.long kk), .second, .val (.int rr), .val (.long (kk / (101 : Int64))), .second, .val (.long (((rr &&& (2147483647 : Int32)) % (100 : Int32)).toInt64)), .second, .val (.long (((kk / (101 : Int64)) * (100 : Int64)) + (((rr &&& (2147483647 : Int32)) % (100 : Int32)).toInt64))), .second, .unset, .unset] [])) _
      refine XS.lload X0.here hx rfl (hb hby at_32) rfl ?_
      show Steps p.tables e below (s₁.setTop (mkF m 34 #[.val (.long kk), .second, .val (.int rr), .val (.long (kk / (101 : Int64))), .second, .val (.long (((rr &&& (2147483647 : Int32)) % (100 : Int32)).toInt64)), .second, .val (.long (((kk / (101 : Int64)) * (100 : Int64)) + (((rr &&& (2147483647 : Int32)) % (100 : Int32)).toInt64))), .second, .unset, .unset] [(.long (((rr &&& (2147483647 : Int32)) % (100 : Int32)).toInt64))])) _
      refine XS.lconst X0.here hx rfl (hb hby at_34) ?_
      show Steps p.tables e below (s₁.setTop (mkF m 35 #[.val (.long kk), .second, .val (.int rr), .val (.long (kk / (101 : Int64))), .second, .val (.long (((rr &&& (2147483647 : Int32)) % (100 : Int32)).toInt64)), .second, .val (.long (((kk / (101 : Int64)) * (100 : Int64)) + (((rr &&& (2147483647 : Int32)) % (100 : Int32)).toInt64))), .second, .unset, .unset] [(.long (0 : Int64)), (.long (((rr &&& (2147483647 : Int32)) % (100 : Int32)).toInt64))])) _
      refine XS.lcmp X0.here hx rfl (hb hby at_35) rfl ?_
      show Steps p.tables e below (s₁.setTop (mkF m 36 #[.val (.long kk), .second, .val (.int rr), .val (.long (kk / (101 : Int64))), .second, .val (.long (((rr &&& (2147483647 : Int32)) % (100 : Int32)).toInt64)), .second, .val (.long (((kk / (101 : Int64)) * (100 : Int64)) + (((rr &&& (2147483647 : Int32)) % (100 : Int32)).toInt64))), .second, .unset, .unset] [(.int (lcmpW (((rr &&& (2147483647 : Int32)) % (100 : Int32)).toInt64) (0 : Int64)))])) _
      by_cases hd36_3 : (((rr &&& (2147483647 : Int32)) % (100 : Int32)).toInt64) = (0 : Int64)
      · refine XS.ifNo X0.here hx rfl (hb hby at_36) rfl ((if0 _ _).trans (teq (own_lweq hd36_3)).2) ?_
        show Steps p.tables e below (s₁.setTop (mkF m 39 #[.val (.long kk), .second, .val (.int rr), .val (.long (kk / (101 : Int64))), .second, .val (.long (((rr &&& (2147483647 : Int32)) % (100 : Int32)).toInt64)), .second, .val (.long (((kk / (101 : Int64)) * (100 : Int64)) + (((rr &&& (2147483647 : Int32)) % (100 : Int32)).toInt64))), .second, .unset, .unset] [])) _
        refine XS.iconst X0.here hx rfl (hb hby at_39) ?_
        show Steps p.tables e below (s₁.setTop (mkF m 40 #[.val (.long kk), .second, .val (.int rr), .val (.long (kk / (101 : Int64))), .second, .val (.long (((rr &&& (2147483647 : Int32)) % (100 : Int32)).toInt64)), .second, .val (.long (((kk / (101 : Int64)) * (100 : Int64)) + (((rr &&& (2147483647 : Int32)) % (100 : Int32)).toInt64))), .second, .unset, .unset] [(.int (1 : Int32))])) _
        refine XS.goto X0.here hx rfl (pc0 := 40) (pc' := 44) rfl (hb hby at_40) (by decide) (by decide) ?_
        show Steps p.tables e below (s₁.setTop (mkF m 44 #[.val (.long kk), .second, .val (.int rr), .val (.long (kk / (101 : Int64))), .second, .val (.long (((rr &&& (2147483647 : Int32)) % (100 : Int32)).toInt64)), .second, .val (.long (((kk / (101 : Int64)) * (100 : Int64)) + (((rr &&& (2147483647 : Int32)) % (100 : Int32)).toInt64))), .second, .unset, .unset] [(.int (1 : Int32))])) _
        have qex : ex = (1 : Int32) := by rw [hex]; simp only [if_neg hd29_2, if_pos hd36_3]
        rw [qex] at kt
        exact kt
      · refine XS.ifYes X0.here hx rfl (pc0 := 36) (pc' := 43) rfl (hb hby at_36) rfl ((if0 _ _).trans (feq (own_nlweq hd36_3)).2) (by decide) (by decide) ?_
        show Steps p.tables e below (s₁.setTop (mkF m 43 #[.val (.long kk), .second, .val (.int rr), .val (.long (kk / (101 : Int64))), .second, .val (.long (((rr &&& (2147483647 : Int32)) % (100 : Int32)).toInt64)), .second, .val (.long (((kk / (101 : Int64)) * (100 : Int64)) + (((rr &&& (2147483647 : Int32)) % (100 : Int32)).toInt64))), .second, .unset, .unset] [])) _
        refine XS.iconst X0.here hx rfl (hb hby at_43) ?_
        show Steps p.tables e below (s₁.setTop (mkF m 44 #[.val (.long kk), .second, .val (.int rr), .val (.long (kk / (101 : Int64))), .second, .val (.long (((rr &&& (2147483647 : Int32)) % (100 : Int32)).toInt64)), .second, .val (.long (((kk / (101 : Int64)) * (100 : Int64)) + (((rr &&& (2147483647 : Int32)) % (100 : Int32)).toInt64))), .second, .unset, .unset] [(.int (0 : Int32))])) _
        have qex : ex = (0 : Int32) := by rw [hex]; simp only [if_neg hd29_2, if_neg hd36_3]
        rw [qex] at kt
        exact kt
  refine Go.step st1 ?_
  show Go _ _ _ _ _ _ _ (s₁.setTop (mkF m 44 #[.val (.long kk), .second, .val (.int rr), .val (.long (kk / (101 : Int64))), .second, .val (.long (((rr &&& (2147483647 : Int32)) % (100 : Int32)).toInt64)), .second, .val (.long (((kk / (101 : Int64)) * (100 : Int64)) + (((rr &&& (2147483647 : Int32)) % (100 : Int32)).toInt64))), .second, .unset, .unset] [(.int ex)]))
  refine Go.step (fun t k => XS.istore X0.here hx rfl (hb hby at_44) rfl (l' := #[.val (.long kk), .second, .val (.int rr), .val (.long (kk / (101 : Int64))), .second, .val (.long (((rr &&& (2147483647 : Int32)) % (100 : Int32)).toInt64)), .second, .val (.long (((kk / (101 : Int64)) * (100 : Int64)) + (((rr &&& (2147483647 : Int32)) % (100 : Int32)).toInt64))), .second, .val (.int ex), .unset]) rfl k) ?_
  show Go _ _ _ _ _ _ _ (s₁.setTop (mkF m 46 #[.val (.long kk), .second, .val (.int rr), .val (.long (kk / (101 : Int64))), .second, .val (.long (((rr &&& (2147483647 : Int32)) % (100 : Int32)).toInt64)), .second, .val (.long (((kk / (101 : Int64)) * (100 : Int64)) + (((rr &&& (2147483647 : Int32)) % (100 : Int32)).toInt64))), .second, .val (.int ex), .unset] []))
  obtain ⟨T4, h4, X4, e4, E4, A4, D4, -, st4⟩ := newO X0 hx hZ hown (hw _ (List.mem_of_getElem? (i := 3) rfl)) (hw _ (List.mem_of_getElem? (i := 4) rfl)) (hw _ (List.mem_of_getElem? (i := 5) rfl)) e0 (g := (mkF m 46 #[.val (.long kk), .second, .val (.int rr), .val (.long (kk / (101 : Int64))), .second, .val (.long (((rr &&& (2147483647 : Int32)) % (100 : Int32)).toInt64)), .second, .val (.long (((kk / (101 : Int64)) * (100 : Int64)) + (((rr &&& (2147483647 : Int32)) % (100 : Int32)).toInt64))), .second, .val (.int ex), .unset] [])) rfl (hb hby at_46) (by decide) (by decide)
  obtain ⟨b4, gz4⟩ : ∃ z, z = h0.size := ⟨_, rfl⟩
  have g_b4 : n0 ≤ b4 := Nat.le_trans Z0 (Nat.le_of_eq gz4.symm)
  rw [← gz4] at A4 D4 st4
  have Z4 := Nat.le_trans Z0 E4.1
  have E_b4 := A4
  have F_displayQuantity_b4 : Fld Z h4 b4 "com/example/matchstone/matchstone/Reserve" "displayQuantity" "J" (.long (0 : Int64)) := D4 (Or.inr (hw _ (List.mem_of_getElem? (i := 18) rfl))) (ty := .long) (by decide)
  refine Go.step st4 ?_
  show Go _ _ _ _ _ _ _ (T4.setTop (mkF m 49 #[.val (.long kk), .second, .val (.int rr), .val (.long (kk / (101 : Int64))), .second, .val (.long (((rr &&& (2147483647 : Int32)) % (100 : Int32)).toInt64)), .second, .val (.long (((kk / (101 : Int64)) * (100 : Int64)) + (((rr &&& (2147483647 : Int32)) % (100 : Int32)).toInt64))), .second, .val (.int ex), .unset] [(.ref b4)]))
  refine Go.step (fun t k => XS.dup X4.here hx rfl (hb hby at_49) rfl rfl k) ?_
  show Go _ _ _ _ _ _ _ (T4.setTop (mkF m 50 #[.val (.long kk), .second, .val (.int rr), .val (.long (kk / (101 : Int64))), .second, .val (.long (((rr &&& (2147483647 : Int32)) % (100 : Int32)).toInt64)), .second, .val (.long (((kk / (101 : Int64)) * (100 : Int64)) + (((rr &&& (2147483647 : Int32)) % (100 : Int32)).toInt64))), .second, .val (.int ex), .unset] [(.ref b4), (.ref b4)]))
  refine Go.step (fun t k => XS.lload X4.here hx rfl (hb hby at_50) rfl k) ?_
  show Go _ _ _ _ _ _ _ (T4.setTop (mkF m 52 #[.val (.long kk), .second, .val (.int rr), .val (.long (kk / (101 : Int64))), .second, .val (.long (((rr &&& (2147483647 : Int32)) % (100 : Int32)).toInt64)), .second, .val (.long (((kk / (101 : Int64)) * (100 : Int64)) + (((rr &&& (2147483647 : Int32)) % (100 : Int32)).toInt64))), .second, .val (.int ex), .unset] [(.long (((kk / (101 : Int64)) * (100 : Int64)) + (((rr &&& (2147483647 : Int32)) % (100 : Int32)).toInt64))), (.ref b4), (.ref b4)]))
  obtain ⟨_, _, ⟨T5, L5, k5, n5⟩, -, X5, ⟨Lc5, hQ5, l5, y5, z5⟩, st5⟩ := X4.specialBack hx (y := (⟨"com/example/matchstone/matchstone/Reserve", "<init>", "(J)V"⟩ : MethodName)) rfl hown (mvT hZ (hw _ (List.mem_of_getElem? (i := 6) rfl))) (mvT hZ (hw _ (List.mem_of_getElem? (i := 7) rfl))) (mvT hZ (hw _ (List.mem_of_getElem? (i := 8) rfl))) (by decide) (backOf (W := 1) (rm1 l Z a0 hw [] b4 (((kk / (101 : Int64)) * (100 : Int64)) + (((rr &&& (2147483647 : Int32)) % (100 : Int32)).toInt64)) h4 n0 Z4 F_displayQuantity_b4 E_b4 g_b4) hZ (hw _ (List.mem_of_getElem? (i := 8) rfl)) (hw _ (List.mem_of_getElem? (i := 5) rfl)) (by decide) (by decide)) (g := (mkF m 52 #[.val (.long kk), .second, .val (.int rr), .val (.long (kk / (101 : Int64))), .second, .val (.long (((rr &&& (2147483647 : Int32)) % (100 : Int32)).toInt64)), .second, .val (.long (((kk / (101 : Int64)) * (100 : Int64)) + (((rr &&& (2147483647 : Int32)) % (100 : Int32)).toInt64))), .second, .val (.int ex), .unset] [(.long (((kk / (101 : Int64)) * (100 : Int64)) + (((rr &&& (2147483647 : Int32)) % (100 : Int32)).toInt64))), (.ref b4), (.ref b4)])) rfl (by rw [hml]; rfl) (Steps.refl _) (a := b4) (argsL := [(.long (((kk / (101 : Int64)) * (100 : Int64)) + (((rr &&& (2147483647 : Int32)) % (100 : Int32)).toInt64)))]) (rest := [(.ref b4)]) (lenOf pd_0_0 rfl) rfl (by show 2 * 0 + _ ≤ _; exact Nat.le_of_eq rfl) (hb hby at_52) (fun _ _ => ⟨rfl, e4, (by decide : 1 + 0 ≤ _), (by decide : 1 + 0 ≤ _)⟩)
  dsimp only [Pt.U, Pt.locs, Pt.cells, Pt.slots] at X5 l5 y5 z5 st5 hQ5
  subst l5 y5 z5
  obtain ⟨rfl, N5q, K5q, o5_F_displayQuantity_b4⟩ := hQ5
  have N5 := Fr.app N0 N5q
  replace E_b4 := E_b4.keep K5q
  have Z5 := Nat.le_trans Z4 K5q.1
  have F_displayQuantity_b4 := o5_F_displayQuantity_b4
  refine Go.step (fun t k => st5.trans k) ?_
  show Go _ _ _ _ _ _ _ (T5.setTop (mkF m 55 #[.val (.long kk), .second, .val (.int rr), .val (.long (kk / (101 : Int64))), .second, .val (.long (((rr &&& (2147483647 : Int32)) % (100 : Int32)).toInt64)), .second, .val (.long (((kk / (101 : Int64)) * (100 : Int64)) + (((rr &&& (2147483647 : Int32)) % (100 : Int32)).toInt64))), .second, .val (.int ex), .unset] [(.ref b4)]))
  refine Go.step (fun t k => XS.astore X5.here hx rfl (hb hby at_55) rfl rfl (l' := #[.val (.long kk), .second, .val (.int rr), .val (.long (kk / (101 : Int64))), .second, .val (.long (((rr &&& (2147483647 : Int32)) % (100 : Int32)).toInt64)), .second, .val (.long (((kk / (101 : Int64)) * (100 : Int64)) + (((rr &&& (2147483647 : Int32)) % (100 : Int32)).toInt64))), .second, .val (.int ex), .val (.ref b4)]) rfl k) ?_
  show Go _ _ _ _ _ _ _ (T5.setTop (mkF m 57 #[.val (.long kk), .second, .val (.int rr), .val (.long (kk / (101 : Int64))), .second, .val (.long (((rr &&& (2147483647 : Int32)) % (100 : Int32)).toInt64)), .second, .val (.long (((kk / (101 : Int64)) * (100 : Int64)) + (((rr &&& (2147483647 : Int32)) % (100 : Int32)).toInt64))), .second, .val (.int ex), .val (.ref b4)] []))
  refine Go.step (fun t k => XS.aload X5.here hx rfl (hb hby at_57) rfl rfl k) ?_
  show Go _ _ _ _ _ _ _ (T5.setTop (mkF m 59 #[.val (.long kk), .second, .val (.int rr), .val (.long (kk / (101 : Int64))), .second, .val (.long (((rr &&& (2147483647 : Int32)) % (100 : Int32)).toInt64)), .second, .val (.long (((kk / (101 : Int64)) * (100 : Int64)) + (((rr &&& (2147483647 : Int32)) % (100 : Int32)).toInt64))), .second, .val (.int ex), .val (.ref b4)] [(.ref b4)]))
  obtain ⟨cq6, kq6, q6a, q6b, q6c⟩ := isOf hZ rfl E_b4
  obtain ⟨_, _, ⟨T6, L6, k6, n6⟩, -, X6, ⟨Lc6, hQ6, l6, y6, z6⟩, st6⟩ := X5.virtualBack hx (y := (⟨"com/example/matchstone/matchstone/Reserve", "displaysRoundLots", "()Z"⟩ : MethodName)) (z := (⟨"com/example/matchstone/matchstone/Reserve", "displaysRoundLots", "()Z"⟩ : MethodName)) hown (mvT hZ (hw _ (List.mem_of_getElem? (i := 19) rfl))) (mvT hZ (hw _ (List.mem_of_getElem? (i := 20) rfl))) (notFace_of_selects (args := #[]) (mvT hZ (hw _ (List.mem_of_getElem? (i := 22) rfl)))) (mvT hZ (hw _ (List.mem_of_getElem? (i := 22) rfl))) (mvT hZ (hw _ (List.mem_of_getElem? (i := 21) rfl))) (by decide) (backOf (W := 0) (rm4 l Z a0 hw [] b4 (((kk / (101 : Int64)) * (100 : Int64)) + (((rr &&& (2147483647 : Int32)) % (100 : Int32)).toInt64)) T5.heap n0 Z5 F_displayQuantity_b4) hZ (hw _ (List.mem_of_getElem? (i := 23) rfl)) (hw _ (List.mem_of_getElem? (i := 5) rfl)) (by decide) (by decide)) q6a q6c (g := (mkF m 59 #[.val (.long kk), .second, .val (.int rr), .val (.long (kk / (101 : Int64))), .second, .val (.long (((rr &&& (2147483647 : Int32)) % (100 : Int32)).toInt64)), .second, .val (.long (((kk / (101 : Int64)) * (100 : Int64)) + (((rr &&& (2147483647 : Int32)) % (100 : Int32)).toInt64))), .second, .val (.int ex), .val (.ref b4)] [(.ref b4)])) rfl (by rw [hml]; rfl) (Steps.refl _) (argsL := []) (rest := []) (lenOf pd_0_1 rfl) rfl (by show 2 * 0 + _ ≤ _; exact Nat.le_of_eq rfl) (hb hby at_59) (fun _ _ => ⟨rfl, rfl, (by decide : 1 + 0 ≤ _), (by decide : 1 + 0 ≤ _)⟩)
  dsimp only [Pt.U, Pt.locs, Pt.cells, Pt.slots] at X6 l6 y6 z6 st6 hQ6
  subst l6 y6 z6
  obtain ⟨z_6, rfl, N6q, K6q, o6_hz⟩ := hQ6
  have N6 := Fr.app N5 N6q
  refine Go.step (fun t k => st6.trans k) ?_
  show Go _ _ _ _ _ _ _ (T6.setTop (mkF m 62 #[.val (.long kk), .second, .val (.int rr), .val (.long (kk / (101 : Int64))), .second, .val (.long (((rr &&& (2147483647 : Int32)) % (100 : Int32)).toInt64)), .second, .val (.long (((kk / (101 : Int64)) * (100 : Int64)) + (((rr &&& (2147483647 : Int32)) % (100 : Int32)).toInt64))), .second, .val (.int ex), .val (.ref b4)] [(.int z_6)]))
  refine Go.step (fun t k => XS.iload X6.here hx rfl (hb hby at_62) rfl k) ?_
  show Go _ _ _ _ _ _ _ (T6.setTop (mkF m 64 #[.val (.long kk), .second, .val (.int rr), .val (.long (kk / (101 : Int64))), .second, .val (.long (((rr &&& (2147483647 : Int32)) % (100 : Int32)).toInt64)), .second, .val (.long (((kk / (101 : Int64)) * (100 : Int64)) + (((rr &&& (2147483647 : Int32)) % (100 : Int32)).toInt64))), .second, .val (.int ex), .val (.ref b4)] [(.int ex), (.int z_6)]))
  refine Go.step (fun t k => XS.icmpNo X6.here hx rfl (hb hby at_64) rfl (teq (own_same o6_hz hex (own_fin kk rr) : z_6 = ex)).2 k) ?_
  show Go _ _ _ _ _ _ _ (T6.setTop (mkF m 67 #[.val (.long kk), .second, .val (.int rr), .val (.long (kk / (101 : Int64))), .second, .val (.long (((rr &&& (2147483647 : Int32)) % (100 : Int32)).toInt64)), .second, .val (.long (((kk / (101 : Int64)) * (100 : Int64)) + (((rr &&& (2147483647 : Int32)) % (100 : Int32)).toInt64))), .second, .val (.int ex), .val (.ref b4)] []))
  refine Go.step (fun t k => XS.iconst X6.here hx rfl (hb hby at_67) k) ?_
  show Go _ _ _ _ _ _ _ (T6.setTop (mkF m 68 #[.val (.long kk), .second, .val (.int rr), .val (.long (kk / (101 : Int64))), .second, .val (.long (((rr &&& (2147483647 : Int32)) % (100 : Int32)).toInt64)), .second, .val (.long (((kk / (101 : Int64)) * (100 : Int64)) + (((rr &&& (2147483647 : Int32)) % (100 : Int32)).toInt64))), .second, .val (.int ex), .val (.ref b4)] [(.int (1 : Int32))]))
  refine Go.step (fun t k => XS.goto X6.here hx rfl (pc0 := 68) (pc' := 72) rfl (hb hby at_68) (by decide) (by decide) k) ?_
  show Go _ _ _ _ _ _ _ (T6.setTop (mkF m 72 #[.val (.long kk), .second, .val (.int rr), .val (.long (kk / (101 : Int64))), .second, .val (.long (((rr &&& (2147483647 : Int32)) % (100 : Int32)).toInt64)), .second, .val (.long (((kk / (101 : Int64)) * (100 : Int64)) + (((rr &&& (2147483647 : Int32)) % (100 : Int32)).toInt64))), .second, .val (.int ex), .val (.ref b4)] [(.int (1 : Int32))]))
  refine Go.retN X6 Bd.notSynchronized hx (t := .boolean) Bd.returns (by simp) (hb hby at_72) (by decide) (by decide) (1 : Int32) rfl ?_
  rw [K6q]
  exact ⟨rfl, N6⟩
set_option maxRecDepth 65536 in
set_option maxHeartbeats 40000000 in
theorem comes_1 {Post : Tables → Env → Array Value → State → Outcome → State → Prop} (hpost : ∀ tb e args s v u, (limb_1_1.after args s (.returned v) u = true ∧ limb_1_2.after args s (.returned v) u = true ∧ True) → FrameEnd s (.returned v) u (Jvm.fieldLocs frame_1_writes args s ++ Jvm.arrayLocs frame_1_arrays args s ++ Jvm.staticLocs frame_1_statics s) 16 128 → Post tb e args s (.returned v) u) :
    ArmFor flags0 classFile x code maxLocals ret World_1 tables_1 room_1 Calls_1 rest_1 Pre_1 Post := by
  intro l hfl _ _ p e ha hc hk s m args below hf hA hF happ hP
  obtain ⟨hcalls, hrest, hpre⟩ := hP
  obtain ⟨-, -, -, hnamed, -, -, -, hat⟩ := (Spec.applies_iff hf).mp happ
  obtain ⟨hg, hn⟩ := and_e (Cond.before_iff.mp (show (Jvm.Cond.and given_1 narrow_1).before args s = true from hpre))
  obtain ⟨gv1, gv2⟩ := and_e hg
  obtain ⟨gv3, gv4⟩ := and_e gv2
  obtain ⟨w0, w1, rfl⟩ : ∃ w0 w1 : Value, args = #[w0, w1] := by
    have hs : args.size = 2 := by simpa [Cond.value, given_1] using gv1
    obtain ⟨L⟩ := args
    match L, hs with
    | [w0, w1], _ => exact ⟨w0, w1, rfl⟩
  have hw := fun d (hd : d ∈ tables_1) => atoms_spec (ws := Jvm.Cond.code x code maxLocals ret :: tables_1) hat d (List.mem_cons_of_mem _ hd)
  have hfit : Fit s := fun {y c} hc i hi => by
    obtain ⟨ha, rfl⟩ := Array.getElem?_eq_some_iff.mp hc
    have q := List.all_eq_true.mp ((Array.all_eq_true_iff_forall_mem.mp hF) _ (Array.getElem_mem ha)) i (List.mem_range.mpr hi)
    simpa [Array.getElem?_eq_getElem hi] using q
  obtain ⟨i0, ei0⟩ := isL_v gv3
  obtain rfl : w0 = (.long i0) := Option.some.inj ei0
  obtain ⟨i1, ei1⟩ := is_v gv4
  obtain rfl : w1 = (.int i1) := Option.some.inj ei1
  obtain ⟨n, o, h1, h2, h3, _, L, rfl, ⟨rfl, N⟩, hq⟩ := rm0 l s _ hw tables_1 i0 i1 s.heap s.heap.size (Nat.le_refl _) p e ha hc hk s m _ below hf ((Spec.applies_iff_loose hf).mp happ).1 ⟨rfl, State.Warmed39.refl s, rfl⟩ trivial
  refine ⟨n, _, h1, h2, h3, hpost _ _ _ _ _ _ ⟨Cond.after_iff.mpr rfl, Cond.after_iff.mpr (eq_i res_at (Term.int_eval (1)) rfl), trivial⟩ ⟨hq.1, hq.2.1, (hq.2.2.sift fun y hy => Or.inr (N y hy)).mono (by decide) (by decide)⟩⟩
theorem main_1_1 : Claimed_1_1 := comes_1 fun _ _ _ _ _ _ h hF => ⟨h.1, hF⟩
theorem main_1_2 : Claimed_1_2 := comes_1 fun _ _ _ _ _ _ h hF => ⟨h.2.1, hF⟩
end Jvm.Pilot.@@N@@
namespace Jvm.Pilot.@@N@@
open Jvm Jvm.ClassFile Sem Op Lib Jvm.Free Jvm.Stand Jvm.Pilot.@@N@@.Jvm.D
/-! MADE BY PROGRAM (witnessworld.py) out of the Statement's table words and the real class files: 10 classes; the members and pool entries that the words name. The judged class is class 1, her method 1. -/
namespace start1
open Jvm.ClassFile
def u (s : String) : CpInfo := .utf8 (stringToUtf16 s)
/-- a pool by its gaps: so many unusable entries, then the entry; so many at the end -/
def gap : Nat → List CpInfo → List CpInfo
  | 0, r => r
  | n + 1, r => .unusable :: gap n r
def poolList (es : List (Nat × CpInfo)) (last : Nat) : List CpInfo := es.foldr (fun e r => gap e.1 (e.2 :: r)) (gap last [])
def pool (es : List (Nat × CpInfo)) (last : Nat) : Array CpInfo := ⟨poolList es last⟩
def fileOf (pool : Array CpInfo) (this : Nat) (attrs : Array Attribute := #[]) (ms : Array MethodInfo := #[]) (fl : Nat := 33) (sup : Nat := 0) (ifs : Array Nat := #[]) (fds : Array FieldInfo := #[]) : ClassFile where
  minorVersion := 0
  majorVersion := 65
  constantPool := pool
  accessFlags := fl
  thisClass := this
  superClass := sup
  interfaces := ifs
  fields := fds
  methods := ms
  attributes := attrs
def plain (name : String) (sup : Option ClassId) : Class where
  name := name
  kind := .ordinary
  loader := none
  accessFlags := 33
  super := sup
  interfaces := #[]
  cf := none
  fields := #[]
  methods := #[]
  instanceTypes := #[]
  staticTypes := #[]
  resolved := #[]
  callSites := []
  init := .initialized
  statics := none
  mirror := none

def pool0 : Array CpInfo := pool [(5, u "<init>"), (0, u "()V"), (1, .class_ 10), (1, u "java/lang/Object")] 113

def k0c0 : Code := { maxStack := 0, maxLocals := 1, code := object_method_1_code, exceptionTable := #[], attributes := #[] }
def k0m0 : Method := { name := "<init>", desc := "()V", sig := { parameters := [], returnType := none }, accessFlags := 1, code := some k0c0 }
/-- java/lang/Object -/
def k0 : Class := { plain "java/lang/Object" none with
  accessFlags := 33
  interfaces := #[]
  cf := some (fileOf pool0 8 #[] #[{ accessFlags := 1, nameIndex := 5, descriptorIndex := 6, attributes := #[] }] 33 0 #[] #[])
  fields := #[]
  methods := #[k0m0]
  instanceTypes := #[]
  staticTypes := #[]
  resolved := Array.replicate 124 none
  statics := none }

def pool1 : Array CpInfo := pool [(2, .class_ 4), (1, u "java/lang/Object"), (0, u "<init>"), (0, u "()V"), (0, .long 101), (1, .integer 2147483647), (0, .long 100), (1, .class_ 13), (0, u "com/example/matchstone/matchstone/Reserve"), (0, .methodref 12 15), (0, .nameAndType 5 16), (0, u "(J)V"), (0, .methodref 12 18), (0, .nameAndType 19 20), (0, u "displaysRoundLots"), (0, u "()Z"), (0, .class_ 22), (0, u "com/example/matchstone/matchstone/ReserveDisplaysRoundLotsPinLaw"), (2, u "law"), (0, u "(JI)Z")] 3

def k1m0 : Method := { name := "<init>", desc := "()V", sig := { parameters := [], returnType := none }, accessFlags := 1, code := none }
def k1c1 : Code := { maxStack := 4, maxLocals := 11, code := code, exceptionTable := #[], attributes := #[] }
def k1m1 : Method := { name := "law", desc := "(JI)Z", sig := { parameters := [.long, .int], returnType := some .boolean }, accessFlags := 9, code := some k1c1 }
/-- com/example/matchstone/matchstone/ReserveDisplaysRoundLotsPinLaw -/
def k1 : Class := { plain "com/example/matchstone/matchstone/ReserveDisplaysRoundLotsPinLaw" (some 0) with
  accessFlags := 49
  interfaces := #[]
  cf := some (fileOf pool1 21 #[] #[{ accessFlags := 1, nameIndex := 5, descriptorIndex := 6, attributes := #[] }, { accessFlags := 9, nameIndex := 25, descriptorIndex := 26, attributes := #[] }] 49 2 #[] #[])
  fields := #[]
  methods := #[k1m0, k1m1]
  instanceTypes := #[]
  staticTypes := #[]
  resolved := Array.replicate 30 none
  statics := none }

def pool2 : Array CpInfo := pool [(1, .methodref 2 3), (0, .class_ 4), (0, .nameAndType 5 6), (0, u "java/lang/Object"), (0, u "<init>"), (0, u "()V"), (0, .class_ 8), (0, u "java/lang/Record")] 13

def k2c0 : Code := { maxStack := 1, maxLocals := 1, code := jdk_30_method_1_code, exceptionTable := #[], attributes := #[] }
def k2m0 : Method := { name := "<init>", desc := "()V", sig := { parameters := [], returnType := none }, accessFlags := 4, code := some k2c0 }
/-- java/lang/Record -/
def k2 : Class := { plain "java/lang/Record" (some 0) with
  accessFlags := 1057
  interfaces := #[]
  cf := some (fileOf pool2 7 #[] #[{ accessFlags := 4, nameIndex := 5, descriptorIndex := 6, attributes := #[] }] 1057 2 #[] #[])
  fields := #[]
  methods := #[k2m0]
  instanceTypes := #[]
  staticTypes := #[]
  resolved := Array.replicate 22 none
  statics := none }

def pool3 : Array CpInfo := pool [(1, .methodref 2 3), (0, .class_ 4), (0, .nameAndType 5 6), (0, u "java/lang/Record"), (0, u "<init>"), (0, u "()V"), (0, .fieldref 8 9), (0, .class_ 10), (0, .nameAndType 11 12), (0, u "com/example/matchstone/matchstone/Reserve"), (0, u "displayQuantity"), (0, u "J"), (0, .long 100), (19, u "ROUND_LOT"), (1, u "(J)V"), (3, u "displaysRoundLots"), (0, u "()Z")] 26

def k3c0 : Code := { maxStack := 3, maxLocals := 3, code := prog_49_method_1_code, exceptionTable := #[], attributes := #[] }
def k3m0 : Method := { name := "<init>", desc := "(J)V", sig := { parameters := [.long], returnType := none }, accessFlags := 1, code := some k3c0 }
def k3c1 : Code := { maxStack := 4, maxLocals := 1, code := prog_49_method_2_code, exceptionTable := #[], attributes := #[] }
def k3m1 : Method := { name := "displaysRoundLots", desc := "()Z", sig := { parameters := [], returnType := some .boolean }, accessFlags := 0, code := some k3c1 }
/-- com/example/matchstone/matchstone/Reserve -/
def k3 : Class := { plain "com/example/matchstone/matchstone/Reserve" (some 2) with
  accessFlags := 49
  interfaces := #[]
  cf := some (fileOf pool3 8 #[] #[{ accessFlags := 1, nameIndex := 5, descriptorIndex := 35, attributes := #[] }, { accessFlags := 0, nameIndex := 39, descriptorIndex := 40, attributes := #[] }] 49 2 #[] #[{ accessFlags := 18, nameIndex := 11, descriptorIndex := 12, attributes := #[] }, { accessFlags := 25, nameIndex := 33, descriptorIndex := 12, attributes := #[] }])
  fields := #[{ name := "displayQuantity", type := .long, accessFlags := 18, slot := 0, constantValue := 0 }, { name := "ROUND_LOT", type := .long, accessFlags := 25, slot := 0, constantValue := 0 }]
  methods := #[k3m0, k3m1]
  instanceTypes := #[.long]
  staticTypes := #[.long]
  resolved := Array.replicate 67 none
  statics := none }

def pool4 : Array CpInfo := pool [(1, u "java/lang/Cloneable"), (0, .class_ 1), (0, u "java/lang/Object"), (0, .class_ 3)] 3

/-- java/lang/Cloneable -/
def k4 : Class := { plain "java/lang/Cloneable" (some 0) with
  accessFlags := 1537
  interfaces := #[]
  cf := some (fileOf pool4 2 #[] #[] 1537 4 #[] #[])
  fields := #[]
  methods := #[]
  instanceTypes := #[]
  staticTypes := #[]
  resolved := Array.replicate 8 none
  statics := none }

def pool5 : Array CpInfo := pool [(1, u "java/io/Serializable"), (0, .class_ 1), (0, u "java/lang/Object"), (0, .class_ 3)] 3

/-- java/io/Serializable -/
def k5 : Class := { plain "java/io/Serializable" (some 0) with
  accessFlags := 1537
  interfaces := #[]
  cf := some (fileOf pool5 2 #[] #[] 1537 4 #[] #[])
  fields := #[]
  methods := #[]
  instanceTypes := #[]
  staticTypes := #[]
  resolved := Array.replicate 8 none
  statics := none }

/-- the primitive byte -/
def k6 : Class := { plain "byte" none with kind := .primitive 'B', accessFlags := 0x411 }
/-- [B -/
def k7 : Class := { plain "[B" (some 0) with kind := .array 6 .byte, interfaces := #[4, 5], accessFlags := 1041 }

/-- the primitive int -/
def k8 : Class := { plain "int" none with kind := .primitive 'I', accessFlags := 0x411 }
/-- [I -/
def k9 : Class := { plain "[I" (some 0) with kind := .array 8 .int, interfaces := #[4, 5], accessFlags := 1041 }

def heap : Heap := #[]
def classes : Array Class := #[k0, k1, k2, k3, k4, k5, k6, k7, k8, k9]
def interned : List (Array UInt16 × Addr) := []
def slotsUsed : Nat := 0
def theMethod : MethodId := ⟨1, 1⟩
def args0 : Array Value := #[.long 505, .int 7]
def aboutOver (below : List Frame) : State where
  vm := { classes := classes, interned := interned.toArray }
  heap := heap
  slotsUsed := slotsUsed
  threads := #[{ frames := .invoking theMethod args0 :: below }]
def below0 : List Frame := [.native { method := ⟨0, 0⟩, args := #[] }]
def about1 : State := aboutOver below0
def p0 : Program := .bare "" "" ""
def e0 : Env := launch0.env 0 0 0
theorem w_frames : about1.frames = Frame.invoking theMethod args0 :: below0 := rfl
set_option maxRecDepth 65536 in
theorem w_args : argsFit about1.vm theMethod args0 = true := by decide +kernel
set_option maxRecDepth 65536 in
theorem w_heap : heapFits about1 = true := by decide +kernel
set_option maxRecDepth 65536 in
theorem w_runnable : about1.curStatus? = some .runnable := by decide +kernel
set_option maxRecDepth 65536 in
theorem w_alone : about1.alone = true := by decide +kernel
set_option maxRecDepth 65536 in
theorem w_named : about1.methodNamed? x = some theMethod := by decide +kernel
set_option maxRecDepth 65536 in
theorem w_hears : about1.hears theMethod below0 = true := by decide +kernel
set_option maxRecDepth 65536 in
theorem w_ripe : about1.ripe theMethod args0 below0 = true := by decide +kernel
theorem w_running : about1.status = .running := rfl
set_option maxRecDepth 65536 in
theorem w_room : about1.hasRoom e0.platform room_1 = true :=
  launch0.hasRoom_least _ room_1 (by decide +kernel) (by decide +kernel) (by decide +kernel) (by decide +kernel) (by decide +kernel) (by decide +kernel)
theorem allAtoms_all (ts : List Jvm.Cond) (a : Array Jvm.Value) (st : Jvm.State) : (allAtoms ts).before a st = ts.all (fun c => c.before a st) := by
  induction ts with
  | nil => rfl
  | cons c t ih =>
    show (Jvm.Cond.and c (allAtoms t)).before a st = _
    rw [Jvm.Cond.before_and, ih, List.all_cons]
def words1 : List Jvm.Cond := Jvm.Cond.code x code maxLocals ret :: tables_1
/-- a 'code' word, met by the world's own term for the bytes: nothing is compared byte by byte -/
theorem code_word {y : MethodName} {bytes : ByteArray} {mx : Nat} {rt : Option FieldType} {a : Array Value} {s : State} {m : MethodId} {meth : Method} {c : Code} (h1 : s.methodNamed? y = some m) (h2 : s.vm.method? m = some meth) (h3 : meth.code = some c) (h4 : c.code = bytes)
    (h5 : (c.maxLocals == mx && c.exceptionTable.isEmpty && decide (c.maxStack ≤ mostOperands) && decide (meth.sig.returnType = rt) && !meth.locks && decide (parseMethodDescriptor y.desc = some meth.sig)) = true) : (Jvm.Cond.code y bytes mx rt).before a s = true := by
  simp only [Bool.and_eq_true, beq_iff_eq, Bool.not_eq_true', decide_eq_true_eq] at h5
  obtain ⟨⟨⟨⟨⟨g1, g2⟩, g3⟩, g4⟩, g5⟩, g6⟩ := h5
  simp [Cond.before, Cond.holds, Cond.value, h1, h2, h3, h4, g1, g2, g3, g4, g5, g6]
def isCode : Jvm.Cond → Bool
  | .code _ _ _ _ => true
  | _ => false
theorem all_split {L : List Jvm.Cond} {P : Jvm.Cond → Bool} (h1 : L.all (fun c => isCode c || P c) = true) (h2 : ∀ c ∈ L.filter isCode, P c = true) : L.all P = true := by
  refine List.all_eq_true.mpr fun c hc => ?_
  have h := List.all_eq_true.mp h1 c hc
  rcases Bool.eq_false_or_eq_true (isCode c) with hi | hi
  · exact h2 c (List.mem_filter.mpr ⟨hc, hi⟩)
  · simpa [hi] using h
set_option maxRecDepth 65536 in
theorem w_c0 : (Jvm.Cond.code x code maxLocals ret).before args0 about1 = true := code_word (m := ⟨1, 1⟩) (meth := k1m1) (c := k1c1) (by decide +kernel) rfl rfl rfl (by decide +kernel)
set_option maxRecDepth 65536 in
theorem w_c1 : (Jvm.Cond.code ({ cls := "com/example/matchstone/matchstone/Reserve", name := "<init>", desc := "(J)V" } : Jvm.MethodName) prog_49_method_1_code (3 : Nat) (Option.none : Option Jvm.ClassFile.FieldType)).before args0 about1 = true := code_word (m := ⟨3, 0⟩) (meth := k3m0) (c := k3c0) (by decide +kernel) rfl rfl rfl (by decide +kernel)
set_option maxRecDepth 65536 in
theorem w_c2 : (Jvm.Cond.code ({ cls := "java/lang/Record", name := "<init>", desc := "()V" } : Jvm.MethodName) jdk_30_method_1_code (1 : Nat) (Option.none : Option Jvm.ClassFile.FieldType)).before args0 about1 = true := code_word (m := ⟨2, 0⟩) (meth := k2m0) (c := k2c0) (by decide +kernel) rfl rfl rfl (by decide +kernel)
set_option maxRecDepth 65536 in
theorem w_c3 : (Jvm.Cond.code ({ cls := "java/lang/Object", name := "<init>", desc := "()V" } : Jvm.MethodName) object_method_1_code (1 : Nat) (Option.none : Option Jvm.ClassFile.FieldType)).before args0 about1 = true := code_word (m := ⟨0, 0⟩) (meth := k0m0) (c := k0c0) (by decide +kernel) rfl rfl rfl (by decide +kernel)
set_option maxRecDepth 65536 in
theorem w_c4 : (Jvm.Cond.code ({ cls := "com/example/matchstone/matchstone/Reserve", name := "displaysRoundLots", desc := "()Z" } : Jvm.MethodName) prog_49_method_2_code (1 : Nat) (Option.some Jvm.ClassFile.FieldType.boolean)).before args0 about1 = true := code_word (m := ⟨3, 1⟩) (meth := k3m1) (c := k3c1) (by decide +kernel) rfl rfl rfl (by decide +kernel)
def codes1 : List Jvm.Cond := [Jvm.Cond.code x code maxLocals ret, Jvm.Cond.code ({ cls := "com/example/matchstone/matchstone/Reserve", name := "<init>", desc := "(J)V" } : Jvm.MethodName) prog_49_method_1_code (3 : Nat) (Option.none : Option Jvm.ClassFile.FieldType), Jvm.Cond.code ({ cls := "java/lang/Record", name := "<init>", desc := "()V" } : Jvm.MethodName) jdk_30_method_1_code (1 : Nat) (Option.none : Option Jvm.ClassFile.FieldType), Jvm.Cond.code ({ cls := "java/lang/Object", name := "<init>", desc := "()V" } : Jvm.MethodName) object_method_1_code (1 : Nat) (Option.none : Option Jvm.ClassFile.FieldType), Jvm.Cond.code ({ cls := "com/example/matchstone/matchstone/Reserve", name := "displaysRoundLots", desc := "()Z" } : Jvm.MethodName) prog_49_method_2_code (1 : Nat) (Option.some Jvm.ClassFile.FieldType.boolean)]
set_option maxRecDepth 65536 in
theorem codes_eq : words1.filter isCode = codes1 := rfl
theorem w_codes : ∀ c ∈ words1.filter isCode, c.before args0 about1 = true := by
  rw [codes_eq]
  intro c hc
  simp only [codes1, List.mem_cons, List.not_mem_nil, or_false] at hc
  rcases hc with rfl | rfl | rfl | rfl | rfl
  · exact w_c0
  · exact w_c1
  · exact w_c2
  · exact w_c3
  · exact w_c4
set_option maxRecDepth 65536 in
theorem w_t1 : (words1.take 24).all (fun c => isCode c || c.before args0 about1) = true := by decide +kernel
set_option maxRecDepth 65536 in
theorem w_t2 : (words1.drop 24).all (fun c => isCode c || c.before args0 about1) = true := by decide +kernel
theorem w_tables : (allAtoms (Jvm.Cond.code x code maxLocals ret :: tables_1)).before args0 about1 = true := by
  rw [allAtoms_all]
  show words1.all (fun c => c.before args0 about1) = true
  refine all_split ?_ w_codes
  rw [← List.take_append_drop 24 words1, List.all_append, w_t1, w_t2]
  rfl
set_option maxRecDepth 65536 in
theorem w_case : (Jvm.Cond.and given_1 narrow_1).before args0 about1 = true := by decide +kernel
theorem w_applies : (headSpec (Jvm.Cond.code x code maxLocals ret :: tables_1) room_1).applies x e0.platform about1 = true :=
  (Spec.applies_iff w_frames).mpr ⟨w_running, w_runnable, w_alone, w_named, w_hears, w_ripe, w_room, w_tables⟩
theorem atStart : AtStart classFile x code maxLocals ret World_1 tables_1 room_1 Calls_1 rest_1 Pre_1 launch0 p0 e0 about1 theMethod args0 below0 :=
  ⟨lists_1, trivial, launch0.admits_env _ _ _, launch0.least_env, fairChoices_fair.cas, fairChoices_fair.clock, w_frames, w_args, w_heap, w_applies, trivial, trivial, w_case⟩
end start1
theorem witness_1 : WitnessClaimed_1 := ⟨start1.p0, start1.e0, start1.about1, start1.theMethod, start1.args0, start1.below0, start1.atStart⟩
end Jvm.Pilot.@@N@@
