import JvmDerived
import JvmDerived.Pilot.@@N@@Statement
import JvmDerived.Pilot.@@N@@Code
set_option linter.unusedVariables false
set_option linter.unusedSimpArgs false
namespace Jvm.Pilot.@@N@@
open Jvm Jvm.ClassFile Sem Op Lib Jvm.Free Jvm.Stand Jvm.LawKit Jvm.RoadKit Bundle Jvm.Pilot.@@N@@.Jvm.D
section Own
variable {p : Program} {l : Launch} {e : Env} {R : Room} {s : State} {m : MethodId} {args : Array Value} {below : List Frame} {meth : Method} {c : Code} {T : State} {locs : List Loc} {cells slots : Nat} {Z : State} {h h' : Heap} {a b : Addr}
/-- from the state σ the run comes to a return that meets Qk -/
def Go (p : Program) (e : Env) (below : List Frame) (s : State) (Qk : Option Value → Heap → List Loc → Prop) (C S : Nat) (σ : State) : Prop :=
  ∃ s₂ o, Steps p.tables e below σ s₂ ∧ s₂.status = .running ∧ Ended s₂ below o ∧ ∃ v L, o = .returned v ∧ Qk v s₂.heap L ∧ FrameEnd s o s₂ L C S
variable {Qk : Option Value → Heap → List Loc → Prop} {C S : Nat}
theorem Go.step {σ σ' : State} (hs : ∀ t, Steps p.tables e below σ' t → Steps p.tables e below σ t) (k : Go p e below s Qk C S σ') : Go p e below s Qk C S σ := by
  obtain ⟨s₂, o, h1, r⟩ := k
  exact ⟨s₂, o, hs _ h1, r⟩
theorem Go.retV (X : Stand p l e R s m args below meth c T locs cells slots) (hlk : meth.locks = false) (hx : p.tables.exec = Jvm.exec) {pc : Nat} {Ls : Array Slot} (hret : meth.sig.returnType = none) (hd : decode c.code pc = .ok (.return_, 1)) (hc : cells ≤ C) (hs : slots ≤ S) (hQ : Qk none T.heap locs) :
    Go p e below s Qk C S (T.setTop (mkF m pc Ls [])) := by
  obtain ⟨fs, hr, hrun, hended, hW, hsame⟩ := X.leave (v := none) (fun _ => rfl) hlk
  exact ⟨_, _, X.returnOut hx hret hd hr, hrun, hended, _, _, rfl, hQ, ⟨_, rfl⟩, hW, hsame.mono hc hs⟩
theorem Go.retW (X : Stand p l e R s m args below meth c T locs cells slots) (hlk : meth.locks = false) (hx : p.tables.exec = Jvm.exec) {pc : Nat} {Ls : Array Slot} {w : Value} {t : FieldType} {i : Instr} {rest : List Value} (hret : meth.sig.returnType = some t) (hn : narrow t w = w)
    (hi : (i = .ireturn ∧ (t = .int ∨ t = .boolean ∨ t = .byte ∨ t = .char ∨ t = .short) ∧ ∃ z, w = .int z) ∨ (i = .lreturn ∧ t = .long ∧ ∃ z, w = .long z) ∨ (i = .dreturn ∧ t = .double ∧ ∃ z, w = .double z) ∨ (i = .freturn ∧ t = .float ∧ ∃ z, w = .float z) ∨ (i = .areturn ∧ t.isReference = true ∧ w.isRef = true))
    (hd : decode c.code pc = .ok (i, 1)) (hc : cells ≤ C) (hs : slots ≤ S) (hQ : Qk (some w) T.heap locs) :
    Go p e below s Qk C S (T.setTop (mkF m pc Ls (w :: rest))) := by
  obtain ⟨fs, hr, hrun, hended, hW, hsame⟩ := X.leave (v := some w) (fun q => by rw [hret] at q; cases q) hlk
  exact ⟨_, _, retOut X hx hret hn hi hd hr, hrun, hended, _, _, rfl, hQ, ⟨_, rfl⟩, hW, hsame.mono hc hs⟩
theorem Go.retI (X : Stand p l e R s m args below meth c T locs cells slots) (hlk : meth.locks = false) (hx : p.tables.exec = Jvm.exec) {pc : Nat} {Ls : Array Slot} {z : Int32} {rest : List Value} (hret : meth.sig.returnType = some .int) (hd : decode c.code pc = .ok (.ireturn, 1)) (hc : cells ≤ C) (hs : slots ≤ S) (hQ : Qk (some (.int z)) T.heap locs) :
    Go p e below s Qk C S (T.setTop (mkF m pc Ls (.int z :: rest))) :=
  Go.retW X hlk hx hret rfl (Or.inl ⟨rfl, Or.inl rfl, z, rfl⟩) hd hc hs hQ
theorem Go.retJ (X : Stand p l e R s m args below meth c T locs cells slots) (hlk : meth.locks = false) (hx : p.tables.exec = Jvm.exec) {pc : Nat} {Ls : Array Slot} {z : Int64} {rest : List Value} (hret : meth.sig.returnType = some .long) (hd : decode c.code pc = .ok (.lreturn, 1)) (hc : cells ≤ C) (hs : slots ≤ S) (hQ : Qk (some (.long z)) T.heap locs) :
    Go p e below s Qk C S (T.setTop (mkF m pc Ls (.long z :: rest))) :=
  Go.retW X hlk hx hret rfl (Or.inr (Or.inl ⟨rfl, rfl, z, rfl⟩)) hd hc hs hQ
theorem Go.retA (X : Stand p l e R s m args below meth c T locs cells slots) (hlk : meth.locks = false) (hx : p.tables.exec = Jvm.exec) {pc : Nat} {Ls : Array Slot} {w : Value} {t : FieldType} {rest : List Value} (hret : meth.sig.returnType = some t) (hn : narrow t w = w) (ht : t.isReference = true) (hw : w.isRef = true) (hd : decode c.code pc = .ok (.areturn, 1)) (hc : cells ≤ C) (hs : slots ≤ S) (hQ : Qk (some w) T.heap locs) :
    Go p e below s Qk C S (T.setTop (mkF m pc Ls (w :: rest))) :=
  Go.retW X hlk hx hret hn (Or.inr (Or.inr (Or.inr (Or.inr ⟨rfl, ht, hw⟩)))) hd hc hs hQ
theorem Go.retN (X : Stand p l e R s m args below meth c T locs cells slots) (hlk : meth.locks = false) (hx : p.tables.exec = Jvm.exec) {pc : Nat} {Ls : Array Slot} {z : Int32} {t : FieldType} {rest : List Value} (hret : meth.sig.returnType = some t) (ht : t = .boolean ∨ t = .byte ∨ t = .char ∨ t = .short) (hd : decode c.code pc = .ok (.ireturn, 1)) (hc : cells ≤ C) (hs : slots ≤ S) (z' : Int32) (hz : nar t z = z') (hQ : Qk (some (.int z')) T.heap locs) :
    Go p e below s Qk C S (T.setTop (mkF m pc Ls (.int z :: rest))) := by
  subst hz
  obtain ⟨fs, hr, hrun, hended, hW, hsame⟩ := X.leave (v := some (.int (nar t z))) (fun q => by rw [hret] at q; cases q) hlk
  exact ⟨_, _, Jvm.RoadKit.retN X hx hret ht hd hr, hrun, hended, _, _, rfl, hQ, ⟨_, rfl⟩, hW, hsame.mono hc hs⟩
theorem own_narb {P : Prop} [Decidable P] : nar .boolean (if P then (1 : Int32) else (0 : Int32)) = (if P then (1 : Int32) else (0 : Int32)) := by split <;> rfl
theorem own_narb01 {z : Int32} (h : z = 0 ∨ z = 1) : nar .boolean z = z := by rcases h with rfl | rfl <;> rfl
/-- a function turned at one place -/
def up {α : Type} (f : Nat → α) (k : Nat) (v : α) : Nat → α := fun i => if i = k then v else f i
theorem up_same {α : Type} (f : Nat → α) (k : Nat) (v : α) : up f k v k = v := if_pos rfl
theorem up_ne {α : Type} (f : Nat → α) {k i : Nat} (v : α) (q : i ≠ k) : up f k v i = f i := if_neg q
/-- an array of n places; place i holds g i -/
def Ary (Z : State) (h : Heap) (a : Addr) (ty : FieldType) (n : Nat) (g : Nat → Value) : Prop := ∃ c : Cell, Arr Z h a c ty ∧ c.slots.size = n ∧ n < 2 ^ 31 ∧ ∀ i, i < n → c.slots[i]? = some (g i)
variable {ty : FieldType} {n : Nat} {g : Nat → Value}
theorem Ary.lt (F : Ary Z h a ty n g) : a < h.size := by obtain ⟨c, A, -⟩ := F; exact A.lt
theorem Ary.ext (F : Ary Z h a ty n g) (E : Ext h h') : Ary Z h' a ty n g := by obtain ⟨c, A, r⟩ := F; exact ⟨c, A.ext E, r⟩
theorem Ary.other {sl : Nat} {v : Value} (F : Ary Z h b ty n g) (W : Wr h h' a sl v) (q : b ≠ a) : Ary Z h' b ty n g := by obtain ⟨c, A, r⟩ := F; exact ⟨c, A.other W q, r⟩
theorem Ary.keep {ws : List Addr} (F : Ary Z h a ty n g) (K : Keep h h' ws) (q : a ∉ ws) : Ary Z h' a ty n g := by obtain ⟨c, A, r⟩ := F; exact ⟨c, ⟨K.2.1 a c A.1 q, A.2⟩, r⟩
theorem Ary.set {k : Nat} {v : Value} (F : Ary Z h a ty n g) (W : Wr h h' a k v) : Ary Z h' a ty n (up g k v) := by
  obtain ⟨c, A, S, B, H⟩ := F
  refine ⟨_, A.same W, by rw [sz_set]; exact S, B, fun i hi => ?_⟩
  by_cases q : k = i
  · subst q; rw [up_same]; simp [Cell.setSlot, S, hi]
  · rw [up_ne _ _ (Ne.symm q), ← H i hi]; simp only [Cell.setSlot]; rw [Array.getElem?_setIfInBounds_ne q]
theorem Ary.new {k : ClassId} {z : Int32} (A : Arr Z h a (newA k ty z) ty) (q : z.toInt = n) : Ary Z h a ty n (fun _ => defaultValue ty) := by
  have e1 : z.toNatClampNeg = n := by simp only [Int32.toNatClampNeg]; omega
  refine ⟨_, A, by rw [sz_new]; exact e1, ?_, fun i hi => ?_⟩
  · have := Int32.toInt_lt z; omega
  · simp [newA, e1, hi]
theorem Ary.congr {g' : Nat → Value} (F : Ary Z h a ty n g) (q : ∀ i, i < n → g i = g' i) : Ary Z h a ty n g' := by
  obtain ⟨c, A, S, B, H⟩ := F
  exact ⟨c, A, S, B, fun i hi => by rw [← q i hi]; exact H i hi⟩
abbrev AryI (Z : State) (h : Heap) (a : Addr) (ty : FieldType) (n : Nat) (g : Nat → Int32) : Prop := Ary Z h a ty n (fun i => .int (g i))
abbrev AryJ (Z : State) (h : Heap) (a : Addr) (n : Nat) (g : Nat → Int64) : Prop := Ary Z h a .long n (fun i => .long (g i))
theorem own_upI (f : Nat → Int32) (k : Nat) (v : Int32) : up (fun i => Value.int (f i)) k (.int v) = fun i => Value.int (up f k v i) := by funext i; simp only [up]; split <;> rfl
theorem own_upJ (f : Nat → Int64) (k : Nat) (v : Int64) : up (fun i => Value.long (f i)) k (.long v) = fun i => Value.long (up f k v i) := by funext i; simp only [up]; split <;> rfl
theorem Ary.setI {f : Nat → Int32} {k : Nat} {v : Int32} (F : AryI Z h a ty n f) (W : Wr h h' a k (.int v)) : AryI Z h' a ty n (up f k v) := by have r := Ary.set F W; rw [own_upI] at r; exact r
theorem Ary.setJ {f : Nat → Int64} {k : Nat} {v : Int64} (F : AryJ Z h a n f) (W : Wr h h' a k (.long v)) : AryJ Z h' a n (up f k v) := by have r := Ary.set F W; rw [own_upJ] at r; exact r
theorem own_idx {c : Cell} {j : Int32} {k : Nat} (S : c.slots.size = n) (q : j.toInt = k) (hk : k < n) : ¬ (j < 0 ∨ c.slots.size ≤ j.toNatClampNeg) ∧ j.toNatClampNeg = k := by
  have e1 : j.toNatClampNeg = k := by simp only [Int32.toNatClampNeg]; omega
  have e0 : (0 : Int32).toInt = 0 := rfl
  refine ⟨?_, e1⟩
  rw [e1, S, Int32.lt_iff_toInt_lt]; omega
theorem own_ld (X : Stand p l e R s m args below meth c T locs cells slots) (hx : p.tables.exec = Jvm.exec) (hZ : Z.Warmed39 s.vm) (eT : T.heap = h) (F : Ary Z h a ty n g) {j : Int32} (k : Nat) (q : j.toInt = k) (hk : k < n) {v : Value} (hv : g k = v) {i : Instr}
    (hi : (i = .iaload ∧ ty = .int) ∨ (i = .laload ∧ ty = .long) ∨ (i = .caload ∧ ty = .char) ∨ (i = .baload ∧ ty = .byte)) {f : JFrame} (hg : f.method = m) {rest : List Value} (hs : f.stack = .int j :: .ref a :: rest) (hd : decode c.code f.pc = .ok (i, 1)) :
    ∀ target, Steps p.tables e below (T.setTop { f with pc := f.pc + 1, stack := v :: rest }) target → Steps p.tables e below (T.setTop f) target := by
  subst hv
  obtain ⟨cl, A, S, -, H⟩ := F
  obtain ⟨hin, e1⟩ := own_idx S q hk
  have hat : cl.slots[j.toNatClampNeg]? = some (g k) := by rw [e1]; exact H k hk
  intro t kt
  rcases hi with ⟨rfl, rfl⟩ | ⟨rfl, rfl⟩ | ⟨rfl, rfl⟩ | ⟨rfl, rfl⟩
  · exact X.iaload hx (by rw [eT]; exact A.1) (State.isArrayOf_alike hZ.alike A.2.1) A.2.2 hin hat hg hs hd t kt
  · exact X.laload hx (by rw [eT]; exact A.1) (State.isArrayOf_alike hZ.alike A.2.1) A.2.2 hin hat hg hs hd t kt
  · exact X.caload hx (by rw [eT]; exact A.1) (State.isArrayOf_alike hZ.alike A.2.1) A.2.2 hin hat hg hs hd t kt
  · exact X.baloadBytes hx (by rw [eT]; exact A.1) (State.isArrayOf_alike hZ.alike A.2.1) A.2.2 hin hat hg hs hd t kt
theorem own_len (X : Stand p l e R s m args below meth c T locs cells slots) (hx : p.tables.exec = Jvm.exec) (hZ : Z.Warmed39 s.vm) (eT : T.heap = h) (F : Ary Z h a ty n g) {z : Int32} (hz : n.toInt32 = z) {f : JFrame} (hg : f.method = m) {rest : List Value} (hs : f.stack = .ref a :: rest) (hd : decode c.code f.pc = .ok (.arraylength, 1)) :
    ∀ target, Steps p.tables e below (T.setTop { f with pc := f.pc + 1, stack := .int z :: rest }) target → Steps p.tables e below (T.setTop f) target := by
  subst hz
  obtain ⟨cl, A, S, -⟩ := F
  intro t kt
  refine X.arraylength hx (by rw [eT]; exact A.1) (State.isArrayOf_alike hZ.alike A.2.1) hg hs hd t ?_
  rw [S]; exact kt
theorem own_stI (X : Stand p l e R s m args below meth c T locs cells slots) (hx : p.tables.exec = Jvm.exec) (hZ : Z.Warmed39 s.vm) (eT : T.heap = h) (F : Ary Z h a .int n g) {j x : Int32} (k : Nat) (q : j.toInt = k) (hk : k < n) {f : JFrame} (hg : f.method = m) {rest : List Value} (hs : f.stack = .int x :: .int j :: .ref a :: rest) (hd : decode c.code f.pc = .ok (.iastore, 1)) :
    ∃ T' h', Stand p l e R s m args below meth c T' (locs ++ [⟨a, k⟩]) cells slots ∧ T'.heap = h' ∧ Wr h h' a k (.int x) ∧ ∀ target, Steps p.tables e below (T'.setTop { f with pc := f.pc + 1, stack := rest }) target → Steps p.tables e below (T.setTop f) target := by
  obtain ⟨cl, A, S, -, -⟩ := F
  obtain ⟨hin, e1⟩ := own_idx S q hk
  have r := stI X hx hZ eT A hin hg hs hd
  rw [e1] at r; exact r
theorem own_stJ (X : Stand p l e R s m args below meth c T locs cells slots) (hx : p.tables.exec = Jvm.exec) (hZ : Z.Warmed39 s.vm) (eT : T.heap = h) (F : Ary Z h a .long n g) {j : Int32} {x : Int64} (k : Nat) (q : j.toInt = k) (hk : k < n) {f : JFrame} (hg : f.method = m) {rest : List Value} (hs : f.stack = .long x :: .int j :: .ref a :: rest) (hd : decode c.code f.pc = .ok (.lastore, 1)) :
    ∃ T' h', Stand p l e R s m args below meth c T' (locs ++ [⟨a, k⟩]) cells slots ∧ T'.heap = h' ∧ Wr h h' a k (.long x) ∧ ∀ target, Steps p.tables e below (T'.setTop { f with pc := f.pc + 1, stack := rest }) target → Steps p.tables e below (T.setTop f) target := by
  obtain ⟨cl, A, S, -, -⟩ := F
  obtain ⟨hin, e1⟩ := own_idx S q hk
  have r := stJ X hx hZ eT A hin hg hs hd
  rw [e1] at r; exact r
theorem own_stB (X : Stand p l e R s m args below meth c T locs cells slots) (hx : p.tables.exec = Jvm.exec) (hZ : Z.Warmed39 s.vm) (eT : T.heap = h) (F : Ary Z h a .byte n g) {j x : Int32} (k : Nat) (q : j.toInt = k) (hk : k < n) {f : JFrame} (hg : f.method = m) {rest : List Value} (hs : f.stack = .int x :: .int j :: .ref a :: rest) (hd : decode c.code f.pc = .ok (.bastore, 1)) :
    ∃ T' h', Stand p l e R s m args below meth c T' (locs ++ [⟨a, k⟩]) cells slots ∧ T'.heap = h' ∧ Wr h h' a k (.int (nar .byte x)) ∧ ∀ target, Steps p.tables e below (T'.setTop { f with pc := f.pc + 1, stack := rest }) target → Steps p.tables e below (T.setTop f) target := by
  obtain ⟨cl, A, S, -, -⟩ := F
  obtain ⟨hin, e1⟩ := own_idx S q hk
  have r := stB X hx hZ eT A hin hg hs hd
  rw [e1] at r; exact r
theorem own_stC (X : Stand p l e R s m args below meth c T locs cells slots) (hx : p.tables.exec = Jvm.exec) (hZ : Z.Warmed39 s.vm) (eT : T.heap = h) (F : Ary Z h a .char n g) {j x : Int32} (k : Nat) (q : j.toInt = k) (hk : k < n) {f : JFrame} (hg : f.method = m) {rest : List Value} (hs : f.stack = .int x :: .int j :: .ref a :: rest) (hd : decode c.code f.pc = .ok (.castore, 1)) :
    ∃ T' h', Stand p l e R s m args below meth c T' (locs ++ [⟨a, k⟩]) cells slots ∧ T'.heap = h' ∧ Wr h h' a k (.int (nar .char x)) ∧ ∀ target, Steps p.tables e below (T'.setTop { f with pc := f.pc + 1, stack := rest }) target → Steps p.tables e below (T.setTop f) target := by
  obtain ⟨cl, A, S, -, -⟩ := F
  obtain ⟨hin, e1⟩ := own_idx S q hk
  have r := stC X hx hZ eT A hin hg hs hd
  rw [e1] at r; exact r
theorem own_neA {a0 : Array Value} {k : Nat} {K : String} (F : Exa Z h a K) (wi : (Cond.instantiable K k).before a0 Z = true) (G : Ary Z h b ty n g) : a ≠ b := by
  obtain ⟨cl, A, -⟩ := G
  exact ne_arr F wi A
theorem own_selP {y : MethodName} {k : Nat} {a0 as' : Array Value} (hZ : Z.Warmed39 s.vm) (wi : (Cond.instantiable y.cls k).before a0 Z = true) (wn : (Cond.instanceMethod y).before a0 Z = true) (wp : (Cond.privateMethod y).before a0 Z = true) (hy : y.cls ≠ "java/lang/invoke/MethodHandle" ∧ y.cls ≠ "java/lang/invoke/VarHandle") : (Cond.selects y.cls y y).before as' s = true := by
  have wi' : (Cond.instantiable y.cls k).before as' s = true := mvT hZ wi
  obtain ⟨c, kc, h1, h2, -, h4, -⟩ := Cond.instantiable_spec wi'
  refine selects_self_of_private h1 h2 ?_ (Cond.privateMethod_at (mvP hZ wp (args := #[]))) (mvT hZ wn) hy
  cases hi : kc.isInterface with
  | false => rfl
  | true => rw [hi] at h4; simp at h4
/-- long comparisons -/
theorem own_lwlt {x y : Int64} (h : x < y) : lcmpW x y < 0 := (lw_lt x y).mpr h
theorem own_nlwlt {x y : Int64} (h : ¬ x < y) : ¬ lcmpW x y < 0 := fun q => h ((lw_lt x y).mp q)
theorem own_lwgt {x y : Int64} (h : y < x) : 0 < lcmpW x y := (lw_gt x y).mpr h
theorem own_nlwgt {x y : Int64} (h : ¬ y < x) : ¬ 0 < lcmpW x y := fun q => h ((lw_gt x y).mp q)
theorem own_lweq {x y : Int64} (h : x = y) : lcmpW x y = 0 := (lw_eq x y).mpr h
theorem own_nlweq {x y : Int64} (h : ¬ x = y) : ¬ lcmpW x y = 0 := fun q => h ((lw_eq x y).mp q)
end Own
theorem own_lt {x y : Int32} (h : x < y) : x.toInt < y.toInt := Int32.lt_iff_toInt_lt.mp h
theorem own_nlt {x y : Int32} (h : ¬ x < y) : ¬ x.toInt < y.toInt := fun q => h (Int32.lt_iff_toInt_lt.mpr q)
theorem own_eq {x y : Int32} (h : x = y) : x.toInt = y.toInt := by rw [h]
theorem own_neq {x y : Int32} (h : ¬ x = y) : ¬ x.toInt = y.toInt := fun q => h (Int32.toInt_inj.mp q)
theorem own_ltL {x y : Int64} (h : x < y) : x.toInt < y.toInt := Int64.lt_iff_toInt_lt.mp h
theorem own_nltL {x y : Int64} (h : ¬ x < y) : ¬ x.toInt < y.toInt := fun q => h (Int64.lt_iff_toInt_lt.mpr q)
theorem own_eqL {x y : Int64} (h : x = y) : x.toInt = y.toInt := by rw [h]
theorem own_neqL {x y : Int64} (h : ¬ x = y) : ¬ x.toInt = y.toInt := fun q => h (Int64.toInt_inj.mp q)
theorem own_rng32 (x : Int32) : -2147483648 ≤ x.toInt ∧ x.toInt ≤ 2147483647 := by
  have h1 := Int32.le_toInt x
  have h2 := Int32.toInt_lt x
  omega
theorem own_rng64 (x : Int64) : -9223372036854775808 ≤ x.toInt ∧ x.toInt ≤ 9223372036854775807 := by
  have h1 := Int64.le_toInt x
  have h2 := Int64.toInt_lt x
  omega
section Txt
variable {p : Program} {l : Launch} {e : Env} {R : Room} {s : State} {m : MethodId} {args : Array Value} {below : List Frame} {meth : Method} {c : Code} {T : State} {locs : List Loc} {cells slots : Nat} {Z : State} {h h' : Heap} {a b : Addr} {n n' : Nat}
/-- a char array of n places, whatever it holds -/
def Txt (Z : State) (h : Heap) (a : Addr) (n : Nat) : Prop := ∃ (k : ClassId) (z : Int32) (vs : List Value), z.toInt = (n : Int) ∧ Arv Z h a k .char z vs (.int 0)
theorem Txt.lt (F : Txt Z h a n) : a < h.size := by obtain ⟨k, z, vs, -, F⟩ := F; exact F.lt
theorem Txt.ext (F : Txt Z h a n) (E : Ext h h') : Txt Z h' a n := by obtain ⟨k, z, vs, q, F⟩ := F; exact ⟨k, z, vs, q, F.ext E⟩
theorem Txt.other {sl : Nat} {v : Value} (F : Txt Z h b n) (W : Wr h h' a sl v) (q : b ≠ a) : Txt Z h' b n := by obtain ⟨k, z, vs, r, F⟩ := F; exact ⟨k, z, vs, r, F.other W q⟩
theorem Txt.keep {ws : List Addr} (F : Txt Z h a n) (K : Keep h h' ws) (q : a ∉ ws) : Txt Z h' a n := by obtain ⟨k, z, vs, r, F⟩ := F; exact ⟨k, z, vs, r, F.keep K q⟩
theorem Txt.new {k : ClassId} {z : Int32} (A : Arr Z h a (newA k .char z) .char) (q : z.toInt = n) : Txt Z h a n := ⟨k, z, [], q, Arv.new A (by rw [Int32.lt_iff_toInt_lt, q]; show ¬ (n : Int) < 0; omega)⟩
theorem own_clamp {z : Int32} (q : z.toInt = (n : Int)) : z.toNatClampNeg = n := by simp only [Int32.toNatClampNeg]; omega
theorem own_nn {z : Int32} (q : z.toInt = (n : Int)) : ¬ z < 0 := by rw [Int32.lt_iff_toInt_lt, q]; show ¬ (n : Int) < 0; omega
theorem Txt.ary (F : Txt Z h a n) : ∃ g, Ary Z h a .char n g := by
  obtain ⟨k, z, vs, q, c, A, -, S, -, H, -⟩ := F
  refine ⟨fun i => vs.getD i (.int 0), c, A, by rw [S]; exact own_clamp q, ?_, fun i hi => H i (by rw [S, own_clamp q]; exact hi)⟩
  have := Int32.toInt_lt z; omega
theorem own_lenT (X : Stand p l e R s m args below meth c T locs cells slots) (hx : p.tables.exec = Jvm.exec) (hZ : Z.Warmed39 s.vm) (eT : T.heap = h) (F : Txt Z h a n) {z : Int32} (hz : z.toInt = (n : Int)) {f : JFrame} (hg : f.method = m) {rest : List Value} (hs : f.stack = .ref a :: rest) (hd : decode c.code f.pc = .ok (.arraylength, 1)) :
    ∀ target, Steps p.tables e below (T.setTop { f with pc := f.pc + 1, stack := .int z :: rest }) target → Steps p.tables e below (T.setTop f) target := by
  obtain ⟨g, F⟩ := F.ary
  refine own_len X hx hZ eT F ?_ hg hs hd
  apply Int32.toInt_inj.mp
  rw [hz]
  obtain ⟨c, -, -, hb, -⟩ := F
  exact len_toInt hb
theorem own_stT (X : Stand p l e R s m args below meth c T locs cells slots) (hx : p.tables.exec = Jvm.exec) (hZ : Z.Warmed39 s.vm) (eT : T.heap = h) (F : Txt Z h a n) {j x : Int32} (k : Nat) (q : j.toInt = k) (hk : k < n) {f : JFrame} (hg : f.method = m) {rest : List Value} (hs : f.stack = .int x :: .int j :: .ref a :: rest) (hd : decode c.code f.pc = .ok (.castore, 1)) :
    ∃ T' h', Stand p l e R s m args below meth c T' (locs ++ [⟨a, k⟩]) cells slots ∧ T'.heap = h' ∧ Wr h h' a k (.int (nar .char x)) ∧ Txt Z h' a n ∧ ∀ target, Steps p.tables e below (T'.setTop { f with pc := f.pc + 1, stack := rest }) target → Steps p.tables e below (T.setTop f) target := by
  obtain ⟨kc, z, vs, qz, F⟩ := F
  have F' := F.pad (pad_rep vs (.int 0) n)
  obtain ⟨cl, A, q1, S, q3, H, G⟩ := F'
  have S' : cl.slots.size = n := by rw [S]; exact own_clamp qz
  obtain ⟨hin, e1⟩ := own_idx S' q hk
  obtain ⟨T', h', X', e', W, st⟩ := stC X hx hZ eT A hin hg hs hd
  have V := Arv.set A q1 S q3 H G (fits_nar_char x) W k e1 (by simp; omega)
  rw [e1] at X' W
  exact ⟨T', h', X', e', W, ⟨kc, z, _, qz, V⟩, st⟩
theorem own_cp (X : Stand p l e R s m args below meth c T locs cells slots) (hx : p.tables.exec = Jvm.exec) (hZ : Z.Warmed39 s.vm) {a0 : Array Value} {own : String} {index : Nat} (hown : s.vm.findClass own = some m.cls)
    (w1 : (Cond.methodLink own index Jvm.Stand.acN).before a0 Z = true) (w2 : (Cond.native Jvm.Stand.acN).before a0 Z = true) (w3 : (Cond.static Jvm.Stand.acN).before a0 Z = true) (w4 : (Cond.initialized "java/lang/System").before a0 Z = true) (eT : T.heap = h)
    {sp dp nn : Int32} (A : Txt Z h a n) (B : Txt Z h b n') (i j k : Nat) (hi : sp.toInt = i) (hj : dp.toInt = j) (hk : nn.toInt = k) (h4 : i + k ≤ n) (h5 : j + k ≤ n') {n0 : Nat} (N : Fr n0 locs) (ge : n0 ≤ b)
    {g : JFrame} (hg : g.method = m) (hsize : g.locals.size = c.maxLocals) {rest : List Value} (hs : g.stack = .int nn :: .int dp :: .ref b :: .int sp :: .ref a :: rest) (hd : decode c.code g.pc = .ok (.invokestatic index, 3))
    (hf : 1 ≤ R.frames) {W : Nat} (hW : 2 * g.monitorRoom + (rest.map fun v => v.category).sum ≤ W) (hlo : W + (nativeFrameWords "java/lang/System" "arraycopy" 5 + 11) ≤ R.locals) :
    ∃ T' h' L, Stand p l e R s m args below meth c T' L cells slots ∧ T'.heap = h' ∧ Fr n0 L ∧ Keep h h' [b] ∧ Txt Z h' b n' ∧
      ∀ target, Steps p.tables e below (T'.setTop { g with pc := g.pc + 3, stack := rest }) target → Steps p.tables e below (T.setTop g) target := by
  obtain ⟨ka, za, va, qa, A⟩ := A
  obtain ⟨kb, zb, vb, qb, B⟩ := B
  have B' := B.pad (pad_rep vb (.int 0) n')
  obtain ⟨T', h', L, X', e', N', K, V, st⟩ := cpA X hx hZ hown w1 w2 w3 w4 eT A B' (Or.inl ⟨rfl, rfl⟩) (own_nn hi) (own_nn hj) (own_nn hk) (by rw [own_clamp hi, own_clamp hk, own_clamp qa]; exact h4) (by rw [own_clamp hj, own_clamp hk, own_clamp qb]; exact h5) rfl (by rw [own_clamp hj, own_clamp hk]; simp; omega) N ge hg hsize hs hd hf hW hlo
  exact ⟨T', h', L, X', e', N', K, ⟨kb, zb, _, qb, V⟩, st⟩
theorem own_neT {a0 : Array Value} {k : Nat} {K : String} (F : Exa Z h a K) (wi : (Cond.instantiable K k).before a0 Z = true) (G : Txt Z h b n) : a ≠ b := by
  obtain ⟨g, G⟩ := G.ary
  exact own_neA F wi G
end Txt
theorem own_nex {x y z : Addr} {k : Nat} (o : y = z ∨ k ≤ y) (q : x ≠ z) (r : x < k) : x ≠ y := by
  rcases o with rfl | o
  · exact q
  · exact Nat.ne_of_lt (Nat.lt_of_lt_of_le r o)
theorem own_gex {y z : Addr} {k n0 : Nat} (o : y = z ∨ k ≤ y) (q : n0 ≤ z) (r : n0 ≤ k) : n0 ≤ y := by
  rcases o with rfl | o
  · exact q
  · exact Nat.le_trans r o
theorem own_wqx {y z : Addr} {k k0 : Nat} {ws : List Addr} (o : y = z ∨ k ≤ y) (q : z ∈ ws ∨ k0 ≤ z) (r : k0 ≤ k) : y ∈ ws ∨ k0 ≤ y := by
  rcases o with rfl | o
  · exact q
  · exact Or.inr (Nat.le_trans r o)

theorem own_inc {x : Int32} {k : Nat} (h : x.toInt = (k : Int)) (hk : k < 100000) : (x + (1 : Int32)).toInt = ((k + 1 : Nat) : Int) := by
  have h1 := c_iadd x 1
  have h2 := own_rng32 (x + 1)
  have h3 : (1 : Int32).toInt = 1 := rfl
  omega
theorem own_add {x y : Int32} {k j : Nat} (h : x.toInt = (k : Int)) (h' : y.toInt = (j : Int)) (hk : k + j < 1000000) : (x + y).toInt = ((k + j : Nat) : Int) := by
  have h1 := c_iadd x y
  have h2 := own_rng32 (x + y)
  omega
theorem own_dbl {x : Int32} {k : Nat} (h : x.toInt = (k : Int)) (hk : k < 100000) : (x * (2 : Int32)).toInt = ((2 * k : Nat) : Int) := by
  have h1 := c_imul x 2
  have h2 := own_rng32 (x * 2)
  have h3 : (2 : Int32).toInt = 2 := rfl
  rw [h3] at h1
  omega
theorem own_neq_ {x : Int32} {z : Int32} {k : Nat} {j : Nat} (h : x.toInt = (k : Int)) (hz : z.toInt = (j : Int)) (q : k ≠ j) : ¬ x = z := fun r => by
  have t := congrArg Int32.toInt r
  omega
theorem own_nlt_ {x : Int32} {z : Int32} {k : Nat} {j : Nat} (h : x.toInt = (k : Int)) (hz : z.toInt = (j : Int)) (q : j ≤ k) : ¬ x < z := by
  rw [Int32.lt_iff_toInt_lt]; omega
theorem own_lt_ {x : Int32} {z : Int32} {k : Nat} {j : Nat} (h : x.toInt = (k : Int)) (hz : z.toInt = (j : Int)) (q : k < j) : x < z := by
  rw [Int32.lt_iff_toInt_lt]; omega
theorem own_unlt {x : Int32} {z : Int32} {k : Nat} {j : Nat} (h : x.toInt = (k : Int)) (hz : z.toInt = (j : Int)) (q : ¬ x < z) : j ≤ k := by
  rw [Int32.lt_iff_toInt_lt] at q; omega
theorem own_unlt' {x : Int32} {z : Int32} {k : Nat} {j : Nat} (h : x.toInt = (k : Int)) (hz : z.toInt = (j : Int)) (q : x < z) : k < j := by
  rw [Int32.lt_iff_toInt_lt] at q; omega

theorem own_tz {z : Int32} {n : Nat} (h : z.toInt = (n : Int)) : n.toInt32 = z := by
  apply Int32.toInt_inj.mp
  rw [h]; exact len_toInt (by have := Int32.toInt_lt z; omega)
theorem own_sh0 (z : Int32) : (z >>> ((0 : Int32) &&& 31)) = z := by
  have a := c_ishr z (0 : Int32) 0 rfl
  apply Int32.toInt_inj.mp
  omega

theorem own_m3 {nn vk : Int32} (q : ((nn &&& (2147483647 : Int32)) % (3 : Int32)) = vk) : 0 ≤ vk.toInt ∧ vk.toInt ≤ 2 := by
  have ar1 := own_rng32 (((nn &&& (2147483647 : Int32)) % (3 : Int32)))
  have ar2 := own_rng32 ((nn &&& (2147483647 : Int32)))
  have ar3 := own_rng32 (nn)
  have ar4 := c_mask (nn) (2147483647 : Int32) 31 (by decide) (by decide)
  have ar5 := c_irem ((nn &&& (2147483647 : Int32))) (3 : Int32) 3 rfl
  have t := congrArg Int32.toInt q
  omega
theorem own_ch {x v : Int32} (q : ((((x.toUInt32 >>> ((8 : Int32) &&& 31).toUInt32).toInt32) &&& (255 : Int32)).toUInt32.toUInt16.toUInt32.toInt32) = v) : 0 ≤ v.toInt ∧ v.toInt ≤ 255 := by
  have a1 := c_mask ((x.toUInt32 >>> ((8 : Int32) &&& 31).toUInt32).toInt32) (255 : Int32) 8 (by decide) (by decide)
  have a2 := c_i2c (((x.toUInt32 >>> ((8 : Int32) &&& 31).toUInt32).toInt32) &&& (255 : Int32))
  have t := congrArg Int32.toInt q
  omega
theorem own_c2 {v : Int32} (h : 0 ≤ v.toInt ∧ v.toInt ≤ 255) : ¬ (255 : Int32) < v := by
  rw [Int32.lt_iff_toInt_lt]
  have e : (255 : Int32).toInt = 255 := rfl
  omega
theorem own_c3 {v : Int32} (h : 0 ≤ v.toInt ∧ v.toInt ≤ 255) : ¬ (255 : Int32) < (nar .char v) := by
  have a2 : (v.toUInt32.toUInt16.toUInt32.toInt32.toInt - v.toInt) % 65536 = 0 ∧ 0 ≤ v.toUInt32.toUInt16.toUInt32.toInt32.toInt ∧ v.toUInt32.toUInt16.toUInt32.toInt32.toInt < 65536 := c_i2c v
  show ¬ (255 : Int32) < v.toUInt32.toUInt16.toUInt32.toInt32
  rw [Int32.lt_iff_toInt_lt]
  have e : (255 : Int32).toInt = 255 := rfl
  omega
theorem own_w {x y v : Int32} {a : Int} (hx : x.toInt = a) (hy : y.toInt = a + v.toInt) (hv : 0 ≤ v.toInt ∧ v.toInt ≤ 2) : (y - x) = v := by
  have a1 := c_isub y x
  have a2 := own_rng32 (y - x)
  have a3 := own_rng32 v
  apply Int32.toInt_inj.mp
  omega
theorem own_zz : (0 : Int32).toInt = ((0 : Nat) : Int) := rfl
theorem own_nat {x : Int32} (h : 0 ≤ x.toInt) : x.toInt = ((x.toInt.toNat : Nat) : Int) := by omega
theorem own_cs {s : State} {args : Array Value} {t : Term} {cs : Int32} (ev : t.eval args s none [] s = some (.int cs)) (k : (Jvm.Cond.not (Jvm.Cond.eq t (Jvm.Term.int (0 : Int32)))).value args s none s [] = some true) : ¬ cs = (0 : Int32) := by
  have k2 := not_v k
  have hw : (Jvm.Term.int (0 : Int32)).eval args s none [] s = some (.int (0 : Int32)) := rfl
  simp only [Cond.value, ev, hw] at k2
  simpa using k2
theorem d11_0 : decode prog_63_method_1_code 0 = .ok (.aload_n 0, 1) := by decide +kernel
theorem d11_1 : decode prog_63_method_1_code 1 = .ok (.invokespecial 1, 3) := by decide +kernel
theorem d11_4 : decode prog_63_method_1_code 4 = .ok (.aload_n 0, 1) := by decide +kernel
theorem d11_5 : decode prog_63_method_1_code 5 = .ok (.sipush 4096, 3) := by decide +kernel
theorem d11_8 : decode prog_63_method_1_code 8 = .ok (.newarray .char, 2) := by decide +kernel
theorem d11_10 : decode prog_63_method_1_code 10 = .ok (.putfield 7, 3) := by decide +kernel
theorem d11_13 : decode prog_63_method_1_code 13 = .ok (.aload_n 0, 1) := by decide +kernel
theorem d11_14 : decode prog_63_method_1_code 14 = .ok (.sipush 256, 3) := by decide +kernel
theorem d11_17 : decode prog_63_method_1_code 17 = .ok (.newarray .int, 2) := by decide +kernel
theorem d11_19 : decode prog_63_method_1_code 19 = .ok (.putfield 13, 3) := by decide +kernel
theorem d11_22 : decode prog_63_method_1_code 22 = .ok (.aload_n 0, 1) := by decide +kernel
theorem d11_23 : decode prog_63_method_1_code 23 = .ok (.sipush 256, 3) := by decide +kernel
theorem d11_26 : decode prog_63_method_1_code 26 = .ok (.newarray .int, 2) := by decide +kernel
theorem d11_28 : decode prog_63_method_1_code 28 = .ok (.putfield 17, 3) := by decide +kernel
theorem d11_31 : decode prog_63_method_1_code 31 = .ok (.aload_n 0, 1) := by decide +kernel
theorem d11_32 : decode prog_63_method_1_code 32 = .ok (.bipush 64, 2) := by decide +kernel
theorem d11_34 : decode prog_63_method_1_code 34 = .ok (.newarray .int, 2) := by decide +kernel
theorem d11_36 : decode prog_63_method_1_code 36 = .ok (.putfield 20, 3) := by decide +kernel
theorem d11_39 : decode prog_63_method_1_code 39 = .ok (.aload_n 0, 1) := by decide +kernel
theorem d11_40 : decode prog_63_method_1_code 40 = .ok (.bipush 64, 2) := by decide +kernel
theorem d11_42 : decode prog_63_method_1_code 42 = .ok (.newarray .int, 2) := by decide +kernel
theorem d11_44 : decode prog_63_method_1_code 44 = .ok (.putfield 23, 3) := by decide +kernel
theorem d11_47 : decode prog_63_method_1_code 47 = .ok (.aload_n 0, 1) := by decide +kernel
theorem d11_48 : decode prog_63_method_1_code 48 = .ok (.bipush 64, 2) := by decide +kernel
theorem d11_50 : decode prog_63_method_1_code 50 = .ok (.anewarray 26, 3) := by decide +kernel
theorem d11_53 : decode prog_63_method_1_code 53 = .ok (.putfield 28, 3) := by decide +kernel
theorem d11_56 : decode prog_63_method_1_code 56 = .ok (.return_, 1) := by decide +kernel
theorem pn_11 : plainName "com/example/vestwright/vestwright/io/Records" = true := by first | (simp [plainName, overriddenIn]; done) | decide +kernel
theorem ef_11 (m : MethodId) (x0 : Addr) : entryFrame m #[(.ref x0)] 1 = mkF m 0 #[.val (.ref x0)] [] := by first | (simp [entryFrame, mkF, argsToLocals, Value.category]; done) | rfl
def Q11 (Z : State) (aa : Addr) (h0 : Heap) (n0 : Nat) (v : Option Value) (h : Heap) (L : List Loc) : Prop := ∃ bt : Addr, ∃ bs : Addr, ∃ be : Addr, ∃ bf : Addr, ∃ bn : Addr, ∃ bx : Addr, v = none ∧ Fr n0 L ∧ Keep h0 h [aa] ∧ Fld Z h aa "com/example/vestwright/vestwright/io/Records" "text" "[C" (.ref bt) ∧ Fld Z h aa "com/example/vestwright/vestwright/io/Records" "starts" "[I" (.ref bs) ∧ Fld Z h aa "com/example/vestwright/vestwright/io/Records" "ends" "[I" (.ref be) ∧ Fld Z h aa "com/example/vestwright/vestwright/io/Records" "firstFields" "[I" (.ref bf) ∧ Fld Z h aa "com/example/vestwright/vestwright/io/Records" "lines" "[I" (.ref bn) ∧ Fld Z h aa "com/example/vestwright/vestwright/io/Records" "faults" "[Lcom/example/vestwright/vestwright/io/CsvFormatException;" (.ref bx) ∧ Fld Z h aa "com/example/vestwright/vestwright/io/Records" "textUsed" "I" (.int (0 : Int32)) ∧ Fld Z h aa "com/example/vestwright/vestwright/io/Records" "fields" "I" (.int (0 : Int32)) ∧ Fld Z h aa "com/example/vestwright/vestwright/io/Records" "records" "I" (.int (0 : Int32)) ∧ Txt Z h bt 4096 ∧ AryI Z h bs .int 256 (fun _ => (0 : Int32)) ∧ AryI Z h be .int 256 (fun _ => (0 : Int32)) ∧ AryI Z h bf .int 64 (fun _ => (0 : Int32)) ∧ AryI Z h bn .int 64 (fun _ => (0 : Int32)) ∧ h0.size ≤ bt ∧ h0.size ≤ bs ∧ h0.size ≤ be ∧ h0.size ≤ bf ∧ h0.size ≤ bn ∧ bt ≠ bs ∧ bt ≠ be ∧ bt ≠ bf ∧ bt ≠ bn ∧ bs ≠ be ∧ bs ≠ bf ∧ bs ≠ bn ∧ be ≠ bf ∧ be ≠ bn ∧ bf ≠ bn ∧ aa ≠ bt ∧ aa ≠ bs ∧ aa ≠ be ∧ aa ≠ bf ∧ aa ≠ bn
set_option maxRecDepth 65536 in
set_option maxHeartbeats 40000000 in
theorem rm11 (l : Launch) (Z : State) (a0 : Array Value) (hw : ∀ d ∈ tables_1, d.before a0 Z = true) (ws : List Jvm.Cond) (aa : Addr) (h0 : Heap) (n0 : Nat) (Z0 : n0 ≤ h0.size) (F_text_aa : Fld Z h0 aa "com/example/vestwright/vestwright/io/Records" "text" "[C" .null) (F_starts_aa : Fld Z h0 aa "com/example/vestwright/vestwright/io/Records" "starts" "[I" .null) (F_ends_aa : Fld Z h0 aa "com/example/vestwright/vestwright/io/Records" "ends" "[I" .null) (F_firstFields_aa : Fld Z h0 aa "com/example/vestwright/vestwright/io/Records" "firstFields" "[I" .null) (F_lines_aa : Fld Z h0 aa "com/example/vestwright/vestwright/io/Records" "lines" "[I" .null) (F_faults_aa : Fld Z h0 aa "com/example/vestwright/vestwright/io/Records" "faults" "[Lcom/example/vestwright/vestwright/io/CsvFormatException;" .null) (F_textUsed_aa : Fld Z h0 aa "com/example/vestwright/vestwright/io/Records" "textUsed" "I" (.int (0 : Int32))) (F_fields_aa : Fld Z h0 aa "com/example/vestwright/vestwright/io/Records" "fields" "I" (.int (0 : Int32))) (F_records_aa : Fld Z h0 aa "com/example/vestwright/vestwright/io/Records" "records" "I" (.int (0 : Int32))) (E_aa : Exa Z h0 aa "com/example/vestwright/vestwright/io/Records") (g_aa : n0 ≤ aa) :
    MetFree l (⟨"com/example/vestwright/vestwright/io/Records", "<init>", "()V"⟩ : MethodName) (head1 (Jvm.Cond.code (⟨"com/example/vestwright/vestwright/io/Records", "<init>", "()V"⟩ : MethodName) prog_63_method_1_code 1 none :: ws) ({ frames := 1, cells := 6, slots := 4800, locals := 12 } : Room)) (fun a U => a = #[(.ref aa)] ∧ Z.Warmed39 U.vm ∧ U.heap = h0) (fun _ _ _ _ _ => True) (fun _ U o U' => ∃ v L, o = .returned v ∧ Q11 Z aa h0 n0 v U'.heap L ∧ FrameEnd U o U' L ({ frames := 1, cells := 6, slots := 4800, locals := 12 } : Room).cells ({ frames := 1, cells := 6, slots := 4800, locals := 12 } : Room).slots) := by
  refine MetFree.of_bodySF (plainFor_of_name pn_11) hisR ?_
  intro p e s m args below meth c s₁ Bd hml0 hP hK
  obtain ⟨rfl, hZ, hh⟩ := hP
  have hx := Bd.exec
  have hby := Bd.bytes
  have hml : c.maxLocals = 1 := hml0
  have hown : s.vm.findClass "com/example/vestwright/vestwright/io/Records" = some m.cls := findClass_of_methodNamed Bd.named
  have hnm := (name_of_methodNamed Bd.named Bd.method).1
  have X0 : Stand p l e ({ frames := 1, cells := 6, slots := 4800, locals := 12 } : Room) s m #[(.ref aa)] below meth c s₁ [] 0 0 := Stand.of_body Bd
  have e0 : s₁.heap = h0 := by rw [← hh, Bd.state]; rfl
  have N0 := Fr.nil n0
  have K0 := Keep.refl h0 ([aa] : List Addr)
  show Go p e below s (Q11 Z aa h0 n0) ({ frames := 1, cells := 6, slots := 4800, locals := 12 } : Room).cells ({ frames := 1, cells := 6, slots := 4800, locals := 12 } : Room).slots (s₁.setTop (entryFrame m #[(.ref aa)] 1))
  rw [ef_11]
  show Go _ _ _ _ _ _ _ (s₁.setTop (mkF m 0 #[.val (.ref aa)] []))
  refine Go.step (fun t k => XS.aloadN X0.here hx rfl (hb hby d11_0) rfl rfl k) ?_
  show Go _ _ _ _ _ _ _ (s₁.setTop (mkF m 1 #[.val (.ref aa)] [(.ref aa)]))
  obtain ⟨T1, X1, e1, st1⟩ := initO X0 hx hZ hown (hw _ (List.mem_of_getElem? (i := 51) rfl)) (hw _ (List.mem_of_getElem? (i := 13) rfl)) (hw _ (List.mem_of_getElem? (i := 14) rfl)) e0 (g := (mkF m 1 #[.val (.ref aa)] [(.ref aa)])) rfl (by rw [hml]; rfl) rfl (hb hby d11_1) (by decide) (W := 0) (by show 2 * 0 + _ ≤ _; exact Nat.le_of_eq rfl) (by decide)
  refine Go.step st1 ?_
  show Go _ _ _ _ _ _ _ (T1.setTop (mkF m 4 #[.val (.ref aa)] []))
  refine Go.step (fun t k => XS.aloadN X1.here hx rfl (hb hby d11_4) rfl rfl k) ?_
  show Go _ _ _ _ _ _ _ (T1.setTop (mkF m 5 #[.val (.ref aa)] [(.ref aa)]))
  refine Go.step (fun t k => XS.sipush X1.here hx rfl (hb hby d11_5) k) ?_
  show Go _ _ _ _ _ _ _ (T1.setTop (mkF m 8 #[.val (.ref aa)] [(.int (4096 : Int32)), (.ref aa)]))
  obtain ⟨T2, h2, k2, X2, e2, E2, A2, st2⟩ := newP X1 hx hZ (hw _ (List.mem_of_getElem? (i := 1) rfl)) e1 (g := (mkF m 8 #[.val (.ref aa)] [(.int (4096 : Int32)), (.ref aa)])) rfl (hb hby d11_8) rfl (by decide) (cap := 4096) (by decide) (by decide) (by decide) (by decide)
  obtain ⟨bt, gz2⟩ : ∃ z, z = h0.size := ⟨_, rfl⟩
  have ne_aa_bt : aa ≠ bt := Nat.ne_of_lt (Nat.lt_of_lt_of_le F_text_aa.lt (Nat.le_of_eq gz2.symm))
  have g_bt : n0 ≤ bt := Nat.le_trans Z0 (Nat.le_of_eq gz2.symm)
  have sz_bt : h0.size ≤ bt := Nat.le_trans K0.1 (Nat.le_of_eq gz2.symm)
  rw [← gz2] at A2 st2
  replace F_text_aa := F_text_aa.ext E2
  replace F_starts_aa := F_starts_aa.ext E2
  replace F_ends_aa := F_ends_aa.ext E2
  replace F_firstFields_aa := F_firstFields_aa.ext E2
  replace F_lines_aa := F_lines_aa.ext E2
  replace F_faults_aa := F_faults_aa.ext E2
  replace F_textUsed_aa := F_textUsed_aa.ext E2
  replace F_fields_aa := F_fields_aa.ext E2
  replace F_records_aa := F_records_aa.ext E2
  replace E_aa := E_aa.ext E2
  have Z2 := Nat.le_trans Z0 E2.1
  have K2 := K0.ext E2
  have T_bt : Txt Z h2 bt 4096 := Txt.new A2 rfl
  refine Go.step st2 ?_
  show Go _ _ _ _ _ _ _ (T2.setTop (mkF m 10 #[.val (.ref aa)] [(.ref bt), (.ref aa)]))
  obtain ⟨T3, h3, X3, e3, W3, st3⟩ := putF X2 hx hZ hown (host := "") (Or.inl (hw _ (List.mem_of_getElem? (i := 52) rfl))) Via.refl e2 F_text_aa E_aa (Or.inl (hw _ (List.mem_of_getElem? (i := 53) rfl))) (hw _ (List.mem_of_getElem? (i := 46) rfl)) (ty := (.array .char)) (by decide) rfl rfl (g := (mkF m 10 #[.val (.ref aa)] [(.ref bt), (.ref aa)])) rfl rfl (hb hby d11_10)
  replace F_starts_aa := F_starts_aa.other W3 (Or.inr (slot_ne (Or.inl (hw _ (List.mem_of_getElem? (i := 56) rfl))) (Or.inl (hw _ (List.mem_of_getElem? (i := 53) rfl))) (by decide) (t := (.array .int)) (t' := (.array .char)) (by decide) (by decide)))
  replace F_ends_aa := F_ends_aa.other W3 (Or.inr (slot_ne (Or.inl (hw _ (List.mem_of_getElem? (i := 58) rfl))) (Or.inl (hw _ (List.mem_of_getElem? (i := 53) rfl))) (by decide) (t := (.array .int)) (t' := (.array .char)) (by decide) (by decide)))
  replace F_firstFields_aa := F_firstFields_aa.other W3 (Or.inr (slot_ne (Or.inl (hw _ (List.mem_of_getElem? (i := 60) rfl))) (Or.inl (hw _ (List.mem_of_getElem? (i := 53) rfl))) (by decide) (t := (.array .int)) (t' := (.array .char)) (by decide) (by decide)))
  replace F_lines_aa := F_lines_aa.other W3 (Or.inr (slot_ne (Or.inl (hw _ (List.mem_of_getElem? (i := 62) rfl))) (Or.inl (hw _ (List.mem_of_getElem? (i := 53) rfl))) (by decide) (t := (.array .int)) (t' := (.array .char)) (by decide) (by decide)))
  replace F_faults_aa := F_faults_aa.other W3 (Or.inr (slot_ne (Or.inl (hw _ (List.mem_of_getElem? (i := 66) rfl))) (Or.inl (hw _ (List.mem_of_getElem? (i := 53) rfl))) (by decide) (t := (.array (.object "com/example/vestwright/vestwright/io/CsvFormatException"))) (t' := (.array .char)) (by decide) (by decide)))
  replace F_textUsed_aa := F_textUsed_aa.other W3 (Or.inr (slot_ne (Or.inl (hw _ (List.mem_of_getElem? (i := 115) rfl))) (Or.inl (hw _ (List.mem_of_getElem? (i := 53) rfl))) (by decide) (t := .int) (t' := (.array .char)) (by decide) (by decide)))
  replace F_fields_aa := F_fields_aa.other W3 (Or.inr (slot_ne (Or.inl (hw _ (List.mem_of_getElem? (i := 75) rfl))) (Or.inl (hw _ (List.mem_of_getElem? (i := 53) rfl))) (by decide) (t := .int) (t' := (.array .char)) (by decide) (by decide)))
  replace F_records_aa := F_records_aa.other W3 (Or.inr (slot_ne (Or.inl (hw _ (List.mem_of_getElem? (i := 73) rfl))) (Or.inl (hw _ (List.mem_of_getElem? (i := 53) rfl))) (by decide) (t := .int) (t' := (.array .char)) (by decide) (by decide)))
  replace E_aa := E_aa.wr W3
  replace T_bt := T_bt.other W3 (Ne.symm ne_aa_bt)
  have Z3 := Nat.le_trans Z2 (Keep.of_wr W3).1
  have N3 := Fr.snoc X3 N0 g_aa
  have K3 := K2.wr W3 (Or.inl (List.mem_of_getElem? (i := 0) rfl))
  replace F_text_aa := F_text_aa.same W3
  refine Go.step st3 ?_
  show Go _ _ _ _ _ _ _ (T3.setTop (mkF m 13 #[.val (.ref aa)] []))
  refine Go.step (fun t k => XS.aloadN X3.here hx rfl (hb hby d11_13) rfl rfl k) ?_
  show Go _ _ _ _ _ _ _ (T3.setTop (mkF m 14 #[.val (.ref aa)] [(.ref aa)]))
  refine Go.step (fun t k => XS.sipush X3.here hx rfl (hb hby d11_14) k) ?_
  show Go _ _ _ _ _ _ _ (T3.setTop (mkF m 17 #[.val (.ref aa)] [(.int (256 : Int32)), (.ref aa)]))
  obtain ⟨T4, h4, k4, X4, e4, E4, A4, st4⟩ := newP X3 hx hZ (hw _ (List.mem_of_getElem? (i := 54) rfl)) e3 (g := (mkF m 17 #[.val (.ref aa)] [(.int (256 : Int32)), (.ref aa)])) rfl (hb hby d11_17) rfl (by decide) (cap := 256) (by decide) (by decide) (by decide) (by decide)
  obtain ⟨bs, gz4⟩ : ∃ z, z = h3.size := ⟨_, rfl⟩
  have ne_aa_bs : aa ≠ bs := Nat.ne_of_lt (Nat.lt_of_lt_of_le F_text_aa.lt (Nat.le_of_eq gz4.symm))
  have ne_bt_bs : bt ≠ bs := Nat.ne_of_lt (Nat.lt_of_lt_of_le T_bt.lt (Nat.le_of_eq gz4.symm))
  have g_bs : n0 ≤ bs := Nat.le_trans Z3 (Nat.le_of_eq gz4.symm)
  have sz_bs : h0.size ≤ bs := Nat.le_trans K3.1 (Nat.le_of_eq gz4.symm)
  rw [← gz4] at A4 st4
  replace F_text_aa := F_text_aa.ext E4
  replace F_starts_aa := F_starts_aa.ext E4
  replace F_ends_aa := F_ends_aa.ext E4
  replace F_firstFields_aa := F_firstFields_aa.ext E4
  replace F_lines_aa := F_lines_aa.ext E4
  replace F_faults_aa := F_faults_aa.ext E4
  replace F_textUsed_aa := F_textUsed_aa.ext E4
  replace F_fields_aa := F_fields_aa.ext E4
  replace F_records_aa := F_records_aa.ext E4
  replace E_aa := E_aa.ext E4
  replace T_bt := T_bt.ext E4
  have Z4 := Nat.le_trans Z3 E4.1
  have K4 := K3.ext E4
  have A_bs : AryI Z h4 bs .int 256 (fun _ => (0 : Int32)) := Ary.new A4 rfl
  refine Go.step st4 ?_
  show Go _ _ _ _ _ _ _ (T4.setTop (mkF m 19 #[.val (.ref aa)] [(.ref bs), (.ref aa)]))
  obtain ⟨T5, h5, X5, e5, W5, st5⟩ := putF X4 hx hZ hown (host := "") (Or.inl (hw _ (List.mem_of_getElem? (i := 55) rfl))) Via.refl e4 F_starts_aa E_aa (Or.inl (hw _ (List.mem_of_getElem? (i := 56) rfl))) (hw _ (List.mem_of_getElem? (i := 46) rfl)) (ty := (.array .int)) (by decide) rfl rfl (g := (mkF m 19 #[.val (.ref aa)] [(.ref bs), (.ref aa)])) rfl rfl (hb hby d11_19)
  replace F_text_aa := F_text_aa.other W5 (Or.inr (slot_ne (Or.inl (hw _ (List.mem_of_getElem? (i := 53) rfl))) (Or.inl (hw _ (List.mem_of_getElem? (i := 56) rfl))) (by decide) (t := (.array .char)) (t' := (.array .int)) (by decide) (by decide)))
  replace F_ends_aa := F_ends_aa.other W5 (Or.inr (slot_ne (Or.inl (hw _ (List.mem_of_getElem? (i := 58) rfl))) (Or.inl (hw _ (List.mem_of_getElem? (i := 56) rfl))) (by decide) (t := (.array .int)) (t' := (.array .int)) (by decide) (by decide)))
  replace F_firstFields_aa := F_firstFields_aa.other W5 (Or.inr (slot_ne (Or.inl (hw _ (List.mem_of_getElem? (i := 60) rfl))) (Or.inl (hw _ (List.mem_of_getElem? (i := 56) rfl))) (by decide) (t := (.array .int)) (t' := (.array .int)) (by decide) (by decide)))
  replace F_lines_aa := F_lines_aa.other W5 (Or.inr (slot_ne (Or.inl (hw _ (List.mem_of_getElem? (i := 62) rfl))) (Or.inl (hw _ (List.mem_of_getElem? (i := 56) rfl))) (by decide) (t := (.array .int)) (t' := (.array .int)) (by decide) (by decide)))
  replace F_faults_aa := F_faults_aa.other W5 (Or.inr (slot_ne (Or.inl (hw _ (List.mem_of_getElem? (i := 66) rfl))) (Or.inl (hw _ (List.mem_of_getElem? (i := 56) rfl))) (by decide) (t := (.array (.object "com/example/vestwright/vestwright/io/CsvFormatException"))) (t' := (.array .int)) (by decide) (by decide)))
  replace F_textUsed_aa := F_textUsed_aa.other W5 (Or.inr (slot_ne (Or.inl (hw _ (List.mem_of_getElem? (i := 115) rfl))) (Or.inl (hw _ (List.mem_of_getElem? (i := 56) rfl))) (by decide) (t := .int) (t' := (.array .int)) (by decide) (by decide)))
  replace F_fields_aa := F_fields_aa.other W5 (Or.inr (slot_ne (Or.inl (hw _ (List.mem_of_getElem? (i := 75) rfl))) (Or.inl (hw _ (List.mem_of_getElem? (i := 56) rfl))) (by decide) (t := .int) (t' := (.array .int)) (by decide) (by decide)))
  replace F_records_aa := F_records_aa.other W5 (Or.inr (slot_ne (Or.inl (hw _ (List.mem_of_getElem? (i := 73) rfl))) (Or.inl (hw _ (List.mem_of_getElem? (i := 56) rfl))) (by decide) (t := .int) (t' := (.array .int)) (by decide) (by decide)))
  replace E_aa := E_aa.wr W5
  replace T_bt := T_bt.other W5 (Ne.symm ne_aa_bt)
  replace A_bs := A_bs.other W5 (Ne.symm ne_aa_bs)
  have Z5 := Nat.le_trans Z4 (Keep.of_wr W5).1
  have N5 := Fr.snoc X5 N3 g_aa
  have K5 := K4.wr W5 (Or.inl (List.mem_of_getElem? (i := 0) rfl))
  replace F_starts_aa := F_starts_aa.same W5
  refine Go.step st5 ?_
  show Go _ _ _ _ _ _ _ (T5.setTop (mkF m 22 #[.val (.ref aa)] []))
  refine Go.step (fun t k => XS.aloadN X5.here hx rfl (hb hby d11_22) rfl rfl k) ?_
  show Go _ _ _ _ _ _ _ (T5.setTop (mkF m 23 #[.val (.ref aa)] [(.ref aa)]))
  refine Go.step (fun t k => XS.sipush X5.here hx rfl (hb hby d11_23) k) ?_
  show Go _ _ _ _ _ _ _ (T5.setTop (mkF m 26 #[.val (.ref aa)] [(.int (256 : Int32)), (.ref aa)]))
  obtain ⟨T6, h6, k6, X6, e6, E6, A6, st6⟩ := newP X5 hx hZ (hw _ (List.mem_of_getElem? (i := 54) rfl)) e5 (g := (mkF m 26 #[.val (.ref aa)] [(.int (256 : Int32)), (.ref aa)])) rfl (hb hby d11_26) rfl (by decide) (cap := 256) (by decide) (by decide) (by decide) (by decide)
  obtain ⟨be, gz6⟩ : ∃ z, z = h5.size := ⟨_, rfl⟩
  have ne_aa_be : aa ≠ be := Nat.ne_of_lt (Nat.lt_of_lt_of_le F_text_aa.lt (Nat.le_of_eq gz6.symm))
  have ne_bt_be : bt ≠ be := Nat.ne_of_lt (Nat.lt_of_lt_of_le T_bt.lt (Nat.le_of_eq gz6.symm))
  have ne_bs_be : bs ≠ be := Nat.ne_of_lt (Nat.lt_of_lt_of_le A_bs.lt (Nat.le_of_eq gz6.symm))
  have g_be : n0 ≤ be := Nat.le_trans Z5 (Nat.le_of_eq gz6.symm)
  have sz_be : h0.size ≤ be := Nat.le_trans K5.1 (Nat.le_of_eq gz6.symm)
  rw [← gz6] at A6 st6
  replace F_text_aa := F_text_aa.ext E6
  replace F_starts_aa := F_starts_aa.ext E6
  replace F_ends_aa := F_ends_aa.ext E6
  replace F_firstFields_aa := F_firstFields_aa.ext E6
  replace F_lines_aa := F_lines_aa.ext E6
  replace F_faults_aa := F_faults_aa.ext E6
  replace F_textUsed_aa := F_textUsed_aa.ext E6
  replace F_fields_aa := F_fields_aa.ext E6
  replace F_records_aa := F_records_aa.ext E6
  replace E_aa := E_aa.ext E6
  replace T_bt := T_bt.ext E6
  replace A_bs := A_bs.ext E6
  have Z6 := Nat.le_trans Z5 E6.1
  have K6 := K5.ext E6
  have A_be : AryI Z h6 be .int 256 (fun _ => (0 : Int32)) := Ary.new A6 rfl
  refine Go.step st6 ?_
  show Go _ _ _ _ _ _ _ (T6.setTop (mkF m 28 #[.val (.ref aa)] [(.ref be), (.ref aa)]))
  obtain ⟨T7, h7, X7, e7, W7, st7⟩ := putF X6 hx hZ hown (host := "") (Or.inl (hw _ (List.mem_of_getElem? (i := 57) rfl))) Via.refl e6 F_ends_aa E_aa (Or.inl (hw _ (List.mem_of_getElem? (i := 58) rfl))) (hw _ (List.mem_of_getElem? (i := 46) rfl)) (ty := (.array .int)) (by decide) rfl rfl (g := (mkF m 28 #[.val (.ref aa)] [(.ref be), (.ref aa)])) rfl rfl (hb hby d11_28)
  replace F_text_aa := F_text_aa.other W7 (Or.inr (slot_ne (Or.inl (hw _ (List.mem_of_getElem? (i := 53) rfl))) (Or.inl (hw _ (List.mem_of_getElem? (i := 58) rfl))) (by decide) (t := (.array .char)) (t' := (.array .int)) (by decide) (by decide)))
  replace F_starts_aa := F_starts_aa.other W7 (Or.inr (slot_ne (Or.inl (hw _ (List.mem_of_getElem? (i := 56) rfl))) (Or.inl (hw _ (List.mem_of_getElem? (i := 58) rfl))) (by decide) (t := (.array .int)) (t' := (.array .int)) (by decide) (by decide)))
  replace F_firstFields_aa := F_firstFields_aa.other W7 (Or.inr (slot_ne (Or.inl (hw _ (List.mem_of_getElem? (i := 60) rfl))) (Or.inl (hw _ (List.mem_of_getElem? (i := 58) rfl))) (by decide) (t := (.array .int)) (t' := (.array .int)) (by decide) (by decide)))
  replace F_lines_aa := F_lines_aa.other W7 (Or.inr (slot_ne (Or.inl (hw _ (List.mem_of_getElem? (i := 62) rfl))) (Or.inl (hw _ (List.mem_of_getElem? (i := 58) rfl))) (by decide) (t := (.array .int)) (t' := (.array .int)) (by decide) (by decide)))
  replace F_faults_aa := F_faults_aa.other W7 (Or.inr (slot_ne (Or.inl (hw _ (List.mem_of_getElem? (i := 66) rfl))) (Or.inl (hw _ (List.mem_of_getElem? (i := 58) rfl))) (by decide) (t := (.array (.object "com/example/vestwright/vestwright/io/CsvFormatException"))) (t' := (.array .int)) (by decide) (by decide)))
  replace F_textUsed_aa := F_textUsed_aa.other W7 (Or.inr (slot_ne (Or.inl (hw _ (List.mem_of_getElem? (i := 115) rfl))) (Or.inl (hw _ (List.mem_of_getElem? (i := 58) rfl))) (by decide) (t := .int) (t' := (.array .int)) (by decide) (by decide)))
  replace F_fields_aa := F_fields_aa.other W7 (Or.inr (slot_ne (Or.inl (hw _ (List.mem_of_getElem? (i := 75) rfl))) (Or.inl (hw _ (List.mem_of_getElem? (i := 58) rfl))) (by decide) (t := .int) (t' := (.array .int)) (by decide) (by decide)))
  replace F_records_aa := F_records_aa.other W7 (Or.inr (slot_ne (Or.inl (hw _ (List.mem_of_getElem? (i := 73) rfl))) (Or.inl (hw _ (List.mem_of_getElem? (i := 58) rfl))) (by decide) (t := .int) (t' := (.array .int)) (by decide) (by decide)))
  replace E_aa := E_aa.wr W7
  replace T_bt := T_bt.other W7 (Ne.symm ne_aa_bt)
  replace A_bs := A_bs.other W7 (Ne.symm ne_aa_bs)
  replace A_be := A_be.other W7 (Ne.symm ne_aa_be)
  have Z7 := Nat.le_trans Z6 (Keep.of_wr W7).1
  have N7 := Fr.snoc X7 N5 g_aa
  have K7 := K6.wr W7 (Or.inl (List.mem_of_getElem? (i := 0) rfl))
  replace F_ends_aa := F_ends_aa.same W7
  refine Go.step st7 ?_
  show Go _ _ _ _ _ _ _ (T7.setTop (mkF m 31 #[.val (.ref aa)] []))
  refine Go.step (fun t k => XS.aloadN X7.here hx rfl (hb hby d11_31) rfl rfl k) ?_
  show Go _ _ _ _ _ _ _ (T7.setTop (mkF m 32 #[.val (.ref aa)] [(.ref aa)]))
  refine Go.step (fun t k => XS.bipush X7.here hx rfl (hb hby d11_32) k) ?_
  show Go _ _ _ _ _ _ _ (T7.setTop (mkF m 34 #[.val (.ref aa)] [(.int (64 : Int32)), (.ref aa)]))
  obtain ⟨T8, h8, k8, X8, e8, E8, A8, st8⟩ := newP X7 hx hZ (hw _ (List.mem_of_getElem? (i := 54) rfl)) e7 (g := (mkF m 34 #[.val (.ref aa)] [(.int (64 : Int32)), (.ref aa)])) rfl (hb hby d11_34) rfl (by decide) (cap := 64) (by decide) (by decide) (by decide) (by decide)
  obtain ⟨bf, gz8⟩ : ∃ z, z = h7.size := ⟨_, rfl⟩
  have ne_aa_bf : aa ≠ bf := Nat.ne_of_lt (Nat.lt_of_lt_of_le F_text_aa.lt (Nat.le_of_eq gz8.symm))
  have ne_bt_bf : bt ≠ bf := Nat.ne_of_lt (Nat.lt_of_lt_of_le T_bt.lt (Nat.le_of_eq gz8.symm))
  have ne_bs_bf : bs ≠ bf := Nat.ne_of_lt (Nat.lt_of_lt_of_le A_bs.lt (Nat.le_of_eq gz8.symm))
  have ne_be_bf : be ≠ bf := Nat.ne_of_lt (Nat.lt_of_lt_of_le A_be.lt (Nat.le_of_eq gz8.symm))
  have g_bf : n0 ≤ bf := Nat.le_trans Z7 (Nat.le_of_eq gz8.symm)
  have sz_bf : h0.size ≤ bf := Nat.le_trans K7.1 (Nat.le_of_eq gz8.symm)
  rw [← gz8] at A8 st8
  replace F_text_aa := F_text_aa.ext E8
  replace F_starts_aa := F_starts_aa.ext E8
  replace F_ends_aa := F_ends_aa.ext E8
  replace F_firstFields_aa := F_firstFields_aa.ext E8
  replace F_lines_aa := F_lines_aa.ext E8
  replace F_faults_aa := F_faults_aa.ext E8
  replace F_textUsed_aa := F_textUsed_aa.ext E8
  replace F_fields_aa := F_fields_aa.ext E8
  replace F_records_aa := F_records_aa.ext E8
  replace E_aa := E_aa.ext E8
  replace T_bt := T_bt.ext E8
  replace A_bs := A_bs.ext E8
  replace A_be := A_be.ext E8
  have Z8 := Nat.le_trans Z7 E8.1
  have K8 := K7.ext E8
  have A_bf : AryI Z h8 bf .int 64 (fun _ => (0 : Int32)) := Ary.new A8 rfl
  refine Go.step st8 ?_
  show Go _ _ _ _ _ _ _ (T8.setTop (mkF m 36 #[.val (.ref aa)] [(.ref bf), (.ref aa)]))
  obtain ⟨T9, h9, X9, e9, W9, st9⟩ := putF X8 hx hZ hown (host := "") (Or.inl (hw _ (List.mem_of_getElem? (i := 59) rfl))) Via.refl e8 F_firstFields_aa E_aa (Or.inl (hw _ (List.mem_of_getElem? (i := 60) rfl))) (hw _ (List.mem_of_getElem? (i := 46) rfl)) (ty := (.array .int)) (by decide) rfl rfl (g := (mkF m 36 #[.val (.ref aa)] [(.ref bf), (.ref aa)])) rfl rfl (hb hby d11_36)
  replace F_text_aa := F_text_aa.other W9 (Or.inr (slot_ne (Or.inl (hw _ (List.mem_of_getElem? (i := 53) rfl))) (Or.inl (hw _ (List.mem_of_getElem? (i := 60) rfl))) (by decide) (t := (.array .char)) (t' := (.array .int)) (by decide) (by decide)))
  replace F_starts_aa := F_starts_aa.other W9 (Or.inr (slot_ne (Or.inl (hw _ (List.mem_of_getElem? (i := 56) rfl))) (Or.inl (hw _ (List.mem_of_getElem? (i := 60) rfl))) (by decide) (t := (.array .int)) (t' := (.array .int)) (by decide) (by decide)))
  replace F_ends_aa := F_ends_aa.other W9 (Or.inr (slot_ne (Or.inl (hw _ (List.mem_of_getElem? (i := 58) rfl))) (Or.inl (hw _ (List.mem_of_getElem? (i := 60) rfl))) (by decide) (t := (.array .int)) (t' := (.array .int)) (by decide) (by decide)))
  replace F_lines_aa := F_lines_aa.other W9 (Or.inr (slot_ne (Or.inl (hw _ (List.mem_of_getElem? (i := 62) rfl))) (Or.inl (hw _ (List.mem_of_getElem? (i := 60) rfl))) (by decide) (t := (.array .int)) (t' := (.array .int)) (by decide) (by decide)))
  replace F_faults_aa := F_faults_aa.other W9 (Or.inr (slot_ne (Or.inl (hw _ (List.mem_of_getElem? (i := 66) rfl))) (Or.inl (hw _ (List.mem_of_getElem? (i := 60) rfl))) (by decide) (t := (.array (.object "com/example/vestwright/vestwright/io/CsvFormatException"))) (t' := (.array .int)) (by decide) (by decide)))
  replace F_textUsed_aa := F_textUsed_aa.other W9 (Or.inr (slot_ne (Or.inl (hw _ (List.mem_of_getElem? (i := 115) rfl))) (Or.inl (hw _ (List.mem_of_getElem? (i := 60) rfl))) (by decide) (t := .int) (t' := (.array .int)) (by decide) (by decide)))
  replace F_fields_aa := F_fields_aa.other W9 (Or.inr (slot_ne (Or.inl (hw _ (List.mem_of_getElem? (i := 75) rfl))) (Or.inl (hw _ (List.mem_of_getElem? (i := 60) rfl))) (by decide) (t := .int) (t' := (.array .int)) (by decide) (by decide)))
  replace F_records_aa := F_records_aa.other W9 (Or.inr (slot_ne (Or.inl (hw _ (List.mem_of_getElem? (i := 73) rfl))) (Or.inl (hw _ (List.mem_of_getElem? (i := 60) rfl))) (by decide) (t := .int) (t' := (.array .int)) (by decide) (by decide)))
  replace E_aa := E_aa.wr W9
  replace T_bt := T_bt.other W9 (Ne.symm ne_aa_bt)
  replace A_bs := A_bs.other W9 (Ne.symm ne_aa_bs)
  replace A_be := A_be.other W9 (Ne.symm ne_aa_be)
  replace A_bf := A_bf.other W9 (Ne.symm ne_aa_bf)
  have Z9 := Nat.le_trans Z8 (Keep.of_wr W9).1
  have N9 := Fr.snoc X9 N7 g_aa
  have K9 := K8.wr W9 (Or.inl (List.mem_of_getElem? (i := 0) rfl))
  replace F_firstFields_aa := F_firstFields_aa.same W9
  refine Go.step st9 ?_
  show Go _ _ _ _ _ _ _ (T9.setTop (mkF m 39 #[.val (.ref aa)] []))
  refine Go.step (fun t k => XS.aloadN X9.here hx rfl (hb hby d11_39) rfl rfl k) ?_
  show Go _ _ _ _ _ _ _ (T9.setTop (mkF m 40 #[.val (.ref aa)] [(.ref aa)]))
  refine Go.step (fun t k => XS.bipush X9.here hx rfl (hb hby d11_40) k) ?_
  show Go _ _ _ _ _ _ _ (T9.setTop (mkF m 42 #[.val (.ref aa)] [(.int (64 : Int32)), (.ref aa)]))
  obtain ⟨T10, h10, k10, X10, e10, E10, A10, st10⟩ := newP X9 hx hZ (hw _ (List.mem_of_getElem? (i := 54) rfl)) e9 (g := (mkF m 42 #[.val (.ref aa)] [(.int (64 : Int32)), (.ref aa)])) rfl (hb hby d11_42) rfl (by decide) (cap := 64) (by decide) (by decide) (by decide) (by decide)
  obtain ⟨bn, gz10⟩ : ∃ z, z = h9.size := ⟨_, rfl⟩
  have ne_aa_bn : aa ≠ bn := Nat.ne_of_lt (Nat.lt_of_lt_of_le F_text_aa.lt (Nat.le_of_eq gz10.symm))
  have ne_bt_bn : bt ≠ bn := Nat.ne_of_lt (Nat.lt_of_lt_of_le T_bt.lt (Nat.le_of_eq gz10.symm))
  have ne_bs_bn : bs ≠ bn := Nat.ne_of_lt (Nat.lt_of_lt_of_le A_bs.lt (Nat.le_of_eq gz10.symm))
  have ne_be_bn : be ≠ bn := Nat.ne_of_lt (Nat.lt_of_lt_of_le A_be.lt (Nat.le_of_eq gz10.symm))
  have ne_bf_bn : bf ≠ bn := Nat.ne_of_lt (Nat.lt_of_lt_of_le A_bf.lt (Nat.le_of_eq gz10.symm))
  have g_bn : n0 ≤ bn := Nat.le_trans Z9 (Nat.le_of_eq gz10.symm)
  have sz_bn : h0.size ≤ bn := Nat.le_trans K9.1 (Nat.le_of_eq gz10.symm)
  rw [← gz10] at A10 st10
  replace F_text_aa := F_text_aa.ext E10
  replace F_starts_aa := F_starts_aa.ext E10
  replace F_ends_aa := F_ends_aa.ext E10
  replace F_firstFields_aa := F_firstFields_aa.ext E10
  replace F_lines_aa := F_lines_aa.ext E10
  replace F_faults_aa := F_faults_aa.ext E10
  replace F_textUsed_aa := F_textUsed_aa.ext E10
  replace F_fields_aa := F_fields_aa.ext E10
  replace F_records_aa := F_records_aa.ext E10
  replace E_aa := E_aa.ext E10
  replace T_bt := T_bt.ext E10
  replace A_bs := A_bs.ext E10
  replace A_be := A_be.ext E10
  replace A_bf := A_bf.ext E10
  have Z10 := Nat.le_trans Z9 E10.1
  have K10 := K9.ext E10
  have A_bn : AryI Z h10 bn .int 64 (fun _ => (0 : Int32)) := Ary.new A10 rfl
  refine Go.step st10 ?_
  show Go _ _ _ _ _ _ _ (T10.setTop (mkF m 44 #[.val (.ref aa)] [(.ref bn), (.ref aa)]))
  obtain ⟨T11, h11, X11, e11, W11, st11⟩ := putF X10 hx hZ hown (host := "") (Or.inl (hw _ (List.mem_of_getElem? (i := 61) rfl))) Via.refl e10 F_lines_aa E_aa (Or.inl (hw _ (List.mem_of_getElem? (i := 62) rfl))) (hw _ (List.mem_of_getElem? (i := 46) rfl)) (ty := (.array .int)) (by decide) rfl rfl (g := (mkF m 44 #[.val (.ref aa)] [(.ref bn), (.ref aa)])) rfl rfl (hb hby d11_44)
  replace F_text_aa := F_text_aa.other W11 (Or.inr (slot_ne (Or.inl (hw _ (List.mem_of_getElem? (i := 53) rfl))) (Or.inl (hw _ (List.mem_of_getElem? (i := 62) rfl))) (by decide) (t := (.array .char)) (t' := (.array .int)) (by decide) (by decide)))
  replace F_starts_aa := F_starts_aa.other W11 (Or.inr (slot_ne (Or.inl (hw _ (List.mem_of_getElem? (i := 56) rfl))) (Or.inl (hw _ (List.mem_of_getElem? (i := 62) rfl))) (by decide) (t := (.array .int)) (t' := (.array .int)) (by decide) (by decide)))
  replace F_ends_aa := F_ends_aa.other W11 (Or.inr (slot_ne (Or.inl (hw _ (List.mem_of_getElem? (i := 58) rfl))) (Or.inl (hw _ (List.mem_of_getElem? (i := 62) rfl))) (by decide) (t := (.array .int)) (t' := (.array .int)) (by decide) (by decide)))
  replace F_firstFields_aa := F_firstFields_aa.other W11 (Or.inr (slot_ne (Or.inl (hw _ (List.mem_of_getElem? (i := 60) rfl))) (Or.inl (hw _ (List.mem_of_getElem? (i := 62) rfl))) (by decide) (t := (.array .int)) (t' := (.array .int)) (by decide) (by decide)))
  replace F_faults_aa := F_faults_aa.other W11 (Or.inr (slot_ne (Or.inl (hw _ (List.mem_of_getElem? (i := 66) rfl))) (Or.inl (hw _ (List.mem_of_getElem? (i := 62) rfl))) (by decide) (t := (.array (.object "com/example/vestwright/vestwright/io/CsvFormatException"))) (t' := (.array .int)) (by decide) (by decide)))
  replace F_textUsed_aa := F_textUsed_aa.other W11 (Or.inr (slot_ne (Or.inl (hw _ (List.mem_of_getElem? (i := 115) rfl))) (Or.inl (hw _ (List.mem_of_getElem? (i := 62) rfl))) (by decide) (t := .int) (t' := (.array .int)) (by decide) (by decide)))
  replace F_fields_aa := F_fields_aa.other W11 (Or.inr (slot_ne (Or.inl (hw _ (List.mem_of_getElem? (i := 75) rfl))) (Or.inl (hw _ (List.mem_of_getElem? (i := 62) rfl))) (by decide) (t := .int) (t' := (.array .int)) (by decide) (by decide)))
  replace F_records_aa := F_records_aa.other W11 (Or.inr (slot_ne (Or.inl (hw _ (List.mem_of_getElem? (i := 73) rfl))) (Or.inl (hw _ (List.mem_of_getElem? (i := 62) rfl))) (by decide) (t := .int) (t' := (.array .int)) (by decide) (by decide)))
  replace E_aa := E_aa.wr W11
  replace T_bt := T_bt.other W11 (Ne.symm ne_aa_bt)
  replace A_bs := A_bs.other W11 (Ne.symm ne_aa_bs)
  replace A_be := A_be.other W11 (Ne.symm ne_aa_be)
  replace A_bf := A_bf.other W11 (Ne.symm ne_aa_bf)
  replace A_bn := A_bn.other W11 (Ne.symm ne_aa_bn)
  have Z11 := Nat.le_trans Z10 (Keep.of_wr W11).1
  have N11 := Fr.snoc X11 N9 g_aa
  have K11 := K10.wr W11 (Or.inl (List.mem_of_getElem? (i := 0) rfl))
  replace F_lines_aa := F_lines_aa.same W11
  refine Go.step st11 ?_
  show Go _ _ _ _ _ _ _ (T11.setTop (mkF m 47 #[.val (.ref aa)] []))
  refine Go.step (fun t k => XS.aloadN X11.here hx rfl (hb hby d11_47) rfl rfl k) ?_
  show Go _ _ _ _ _ _ _ (T11.setTop (mkF m 48 #[.val (.ref aa)] [(.ref aa)]))
  refine Go.step (fun t k => XS.bipush X11.here hx rfl (hb hby d11_48) k) ?_
  show Go _ _ _ _ _ _ _ (T11.setTop (mkF m 50 #[.val (.ref aa)] [(.int (64 : Int32)), (.ref aa)]))
  obtain ⟨T12, h12, k12, X12, e12, E12, A12, O12, st12⟩ := newR X11 hx hZ hown (hw _ (List.mem_of_getElem? (i := 63) rfl)) (hw _ (List.mem_of_getElem? (i := 64) rfl)) e11 (g := (mkF m 50 #[.val (.ref aa)] [(.int (64 : Int32)), (.ref aa)])) rfl (hb hby d11_50) rfl (by decide) (cap := 64) (by decide) (by decide) (by decide) (by decide)
  obtain ⟨bx, gz12⟩ : ∃ z, z = h11.size := ⟨_, rfl⟩
  have ne_aa_bx : aa ≠ bx := Nat.ne_of_lt (Nat.lt_of_lt_of_le F_text_aa.lt (Nat.le_of_eq gz12.symm))
  have ne_bt_bx : bt ≠ bx := Nat.ne_of_lt (Nat.lt_of_lt_of_le T_bt.lt (Nat.le_of_eq gz12.symm))
  have ne_bs_bx : bs ≠ bx := Nat.ne_of_lt (Nat.lt_of_lt_of_le A_bs.lt (Nat.le_of_eq gz12.symm))
  have ne_be_bx : be ≠ bx := Nat.ne_of_lt (Nat.lt_of_lt_of_le A_be.lt (Nat.le_of_eq gz12.symm))
  have ne_bf_bx : bf ≠ bx := Nat.ne_of_lt (Nat.lt_of_lt_of_le A_bf.lt (Nat.le_of_eq gz12.symm))
  have ne_bn_bx : bn ≠ bx := Nat.ne_of_lt (Nat.lt_of_lt_of_le A_bn.lt (Nat.le_of_eq gz12.symm))
  have g_bx : n0 ≤ bx := Nat.le_trans Z11 (Nat.le_of_eq gz12.symm)
  have sz_bx : h0.size ≤ bx := Nat.le_trans K11.1 (Nat.le_of_eq gz12.symm)
  rw [← gz12] at A12 st12
  replace F_text_aa := F_text_aa.ext E12
  replace F_starts_aa := F_starts_aa.ext E12
  replace F_ends_aa := F_ends_aa.ext E12
  replace F_firstFields_aa := F_firstFields_aa.ext E12
  replace F_lines_aa := F_lines_aa.ext E12
  replace F_faults_aa := F_faults_aa.ext E12
  replace F_textUsed_aa := F_textUsed_aa.ext E12
  replace F_fields_aa := F_fields_aa.ext E12
  replace F_records_aa := F_records_aa.ext E12
  replace E_aa := E_aa.ext E12
  replace T_bt := T_bt.ext E12
  replace A_bs := A_bs.ext E12
  replace A_be := A_be.ext E12
  replace A_bf := A_bf.ext E12
  replace A_bn := A_bn.ext E12
  have Z12 := Nat.le_trans Z11 E12.1
  have K12 := K11.ext E12
  have A_bx : Ary Z h12 bx (.object "com/example/vestwright/vestwright/io/CsvFormatException") 64 (fun _ => .null) := Ary.new A12 rfl
  refine Go.step st12 ?_
  show Go _ _ _ _ _ _ _ (T12.setTop (mkF m 53 #[.val (.ref aa)] [(.ref bx), (.ref aa)]))
  obtain ⟨T13, h13, X13, e13, W13, st13⟩ := putF X12 hx hZ hown (host := "") (Or.inl (hw _ (List.mem_of_getElem? (i := 65) rfl))) Via.refl e12 F_faults_aa E_aa (Or.inl (hw _ (List.mem_of_getElem? (i := 66) rfl))) (hw _ (List.mem_of_getElem? (i := 46) rfl)) (ty := (.array (.object "com/example/vestwright/vestwright/io/CsvFormatException"))) (by decide) rfl rfl (g := (mkF m 53 #[.val (.ref aa)] [(.ref bx), (.ref aa)])) rfl rfl (hb hby d11_53)
  replace F_text_aa := F_text_aa.other W13 (Or.inr (slot_ne (Or.inl (hw _ (List.mem_of_getElem? (i := 53) rfl))) (Or.inl (hw _ (List.mem_of_getElem? (i := 66) rfl))) (by decide) (t := (.array .char)) (t' := (.array (.object "com/example/vestwright/vestwright/io/CsvFormatException"))) (by decide) (by decide)))
  replace F_starts_aa := F_starts_aa.other W13 (Or.inr (slot_ne (Or.inl (hw _ (List.mem_of_getElem? (i := 56) rfl))) (Or.inl (hw _ (List.mem_of_getElem? (i := 66) rfl))) (by decide) (t := (.array .int)) (t' := (.array (.object "com/example/vestwright/vestwright/io/CsvFormatException"))) (by decide) (by decide)))
  replace F_ends_aa := F_ends_aa.other W13 (Or.inr (slot_ne (Or.inl (hw _ (List.mem_of_getElem? (i := 58) rfl))) (Or.inl (hw _ (List.mem_of_getElem? (i := 66) rfl))) (by decide) (t := (.array .int)) (t' := (.array (.object "com/example/vestwright/vestwright/io/CsvFormatException"))) (by decide) (by decide)))
  replace F_firstFields_aa := F_firstFields_aa.other W13 (Or.inr (slot_ne (Or.inl (hw _ (List.mem_of_getElem? (i := 60) rfl))) (Or.inl (hw _ (List.mem_of_getElem? (i := 66) rfl))) (by decide) (t := (.array .int)) (t' := (.array (.object "com/example/vestwright/vestwright/io/CsvFormatException"))) (by decide) (by decide)))
  replace F_lines_aa := F_lines_aa.other W13 (Or.inr (slot_ne (Or.inl (hw _ (List.mem_of_getElem? (i := 62) rfl))) (Or.inl (hw _ (List.mem_of_getElem? (i := 66) rfl))) (by decide) (t := (.array .int)) (t' := (.array (.object "com/example/vestwright/vestwright/io/CsvFormatException"))) (by decide) (by decide)))
  replace F_textUsed_aa := F_textUsed_aa.other W13 (Or.inr (slot_ne (Or.inl (hw _ (List.mem_of_getElem? (i := 115) rfl))) (Or.inl (hw _ (List.mem_of_getElem? (i := 66) rfl))) (by decide) (t := .int) (t' := (.array (.object "com/example/vestwright/vestwright/io/CsvFormatException"))) (by decide) (by decide)))
  replace F_fields_aa := F_fields_aa.other W13 (Or.inr (slot_ne (Or.inl (hw _ (List.mem_of_getElem? (i := 75) rfl))) (Or.inl (hw _ (List.mem_of_getElem? (i := 66) rfl))) (by decide) (t := .int) (t' := (.array (.object "com/example/vestwright/vestwright/io/CsvFormatException"))) (by decide) (by decide)))
  replace F_records_aa := F_records_aa.other W13 (Or.inr (slot_ne (Or.inl (hw _ (List.mem_of_getElem? (i := 73) rfl))) (Or.inl (hw _ (List.mem_of_getElem? (i := 66) rfl))) (by decide) (t := .int) (t' := (.array (.object "com/example/vestwright/vestwright/io/CsvFormatException"))) (by decide) (by decide)))
  replace E_aa := E_aa.wr W13
  replace T_bt := T_bt.other W13 (Ne.symm ne_aa_bt)
  replace A_bs := A_bs.other W13 (Ne.symm ne_aa_bs)
  replace A_be := A_be.other W13 (Ne.symm ne_aa_be)
  replace A_bf := A_bf.other W13 (Ne.symm ne_aa_bf)
  replace A_bn := A_bn.other W13 (Ne.symm ne_aa_bn)
  replace A_bx := A_bx.other W13 (Ne.symm ne_aa_bx)
  have Z13 := Nat.le_trans Z12 (Keep.of_wr W13).1
  have N13 := Fr.snoc X13 N11 g_aa
  have K13 := K12.wr W13 (Or.inl (List.mem_of_getElem? (i := 0) rfl))
  replace F_faults_aa := F_faults_aa.same W13
  refine Go.step st13 ?_
  show Go _ _ _ _ _ _ _ (T13.setTop (mkF m 56 #[.val (.ref aa)] []))
  refine Go.retV X13 Bd.notSynchronized hx Bd.returns (hb hby d11_56) (by decide) (by decide) ?_
  rw [e13]
  exact ⟨bt, bs, be, bf, bn, bx, rfl, N13, K13, F_text_aa, F_starts_aa, F_ends_aa, F_firstFields_aa, F_lines_aa, F_faults_aa, F_textUsed_aa, F_fields_aa, F_records_aa, T_bt, A_bs, A_be, A_bf, A_bn, sz_bt, sz_bs, sz_be, sz_bf, sz_bn, ne_bt_bs, ne_bt_be, ne_bt_bf, ne_bt_bn, ne_bs_be, ne_bs_bf, ne_bs_bn, ne_be_bf, ne_be_bn, ne_bf_bn, ne_aa_bt, ne_aa_bs, ne_aa_be, ne_aa_bf, ne_aa_bn⟩
theorem d12_0 : decode prog_63_method_3_code 0 = .ok (.aload_n 0, 1) := by decide +kernel
theorem d12_1 : decode prog_63_method_3_code 1 = .ok (.getfield 39, 3) := by decide +kernel
theorem d12_4 : decode prog_63_method_3_code 4 = .ok (.iconst 1, 1) := by decide +kernel
theorem d12_5 : decode prog_63_method_3_code 5 = .ok (.iadd, 1) := by decide +kernel
theorem d12_6 : decode prog_63_method_3_code 6 = .ok (.aload_n 0, 1) := by decide +kernel
theorem d12_7 : decode prog_63_method_3_code 7 = .ok (.getfield 20, 3) := by decide +kernel
theorem d12_10 : decode prog_63_method_3_code 10 = .ok (.arraylength, 1) := by decide +kernel
theorem d12_11 : decode prog_63_method_3_code 11 = .ok (.if_icmp .ne 57, 3) := by decide +kernel
theorem d12_68 : decode prog_63_method_3_code 68 = .ok (.aload_n 0, 1) := by decide +kernel
theorem d12_69 : decode prog_63_method_3_code 69 = .ok (.getfield 20, 3) := by decide +kernel
theorem d12_72 : decode prog_63_method_3_code 72 = .ok (.aload_n 0, 1) := by decide +kernel
theorem d12_73 : decode prog_63_method_3_code 73 = .ok (.getfield 39, 3) := by decide +kernel
theorem d12_76 : decode prog_63_method_3_code 76 = .ok (.aload_n 0, 1) := by decide +kernel
theorem d12_77 : decode prog_63_method_3_code 77 = .ok (.getfield 36, 3) := by decide +kernel
theorem d12_80 : decode prog_63_method_3_code 80 = .ok (.iastore, 1) := by decide +kernel
theorem d12_81 : decode prog_63_method_3_code 81 = .ok (.aload_n 0, 1) := by decide +kernel
theorem d12_82 : decode prog_63_method_3_code 82 = .ok (.getfield 23, 3) := by decide +kernel
theorem d12_85 : decode prog_63_method_3_code 85 = .ok (.aload_n 0, 1) := by decide +kernel
theorem d12_86 : decode prog_63_method_3_code 86 = .ok (.getfield 39, 3) := by decide +kernel
theorem d12_89 : decode prog_63_method_3_code 89 = .ok (.iload_n 1, 1) := by decide +kernel
theorem d12_90 : decode prog_63_method_3_code 90 = .ok (.iastore, 1) := by decide +kernel
theorem d12_91 : decode prog_63_method_3_code 91 = .ok (.return_, 1) := by decide +kernel
theorem pn_12 : plainName "com/example/vestwright/vestwright/io/Records" = true := by first | (simp [plainName, overriddenIn]; done) | decide +kernel
theorem ef_12 (m : MethodId) (x0 : Addr) (x1 : Int32) : entryFrame m #[(.ref x0), (.int x1)] 2 = mkF m 0 #[.val (.ref x0), .val (.int x1)] [] := by first | (simp [entryFrame, mkF, argsToLocals, Value.category]; done) | rfl
def Q12 (Z : State) (aa : Addr) (lv : Int32) (bt : Addr) (bs : Addr) (be : Addr) (bf : Addr) (bn : Addr) (bx : Addr) (tu : Int32) (fv : Int32) (rv : Int32) (kr : Nat) (gf : Nat → Int32) (gn_ : Nat → Int32) (h0 : Heap) (n0 : Nat) (v : Option Value) (h : Heap) (L : List Loc) : Prop := v = none ∧ Fr n0 L ∧ Keep h0 h [bf, bn] ∧ AryI Z h bf .int 64 (up gf kr fv) ∧ AryI Z h bn .int 64 (up gn_ kr lv)
set_option maxRecDepth 65536 in
set_option maxHeartbeats 40000000 in
theorem rm12 (l : Launch) (Z : State) (a0 : Array Value) (hw : ∀ d ∈ tables_1, d.before a0 Z = true) (ws : List Jvm.Cond) (aa : Addr) (lv : Int32) (bt : Addr) (bs : Addr) (be : Addr) (bf : Addr) (bn : Addr) (bx : Addr) (tu : Int32) (fv : Int32) (rv : Int32) (kr : Nat) (gf : Nat → Int32) (gn_ : Nat → Int32) (h0 : Heap) (n0 : Nat) (Z0 : n0 ≤ h0.size) (F_text_aa : Fld Z h0 aa "com/example/vestwright/vestwright/io/Records" "text" "[C" (.ref bt)) (F_starts_aa : Fld Z h0 aa "com/example/vestwright/vestwright/io/Records" "starts" "[I" (.ref bs)) (F_ends_aa : Fld Z h0 aa "com/example/vestwright/vestwright/io/Records" "ends" "[I" (.ref be)) (F_firstFields_aa : Fld Z h0 aa "com/example/vestwright/vestwright/io/Records" "firstFields" "[I" (.ref bf)) (F_lines_aa : Fld Z h0 aa "com/example/vestwright/vestwright/io/Records" "lines" "[I" (.ref bn)) (F_faults_aa : Fld Z h0 aa "com/example/vestwright/vestwright/io/Records" "faults" "[Lcom/example/vestwright/vestwright/io/CsvFormatException;" (.ref bx)) (F_textUsed_aa : Fld Z h0 aa "com/example/vestwright/vestwright/io/Records" "textUsed" "I" (.int tu)) (F_fields_aa : Fld Z h0 aa "com/example/vestwright/vestwright/io/Records" "fields" "I" (.int fv)) (F_records_aa : Fld Z h0 aa "com/example/vestwright/vestwright/io/Records" "records" "I" (.int rv)) (E_aa : Exa Z h0 aa "com/example/vestwright/vestwright/io/Records") (g_bf : n0 ≤ bf) (g_bn : n0 ≤ bn) (A_bf : AryI Z h0 bf .int 64 gf) (A_bn : AryI Z h0 bn .int 64 gn_) (ne_bf_bn : bf ≠ bn) (ne_aa_bf : aa ≠ bf) (ne_aa_bn : aa ≠ bn) (hrv : (rv.toInt = (kr : Int))) (hkr : (kr < 63)) :
    MetFree l (⟨"com/example/vestwright/vestwright/io/Records", "startRecord", "(I)V"⟩ : MethodName) (head1 (Jvm.Cond.code (⟨"com/example/vestwright/vestwright/io/Records", "startRecord", "(I)V"⟩ : MethodName) prog_63_method_3_code 2 none :: ws) ({ frames := 0, cells := 0, slots := 0, locals := 0 } : Room)) (fun a U => a = #[(.ref aa), (.int lv)] ∧ Z.Warmed39 U.vm ∧ U.heap = h0) (fun _ _ _ _ _ => True) (fun _ U o U' => ∃ v L, o = .returned v ∧ Q12 Z aa lv bt bs be bf bn bx tu fv rv kr gf gn_ h0 n0 v U'.heap L ∧ FrameEnd U o U' L ({ frames := 0, cells := 0, slots := 0, locals := 0 } : Room).cells ({ frames := 0, cells := 0, slots := 0, locals := 0 } : Room).slots) := by
  refine MetFree.of_bodySF (plainFor_of_name pn_12) hisR ?_
  intro p e s m args below meth c s₁ Bd hml0 hP hK
  obtain ⟨rfl, hZ, hh⟩ := hP
  have hx := Bd.exec
  have hby := Bd.bytes
  have hml : c.maxLocals = 2 := hml0
  have hown : s.vm.findClass "com/example/vestwright/vestwright/io/Records" = some m.cls := findClass_of_methodNamed Bd.named
  have hnm := (name_of_methodNamed Bd.named Bd.method).1
  have X0 : Stand p l e ({ frames := 0, cells := 0, slots := 0, locals := 0 } : Room) s m #[(.ref aa), (.int lv)] below meth c s₁ [] 0 0 := Stand.of_body Bd
  have e0 : s₁.heap = h0 := by rw [← hh, Bd.state]; rfl
  have N0 := Fr.nil n0
  have K0 := Keep.refl h0 ([bf, bn] : List Addr)
  show Go p e below s (Q12 Z aa lv bt bs be bf bn bx tu fv rv kr gf gn_ h0 n0) ({ frames := 0, cells := 0, slots := 0, locals := 0 } : Room).cells ({ frames := 0, cells := 0, slots := 0, locals := 0 } : Room).slots (s₁.setTop (entryFrame m #[(.ref aa), (.int lv)] 2))
  rw [ef_12]
  show Go _ _ _ _ _ _ _ (s₁.setTop (mkF m 0 #[.val (.ref aa), .val (.int lv)] []))
  refine Go.step (fun t k => XS.aloadN X0.here hx rfl (hb hby d12_0) rfl rfl k) ?_
  show Go _ _ _ _ _ _ _ (s₁.setTop (mkF m 1 #[.val (.ref aa), .val (.int lv)] [(.ref aa)]))
  obtain ⟨T1, X1, e1, st1⟩ := getF X0 hx hZ hown (host := "") (Or.inl (hw _ (List.mem_of_getElem? (i := 72) rfl))) Via.refl e0 F_records_aa (g := (mkF m 1 #[.val (.ref aa), .val (.int lv)] [(.ref aa)])) rfl rfl (hb hby d12_1)
  refine Go.step st1 ?_
  show Go _ _ _ _ _ _ _ (T1.setTop (mkF m 4 #[.val (.ref aa), .val (.int lv)] [(.int rv)]))
  refine Go.step (fun t k => XS.iconst X1.here hx rfl (hb hby d12_4) k) ?_
  show Go _ _ _ _ _ _ _ (T1.setTop (mkF m 5 #[.val (.ref aa), .val (.int lv)] [(.int (1 : Int32)), (.int rv)]))
  refine Go.step (fun t k => XS.iadd X1.here hx rfl (hb hby d12_5) rfl k) ?_
  show Go _ _ _ _ _ _ _ (T1.setTop (mkF m 6 #[.val (.ref aa), .val (.int lv)] [(.int (rv + (1 : Int32)))]))
  refine Go.step (fun t k => XS.aloadN X1.here hx rfl (hb hby d12_6) rfl rfl k) ?_
  show Go _ _ _ _ _ _ _ (T1.setTop (mkF m 7 #[.val (.ref aa), .val (.int lv)] [(.ref aa), (.int (rv + (1 : Int32)))]))
  obtain ⟨T2, X2, e2, st2⟩ := getF X1 hx hZ hown (host := "") (Or.inl (hw _ (List.mem_of_getElem? (i := 59) rfl))) Via.refl e1 F_firstFields_aa (g := (mkF m 7 #[.val (.ref aa), .val (.int lv)] [(.ref aa), (.int (rv + (1 : Int32)))])) rfl rfl (hb hby d12_7)
  refine Go.step st2 ?_
  show Go _ _ _ _ _ _ _ (T2.setTop (mkF m 10 #[.val (.ref aa), .val (.int lv)] [(.ref bf), (.int (rv + (1 : Int32)))]))
  refine Go.step (own_len X2 hx hZ e2 A_bf (z := (64 : Int32)) rfl (f := (mkF m 10 #[.val (.ref aa), .val (.int lv)] [(.ref bf), (.int (rv + (1 : Int32)))])) rfl rfl (hb hby d12_10)) ?_
  show Go _ _ _ _ _ _ _ (T2.setTop (mkF m 11 #[.val (.ref aa), .val (.int lv)] [(.int (64 : Int32)), (.int (rv + (1 : Int32)))]))
  refine Go.step (fun t k => XS.icmpYes X2.here hx rfl (pc0 := 11) (pc' := 68) rfl (hb hby d12_11) rfl (feq (own_neq_ (j := 64) (own_inc hrv (by omega)) rfl (by omega) : ¬ (rv + (1 : Int32)) = (64 : Int32))).2 (by decide) (by decide) k) ?_
  show Go _ _ _ _ _ _ _ (T2.setTop (mkF m 68 #[.val (.ref aa), .val (.int lv)] []))
  refine Go.step (fun t k => XS.aloadN X2.here hx rfl (hb hby d12_68) rfl rfl k) ?_
  show Go _ _ _ _ _ _ _ (T2.setTop (mkF m 69 #[.val (.ref aa), .val (.int lv)] [(.ref aa)]))
  obtain ⟨T4, X4, e4, st4⟩ := getF X2 hx hZ hown (host := "") (Or.inl (hw _ (List.mem_of_getElem? (i := 59) rfl))) Via.refl e2 F_firstFields_aa (g := (mkF m 69 #[.val (.ref aa), .val (.int lv)] [(.ref aa)])) rfl rfl (hb hby d12_69)
  refine Go.step st4 ?_
  show Go _ _ _ _ _ _ _ (T4.setTop (mkF m 72 #[.val (.ref aa), .val (.int lv)] [(.ref bf)]))
  refine Go.step (fun t k => XS.aloadN X4.here hx rfl (hb hby d12_72) rfl rfl k) ?_
  show Go _ _ _ _ _ _ _ (T4.setTop (mkF m 73 #[.val (.ref aa), .val (.int lv)] [(.ref aa), (.ref bf)]))
  obtain ⟨T5, X5, e5, st5⟩ := getF X4 hx hZ hown (host := "") (Or.inl (hw _ (List.mem_of_getElem? (i := 72) rfl))) Via.refl e4 F_records_aa (g := (mkF m 73 #[.val (.ref aa), .val (.int lv)] [(.ref aa), (.ref bf)])) rfl rfl (hb hby d12_73)
  refine Go.step st5 ?_
  show Go _ _ _ _ _ _ _ (T5.setTop (mkF m 76 #[.val (.ref aa), .val (.int lv)] [(.int rv), (.ref bf)]))
  refine Go.step (fun t k => XS.aloadN X5.here hx rfl (hb hby d12_76) rfl rfl k) ?_
  show Go _ _ _ _ _ _ _ (T5.setTop (mkF m 77 #[.val (.ref aa), .val (.int lv)] [(.ref aa), (.int rv), (.ref bf)]))
  obtain ⟨T6, X6, e6, st6⟩ := getF X5 hx hZ hown (host := "") (Or.inl (hw _ (List.mem_of_getElem? (i := 74) rfl))) Via.refl e5 F_fields_aa (g := (mkF m 77 #[.val (.ref aa), .val (.int lv)] [(.ref aa), (.int rv), (.ref bf)])) rfl rfl (hb hby d12_77)
  refine Go.step st6 ?_
  show Go _ _ _ _ _ _ _ (T6.setTop (mkF m 80 #[.val (.ref aa), .val (.int lv)] [(.int fv), (.int rv), (.ref bf)]))
  obtain ⟨T7, h7, X7, e7, W7, st7⟩ := own_stI X6 hx hZ e6 A_bf kr hrv (by omega) (f := (mkF m 80 #[.val (.ref aa), .val (.int lv)] [(.int fv), (.int rv), (.ref bf)])) rfl rfl (hb hby d12_80)
  replace F_text_aa := F_text_aa.other W7 (Or.inl ne_aa_bf)
  replace F_starts_aa := F_starts_aa.other W7 (Or.inl ne_aa_bf)
  replace F_ends_aa := F_ends_aa.other W7 (Or.inl ne_aa_bf)
  replace F_firstFields_aa := F_firstFields_aa.other W7 (Or.inl ne_aa_bf)
  replace F_lines_aa := F_lines_aa.other W7 (Or.inl ne_aa_bf)
  replace F_faults_aa := F_faults_aa.other W7 (Or.inl ne_aa_bf)
  replace F_textUsed_aa := F_textUsed_aa.other W7 (Or.inl ne_aa_bf)
  replace F_fields_aa := F_fields_aa.other W7 (Or.inl ne_aa_bf)
  replace F_records_aa := F_records_aa.other W7 (Or.inl ne_aa_bf)
  replace E_aa := E_aa.wr W7
  replace A_bn := A_bn.other W7 (Ne.symm ne_bf_bn)
  have Z7 := Nat.le_trans Z0 (Keep.of_wr W7).1
  have N7 := Fr.snoc X7 N0 g_bf
  have K7 := K0.wr W7 (Or.inl (List.mem_of_getElem? (i := 0) rfl))
  replace A_bf := A_bf.setI W7
  refine Go.step st7 ?_
  show Go _ _ _ _ _ _ _ (T7.setTop (mkF m 81 #[.val (.ref aa), .val (.int lv)] []))
  refine Go.step (fun t k => XS.aloadN X7.here hx rfl (hb hby d12_81) rfl rfl k) ?_
  show Go _ _ _ _ _ _ _ (T7.setTop (mkF m 82 #[.val (.ref aa), .val (.int lv)] [(.ref aa)]))
  obtain ⟨T8, X8, e8, st8⟩ := getF X7 hx hZ hown (host := "") (Or.inl (hw _ (List.mem_of_getElem? (i := 61) rfl))) Via.refl e7 F_lines_aa (g := (mkF m 82 #[.val (.ref aa), .val (.int lv)] [(.ref aa)])) rfl rfl (hb hby d12_82)
  refine Go.step st8 ?_
  show Go _ _ _ _ _ _ _ (T8.setTop (mkF m 85 #[.val (.ref aa), .val (.int lv)] [(.ref bn)]))
  refine Go.step (fun t k => XS.aloadN X8.here hx rfl (hb hby d12_85) rfl rfl k) ?_
  show Go _ _ _ _ _ _ _ (T8.setTop (mkF m 86 #[.val (.ref aa), .val (.int lv)] [(.ref aa), (.ref bn)]))
  obtain ⟨T9, X9, e9, st9⟩ := getF X8 hx hZ hown (host := "") (Or.inl (hw _ (List.mem_of_getElem? (i := 72) rfl))) Via.refl e8 F_records_aa (g := (mkF m 86 #[.val (.ref aa), .val (.int lv)] [(.ref aa), (.ref bn)])) rfl rfl (hb hby d12_86)
  refine Go.step st9 ?_
  show Go _ _ _ _ _ _ _ (T9.setTop (mkF m 89 #[.val (.ref aa), .val (.int lv)] [(.int rv), (.ref bn)]))
  refine Go.step (fun t k => XS.iloadN X9.here hx rfl (hb hby d12_89) rfl k) ?_
  show Go _ _ _ _ _ _ _ (T9.setTop (mkF m 90 #[.val (.ref aa), .val (.int lv)] [(.int lv), (.int rv), (.ref bn)]))
  obtain ⟨T10, h10, X10, e10, W10, st10⟩ := own_stI X9 hx hZ e9 A_bn kr hrv (by omega) (f := (mkF m 90 #[.val (.ref aa), .val (.int lv)] [(.int lv), (.int rv), (.ref bn)])) rfl rfl (hb hby d12_90)
  replace F_text_aa := F_text_aa.other W10 (Or.inl ne_aa_bn)
  replace F_starts_aa := F_starts_aa.other W10 (Or.inl ne_aa_bn)
  replace F_ends_aa := F_ends_aa.other W10 (Or.inl ne_aa_bn)
  replace F_firstFields_aa := F_firstFields_aa.other W10 (Or.inl ne_aa_bn)
  replace F_lines_aa := F_lines_aa.other W10 (Or.inl ne_aa_bn)
  replace F_faults_aa := F_faults_aa.other W10 (Or.inl ne_aa_bn)
  replace F_textUsed_aa := F_textUsed_aa.other W10 (Or.inl ne_aa_bn)
  replace F_fields_aa := F_fields_aa.other W10 (Or.inl ne_aa_bn)
  replace F_records_aa := F_records_aa.other W10 (Or.inl ne_aa_bn)
  replace E_aa := E_aa.wr W10
  replace A_bf := A_bf.other W10 ne_bf_bn
  have Z10 := Nat.le_trans Z7 (Keep.of_wr W10).1
  have N10 := Fr.snoc X10 N7 g_bn
  have K10 := K7.wr W10 (Or.inl (List.mem_of_getElem? (i := 1) rfl))
  replace A_bn := A_bn.setI W10
  refine Go.step st10 ?_
  show Go _ _ _ _ _ _ _ (T10.setTop (mkF m 91 #[.val (.ref aa), .val (.int lv)] []))
  refine Go.retV X10 Bd.notSynchronized hx Bd.returns (hb hby d12_91) (by decide) (by decide) ?_
  rw [e10]
  exact ⟨rfl, N10, K10, A_bf, A_bn⟩
theorem d13_0 : decode prog_63_method_4_code 0 = .ok (.aload_n 0, 1) := by decide +kernel
theorem d13_1 : decode prog_63_method_4_code 1 = .ok (.dup, 1) := by decide +kernel
theorem d13_2 : decode prog_63_method_4_code 2 = .ok (.getfield 39, 3) := by decide +kernel
theorem d13_5 : decode prog_63_method_4_code 5 = .ok (.iconst 1, 1) := by decide +kernel
theorem d13_6 : decode prog_63_method_4_code 6 = .ok (.iadd, 1) := by decide +kernel
theorem d13_7 : decode prog_63_method_4_code 7 = .ok (.putfield 39, 3) := by decide +kernel
theorem d13_10 : decode prog_63_method_4_code 10 = .ok (.aload_n 0, 1) := by decide +kernel
theorem d13_11 : decode prog_63_method_4_code 11 = .ok (.getfield 20, 3) := by decide +kernel
theorem d13_14 : decode prog_63_method_4_code 14 = .ok (.aload_n 0, 1) := by decide +kernel
theorem d13_15 : decode prog_63_method_4_code 15 = .ok (.getfield 39, 3) := by decide +kernel
theorem d13_18 : decode prog_63_method_4_code 18 = .ok (.aload_n 0, 1) := by decide +kernel
theorem d13_19 : decode prog_63_method_4_code 19 = .ok (.getfield 36, 3) := by decide +kernel
theorem d13_22 : decode prog_63_method_4_code 22 = .ok (.iastore, 1) := by decide +kernel
theorem d13_23 : decode prog_63_method_4_code 23 = .ok (.return_, 1) := by decide +kernel
theorem pn_13 : plainName "com/example/vestwright/vestwright/io/Records" = true := by first | (simp [plainName, overriddenIn]; done) | decide +kernel
theorem ef_13 (m : MethodId) (x0 : Addr) : entryFrame m #[(.ref x0)] 1 = mkF m 0 #[.val (.ref x0)] [] := by first | (simp [entryFrame, mkF, argsToLocals, Value.category]; done) | rfl
def Q13 (Z : State) (aa : Addr) (bt : Addr) (bs : Addr) (be : Addr) (bf : Addr) (bn : Addr) (bx : Addr) (tu : Int32) (fv : Int32) (rv : Int32) (kr : Nat) (gf : Nat → Int32) (h0 : Heap) (n0 : Nat) (v : Option Value) (h : Heap) (L : List Loc) : Prop := v = none ∧ Fr n0 L ∧ Keep h0 h [aa, bf] ∧ Fld Z h aa "com/example/vestwright/vestwright/io/Records" "text" "[C" (.ref bt) ∧ Fld Z h aa "com/example/vestwright/vestwright/io/Records" "starts" "[I" (.ref bs) ∧ Fld Z h aa "com/example/vestwright/vestwright/io/Records" "ends" "[I" (.ref be) ∧ Fld Z h aa "com/example/vestwright/vestwright/io/Records" "firstFields" "[I" (.ref bf) ∧ Fld Z h aa "com/example/vestwright/vestwright/io/Records" "lines" "[I" (.ref bn) ∧ Fld Z h aa "com/example/vestwright/vestwright/io/Records" "faults" "[Lcom/example/vestwright/vestwright/io/CsvFormatException;" (.ref bx) ∧ Fld Z h aa "com/example/vestwright/vestwright/io/Records" "textUsed" "I" (.int tu) ∧ Fld Z h aa "com/example/vestwright/vestwright/io/Records" "fields" "I" (.int fv) ∧ Fld Z h aa "com/example/vestwright/vestwright/io/Records" "records" "I" (.int (rv + (1 : Int32))) ∧ AryI Z h bf .int 64 (up gf (kr + 1) fv)
set_option maxRecDepth 65536 in
set_option maxHeartbeats 40000000 in
theorem rm13 (l : Launch) (Z : State) (a0 : Array Value) (hw : ∀ d ∈ tables_1, d.before a0 Z = true) (ws : List Jvm.Cond) (aa : Addr) (bt : Addr) (bs : Addr) (be : Addr) (bf : Addr) (bn : Addr) (bx : Addr) (tu : Int32) (fv : Int32) (rv : Int32) (kr : Nat) (gf : Nat → Int32) (h0 : Heap) (n0 : Nat) (Z0 : n0 ≤ h0.size) (F_text_aa : Fld Z h0 aa "com/example/vestwright/vestwright/io/Records" "text" "[C" (.ref bt)) (F_starts_aa : Fld Z h0 aa "com/example/vestwright/vestwright/io/Records" "starts" "[I" (.ref bs)) (F_ends_aa : Fld Z h0 aa "com/example/vestwright/vestwright/io/Records" "ends" "[I" (.ref be)) (F_firstFields_aa : Fld Z h0 aa "com/example/vestwright/vestwright/io/Records" "firstFields" "[I" (.ref bf)) (F_lines_aa : Fld Z h0 aa "com/example/vestwright/vestwright/io/Records" "lines" "[I" (.ref bn)) (F_faults_aa : Fld Z h0 aa "com/example/vestwright/vestwright/io/Records" "faults" "[Lcom/example/vestwright/vestwright/io/CsvFormatException;" (.ref bx)) (F_textUsed_aa : Fld Z h0 aa "com/example/vestwright/vestwright/io/Records" "textUsed" "I" (.int tu)) (F_fields_aa : Fld Z h0 aa "com/example/vestwright/vestwright/io/Records" "fields" "I" (.int fv)) (F_records_aa : Fld Z h0 aa "com/example/vestwright/vestwright/io/Records" "records" "I" (.int rv)) (E_aa : Exa Z h0 aa "com/example/vestwright/vestwright/io/Records") (g_aa : n0 ≤ aa) (g_bf : n0 ≤ bf) (A_bf : AryI Z h0 bf .int 64 gf) (ne_aa_bf : aa ≠ bf) (hrv : (rv.toInt = (kr : Int))) (hkr : (kr < 63)) :
    MetFree l (⟨"com/example/vestwright/vestwright/io/Records", "endRecord", "()V"⟩ : MethodName) (head1 (Jvm.Cond.code (⟨"com/example/vestwright/vestwright/io/Records", "endRecord", "()V"⟩ : MethodName) prog_63_method_4_code 1 none :: ws) ({ frames := 0, cells := 0, slots := 0, locals := 0 } : Room)) (fun a U => a = #[(.ref aa)] ∧ Z.Warmed39 U.vm ∧ U.heap = h0) (fun _ _ _ _ _ => True) (fun _ U o U' => ∃ v L, o = .returned v ∧ Q13 Z aa bt bs be bf bn bx tu fv rv kr gf h0 n0 v U'.heap L ∧ FrameEnd U o U' L ({ frames := 0, cells := 0, slots := 0, locals := 0 } : Room).cells ({ frames := 0, cells := 0, slots := 0, locals := 0 } : Room).slots) := by
  refine MetFree.of_bodySF (plainFor_of_name pn_13) hisR ?_
  intro p e s m args below meth c s₁ Bd hml0 hP hK
  obtain ⟨rfl, hZ, hh⟩ := hP
  have hx := Bd.exec
  have hby := Bd.bytes
  have hml : c.maxLocals = 1 := hml0
  have hown : s.vm.findClass "com/example/vestwright/vestwright/io/Records" = some m.cls := findClass_of_methodNamed Bd.named
  have hnm := (name_of_methodNamed Bd.named Bd.method).1
  have X0 : Stand p l e ({ frames := 0, cells := 0, slots := 0, locals := 0 } : Room) s m #[(.ref aa)] below meth c s₁ [] 0 0 := Stand.of_body Bd
  have e0 : s₁.heap = h0 := by rw [← hh, Bd.state]; rfl
  have N0 := Fr.nil n0
  have K0 := Keep.refl h0 ([aa, bf] : List Addr)
  show Go p e below s (Q13 Z aa bt bs be bf bn bx tu fv rv kr gf h0 n0) ({ frames := 0, cells := 0, slots := 0, locals := 0 } : Room).cells ({ frames := 0, cells := 0, slots := 0, locals := 0 } : Room).slots (s₁.setTop (entryFrame m #[(.ref aa)] 1))
  rw [ef_13]
  show Go _ _ _ _ _ _ _ (s₁.setTop (mkF m 0 #[.val (.ref aa)] []))
  refine Go.step (fun t k => XS.aloadN X0.here hx rfl (hb hby d13_0) rfl rfl k) ?_
  show Go _ _ _ _ _ _ _ (s₁.setTop (mkF m 1 #[.val (.ref aa)] [(.ref aa)]))
  refine Go.step (fun t k => XS.dup X0.here hx rfl (hb hby d13_1) rfl rfl k) ?_
  show Go _ _ _ _ _ _ _ (s₁.setTop (mkF m 2 #[.val (.ref aa)] [(.ref aa), (.ref aa)]))
  obtain ⟨T1, X1, e1, st1⟩ := getF X0 hx hZ hown (host := "") (Or.inl (hw _ (List.mem_of_getElem? (i := 72) rfl))) Via.refl e0 F_records_aa (g := (mkF m 2 #[.val (.ref aa)] [(.ref aa), (.ref aa)])) rfl rfl (hb hby d13_2)
  refine Go.step st1 ?_
  show Go _ _ _ _ _ _ _ (T1.setTop (mkF m 5 #[.val (.ref aa)] [(.int rv), (.ref aa)]))
  refine Go.step (fun t k => XS.iconst X1.here hx rfl (hb hby d13_5) k) ?_
  show Go _ _ _ _ _ _ _ (T1.setTop (mkF m 6 #[.val (.ref aa)] [(.int (1 : Int32)), (.int rv), (.ref aa)]))
  refine Go.step (fun t k => XS.iadd X1.here hx rfl (hb hby d13_6) rfl k) ?_
  show Go _ _ _ _ _ _ _ (T1.setTop (mkF m 7 #[.val (.ref aa)] [(.int (rv + (1 : Int32))), (.ref aa)]))
  obtain ⟨T2, h2, X2, e2, W2, st2⟩ := putF X1 hx hZ hown (host := "") (Or.inl (hw _ (List.mem_of_getElem? (i := 72) rfl))) Via.refl e1 F_records_aa E_aa (Or.inl (hw _ (List.mem_of_getElem? (i := 73) rfl))) (hw _ (List.mem_of_getElem? (i := 46) rfl)) (ty := .int) (by decide) rfl rfl (g := (mkF m 7 #[.val (.ref aa)] [(.int (rv + (1 : Int32))), (.ref aa)])) rfl rfl (hb hby d13_7)
  replace F_text_aa := F_text_aa.other W2 (Or.inr (slot_ne (Or.inl (hw _ (List.mem_of_getElem? (i := 53) rfl))) (Or.inl (hw _ (List.mem_of_getElem? (i := 73) rfl))) (by decide) (t := (.array .char)) (t' := .int) (by decide) (by decide)))
  replace F_starts_aa := F_starts_aa.other W2 (Or.inr (slot_ne (Or.inl (hw _ (List.mem_of_getElem? (i := 56) rfl))) (Or.inl (hw _ (List.mem_of_getElem? (i := 73) rfl))) (by decide) (t := (.array .int)) (t' := .int) (by decide) (by decide)))
  replace F_ends_aa := F_ends_aa.other W2 (Or.inr (slot_ne (Or.inl (hw _ (List.mem_of_getElem? (i := 58) rfl))) (Or.inl (hw _ (List.mem_of_getElem? (i := 73) rfl))) (by decide) (t := (.array .int)) (t' := .int) (by decide) (by decide)))
  replace F_firstFields_aa := F_firstFields_aa.other W2 (Or.inr (slot_ne (Or.inl (hw _ (List.mem_of_getElem? (i := 60) rfl))) (Or.inl (hw _ (List.mem_of_getElem? (i := 73) rfl))) (by decide) (t := (.array .int)) (t' := .int) (by decide) (by decide)))
  replace F_lines_aa := F_lines_aa.other W2 (Or.inr (slot_ne (Or.inl (hw _ (List.mem_of_getElem? (i := 62) rfl))) (Or.inl (hw _ (List.mem_of_getElem? (i := 73) rfl))) (by decide) (t := (.array .int)) (t' := .int) (by decide) (by decide)))
  replace F_faults_aa := F_faults_aa.other W2 (Or.inr (slot_ne (Or.inl (hw _ (List.mem_of_getElem? (i := 66) rfl))) (Or.inl (hw _ (List.mem_of_getElem? (i := 73) rfl))) (by decide) (t := (.array (.object "com/example/vestwright/vestwright/io/CsvFormatException"))) (t' := .int) (by decide) (by decide)))
  replace F_textUsed_aa := F_textUsed_aa.other W2 (Or.inr (slot_ne (Or.inl (hw _ (List.mem_of_getElem? (i := 115) rfl))) (Or.inl (hw _ (List.mem_of_getElem? (i := 73) rfl))) (by decide) (t := .int) (t' := .int) (by decide) (by decide)))
  replace F_fields_aa := F_fields_aa.other W2 (Or.inr (slot_ne (Or.inl (hw _ (List.mem_of_getElem? (i := 75) rfl))) (Or.inl (hw _ (List.mem_of_getElem? (i := 73) rfl))) (by decide) (t := .int) (t' := .int) (by decide) (by decide)))
  replace E_aa := E_aa.wr W2
  replace A_bf := A_bf.other W2 (Ne.symm ne_aa_bf)
  have Z2 := Nat.le_trans Z0 (Keep.of_wr W2).1
  have N2 := Fr.snoc X2 N0 g_aa
  have K2 := K0.wr W2 (Or.inl (List.mem_of_getElem? (i := 0) rfl))
  replace F_records_aa := F_records_aa.same W2
  refine Go.step st2 ?_
  show Go _ _ _ _ _ _ _ (T2.setTop (mkF m 10 #[.val (.ref aa)] []))
  refine Go.step (fun t k => XS.aloadN X2.here hx rfl (hb hby d13_10) rfl rfl k) ?_
  show Go _ _ _ _ _ _ _ (T2.setTop (mkF m 11 #[.val (.ref aa)] [(.ref aa)]))
  obtain ⟨T3, X3, e3, st3⟩ := getF X2 hx hZ hown (host := "") (Or.inl (hw _ (List.mem_of_getElem? (i := 59) rfl))) Via.refl e2 F_firstFields_aa (g := (mkF m 11 #[.val (.ref aa)] [(.ref aa)])) rfl rfl (hb hby d13_11)
  refine Go.step st3 ?_
  show Go _ _ _ _ _ _ _ (T3.setTop (mkF m 14 #[.val (.ref aa)] [(.ref bf)]))
  refine Go.step (fun t k => XS.aloadN X3.here hx rfl (hb hby d13_14) rfl rfl k) ?_
  show Go _ _ _ _ _ _ _ (T3.setTop (mkF m 15 #[.val (.ref aa)] [(.ref aa), (.ref bf)]))
  obtain ⟨T4, X4, e4, st4⟩ := getF X3 hx hZ hown (host := "") (Or.inl (hw _ (List.mem_of_getElem? (i := 72) rfl))) Via.refl e3 F_records_aa (g := (mkF m 15 #[.val (.ref aa)] [(.ref aa), (.ref bf)])) rfl rfl (hb hby d13_15)
  refine Go.step st4 ?_
  show Go _ _ _ _ _ _ _ (T4.setTop (mkF m 18 #[.val (.ref aa)] [(.int (rv + (1 : Int32))), (.ref bf)]))
  refine Go.step (fun t k => XS.aloadN X4.here hx rfl (hb hby d13_18) rfl rfl k) ?_
  show Go _ _ _ _ _ _ _ (T4.setTop (mkF m 19 #[.val (.ref aa)] [(.ref aa), (.int (rv + (1 : Int32))), (.ref bf)]))
  obtain ⟨T5, X5, e5, st5⟩ := getF X4 hx hZ hown (host := "") (Or.inl (hw _ (List.mem_of_getElem? (i := 74) rfl))) Via.refl e4 F_fields_aa (g := (mkF m 19 #[.val (.ref aa)] [(.ref aa), (.int (rv + (1 : Int32))), (.ref bf)])) rfl rfl (hb hby d13_19)
  refine Go.step st5 ?_
  show Go _ _ _ _ _ _ _ (T5.setTop (mkF m 22 #[.val (.ref aa)] [(.int fv), (.int (rv + (1 : Int32))), (.ref bf)]))
  obtain ⟨T6, h6, X6, e6, W6, st6⟩ := own_stI X5 hx hZ e5 A_bf (kr + 1) (own_inc hrv (by omega)) (by omega) (f := (mkF m 22 #[.val (.ref aa)] [(.int fv), (.int (rv + (1 : Int32))), (.ref bf)])) rfl rfl (hb hby d13_22)
  replace F_text_aa := F_text_aa.other W6 (Or.inl ne_aa_bf)
  replace F_starts_aa := F_starts_aa.other W6 (Or.inl ne_aa_bf)
  replace F_ends_aa := F_ends_aa.other W6 (Or.inl ne_aa_bf)
  replace F_firstFields_aa := F_firstFields_aa.other W6 (Or.inl ne_aa_bf)
  replace F_lines_aa := F_lines_aa.other W6 (Or.inl ne_aa_bf)
  replace F_faults_aa := F_faults_aa.other W6 (Or.inl ne_aa_bf)
  replace F_textUsed_aa := F_textUsed_aa.other W6 (Or.inl ne_aa_bf)
  replace F_fields_aa := F_fields_aa.other W6 (Or.inl ne_aa_bf)
  replace F_records_aa := F_records_aa.other W6 (Or.inl ne_aa_bf)
  replace E_aa := E_aa.wr W6
  have Z6 := Nat.le_trans Z2 (Keep.of_wr W6).1
  have N6 := Fr.snoc X6 N2 g_bf
  have K6 := K2.wr W6 (Or.inl (List.mem_of_getElem? (i := 1) rfl))
  replace A_bf := A_bf.setI W6
  refine Go.step st6 ?_
  show Go _ _ _ _ _ _ _ (T6.setTop (mkF m 23 #[.val (.ref aa)] []))
  refine Go.retV X6 Bd.notSynchronized hx Bd.returns (hb hby d13_23) (by decide) (by decide) ?_
  rw [e6]
  exact ⟨rfl, N6, K6, F_text_aa, F_starts_aa, F_ends_aa, F_firstFields_aa, F_lines_aa, F_faults_aa, F_textUsed_aa, F_fields_aa, F_records_aa, A_bf⟩
theorem d8_0 : decode jdk_43_method_3_code 0 = .ok (.iload_n 0, 1) := by decide +kernel
theorem d8_1 : decode jdk_43_method_3_code 1 = .ok (.sipush 255, 3) := by decide +kernel
theorem d8_4 : decode jdk_43_method_3_code 4 = .ok (.if_icmp .gt 7, 3) := by decide +kernel
theorem d8_7 : decode jdk_43_method_3_code 7 = .ok (.iconst 1, 1) := by decide +kernel
theorem d8_8 : decode jdk_43_method_3_code 8 = .ok (.goto 4, 3) := by decide +kernel
theorem d8_12 : decode jdk_43_method_3_code 12 = .ok (.ireturn, 1) := by decide +kernel
theorem pn_8 : plainName "java/lang/StringLatin1" = true := by first | (simp [plainName, overriddenIn]; done) | decide +kernel
theorem ef_8 (m : MethodId) (x0 : Int32) : entryFrame m #[(.int x0)] 1 = mkF m 0 #[.val (.int x0)] [] := by first | (simp [entryFrame, mkF, argsToLocals, Value.category]; done) | rfl
def Q8 (Z : State) (cv : Int32) (h0 : Heap) (n0 : Nat) (v : Option Value) (h : Heap) (L : List Loc) : Prop := v = some (.int (1 : Int32)) ∧ Fr n0 L ∧ h = h0
set_option maxRecDepth 65536 in
set_option maxHeartbeats 40000000 in
theorem rm8 (l : Launch) (Z : State) (a0 : Array Value) (hw : ∀ d ∈ tables_1, d.before a0 Z = true) (ws : List Jvm.Cond) (cv : Int32) (h0 : Heap) (n0 : Nat) (Z0 : n0 ≤ h0.size) (h255 : (¬ (255 : Int32) < cv)) :
    MetFree l (⟨"java/lang/StringLatin1", "canEncode", "(C)Z"⟩ : MethodName) (head1 (Jvm.Cond.code (⟨"java/lang/StringLatin1", "canEncode", "(C)Z"⟩ : MethodName) jdk_43_method_3_code 1 (some .boolean) :: ws) ({ frames := 0, cells := 0, slots := 0, locals := 0 } : Room)) (fun a U => a = #[(.int cv)] ∧ Z.Warmed39 U.vm ∧ U.heap = h0) (fun _ _ _ _ _ => True) (fun _ U o U' => ∃ v L, o = .returned v ∧ Q8 Z cv h0 n0 v U'.heap L ∧ FrameEnd U o U' L ({ frames := 0, cells := 0, slots := 0, locals := 0 } : Room).cells ({ frames := 0, cells := 0, slots := 0, locals := 0 } : Room).slots) := by
  refine MetFree.of_bodySF (plainFor_of_name pn_8) hisR ?_
  intro p e s m args below meth c s₁ Bd hml0 hP hK
  obtain ⟨rfl, hZ, hh⟩ := hP
  have hx := Bd.exec
  have hby := Bd.bytes
  have hml : c.maxLocals = 1 := hml0
  have hown : s.vm.findClass "java/lang/StringLatin1" = some m.cls := findClass_of_methodNamed Bd.named
  have hnm := (name_of_methodNamed Bd.named Bd.method).1
  have X0 : Stand p l e ({ frames := 0, cells := 0, slots := 0, locals := 0 } : Room) s m #[(.int cv)] below meth c s₁ [] 0 0 := Stand.of_body Bd
  have e0 : s₁.heap = h0 := by rw [← hh, Bd.state]; rfl
  have N0 := Fr.nil n0
  show Go p e below s (Q8 Z cv h0 n0) ({ frames := 0, cells := 0, slots := 0, locals := 0 } : Room).cells ({ frames := 0, cells := 0, slots := 0, locals := 0 } : Room).slots (s₁.setTop (entryFrame m #[(.int cv)] 1))
  rw [ef_8]
  show Go _ _ _ _ _ _ _ (s₁.setTop (mkF m 0 #[.val (.int cv)] []))
  refine Go.step (fun t k => XS.iloadN X0.here hx rfl (hb hby d8_0) rfl k) ?_
  show Go _ _ _ _ _ _ _ (s₁.setTop (mkF m 1 #[.val (.int cv)] [(.int cv)]))
  refine Go.step (fun t k => XS.sipush X0.here hx rfl (hb hby d8_1) k) ?_
  show Go _ _ _ _ _ _ _ (s₁.setTop (mkF m 4 #[.val (.int cv)] [(.int (255 : Int32)), (.int cv)]))
  refine Go.step (fun t k => XS.icmpNo X0.here hx rfl (hb hby d8_4) rfl (flt (h255 : ¬ (255 : Int32) < cv)).2.2.1 k) ?_
  show Go _ _ _ _ _ _ _ (s₁.setTop (mkF m 7 #[.val (.int cv)] []))
  refine Go.step (fun t k => XS.iconst X0.here hx rfl (hb hby d8_7) k) ?_
  show Go _ _ _ _ _ _ _ (s₁.setTop (mkF m 8 #[.val (.int cv)] [(.int (1 : Int32))]))
  refine Go.step (fun t k => XS.goto X0.here hx rfl (pc0 := 8) (pc' := 12) rfl (hb hby d8_8) (by decide) (by decide) k) ?_
  show Go _ _ _ _ _ _ _ (s₁.setTop (mkF m 12 #[.val (.int cv)] [(.int (1 : Int32))]))
  refine Go.retN X0 Bd.notSynchronized hx (t := .boolean) Bd.returns (by simp) (hb hby d8_12) (by decide) (by decide) (1 : Int32) rfl ?_
  rw [e0]
  exact ⟨rfl, N0, rfl⟩
theorem d9_0 : decode jdk_43_method_46_code 0 = .ok (.iconst 1, 1) := by decide +kernel
theorem d9_1 : decode jdk_43_method_46_code 1 = .ok (.newarray .byte, 2) := by decide +kernel
theorem d9_3 : decode jdk_43_method_46_code 3 = .ok (.dup, 1) := by decide +kernel
theorem d9_4 : decode jdk_43_method_46_code 4 = .ok (.iconst 0, 1) := by decide +kernel
theorem d9_5 : decode jdk_43_method_46_code 5 = .ok (.iload_n 0, 1) := by decide +kernel
theorem d9_6 : decode jdk_43_method_46_code 6 = .ok (.i2b, 1) := by decide +kernel
theorem d9_7 : decode jdk_43_method_46_code 7 = .ok (.bastore, 1) := by decide +kernel
theorem d9_8 : decode jdk_43_method_46_code 8 = .ok (.areturn, 1) := by decide +kernel
theorem pn_9 : plainName "java/lang/StringLatin1" = true := by first | (simp [plainName, overriddenIn]; done) | decide +kernel
theorem ef_9 (m : MethodId) (x0 : Int32) : entryFrame m #[(.int x0)] 1 = mkF m 0 #[.val (.int x0)] [] := by first | (simp [entryFrame, mkF, argsToLocals, Value.category]; done) | rfl
def Q9 (Z : State) (cv : Int32) (h0 : Heap) (n0 : Nat) (v : Option Value) (h : Heap) (L : List Loc) : Prop := ∃ bv : Addr, v = some (.ref bv) ∧ Fr n0 L ∧ Keep h0 h [] ∧ h0.size ≤ bv ∧ AryI Z h bv .byte 1 (up (fun _ => (0 : Int32)) 0 (nar .byte (cv.toInt8.toInt32)))
set_option maxRecDepth 65536 in
set_option maxHeartbeats 40000000 in
theorem rm9 (l : Launch) (Z : State) (a0 : Array Value) (hw : ∀ d ∈ tables_1, d.before a0 Z = true) (ws : List Jvm.Cond) (cv : Int32) (h0 : Heap) (n0 : Nat) (Z0 : n0 ≤ h0.size) :
    MetFree l (⟨"java/lang/StringLatin1", "toBytes", "(C)[B"⟩ : MethodName) (head1 (Jvm.Cond.code (⟨"java/lang/StringLatin1", "toBytes", "(C)[B"⟩ : MethodName) jdk_43_method_46_code 1 (some (.array .byte)) :: ws) ({ frames := 0, cells := 1, slots := 1, locals := 0 } : Room)) (fun a U => a = #[(.int cv)] ∧ Z.Warmed39 U.vm ∧ U.heap = h0) (fun _ _ _ _ _ => True) (fun _ U o U' => ∃ v L, o = .returned v ∧ Q9 Z cv h0 n0 v U'.heap L ∧ FrameEnd U o U' L ({ frames := 0, cells := 1, slots := 1, locals := 0 } : Room).cells ({ frames := 0, cells := 1, slots := 1, locals := 0 } : Room).slots) := by
  refine MetFree.of_bodySF (plainFor_of_name pn_9) hisR ?_
  intro p e s m args below meth c s₁ Bd hml0 hP hK
  obtain ⟨rfl, hZ, hh⟩ := hP
  have hx := Bd.exec
  have hby := Bd.bytes
  have hml : c.maxLocals = 1 := hml0
  have hown : s.vm.findClass "java/lang/StringLatin1" = some m.cls := findClass_of_methodNamed Bd.named
  have hnm := (name_of_methodNamed Bd.named Bd.method).1
  have X0 : Stand p l e ({ frames := 0, cells := 1, slots := 1, locals := 0 } : Room) s m #[(.int cv)] below meth c s₁ [] 0 0 := Stand.of_body Bd
  have e0 : s₁.heap = h0 := by rw [← hh, Bd.state]; rfl
  have N0 := Fr.nil n0
  have K0 := Keep.refl h0 ([] : List Addr)
  show Go p e below s (Q9 Z cv h0 n0) ({ frames := 0, cells := 1, slots := 1, locals := 0 } : Room).cells ({ frames := 0, cells := 1, slots := 1, locals := 0 } : Room).slots (s₁.setTop (entryFrame m #[(.int cv)] 1))
  rw [ef_9]
  show Go _ _ _ _ _ _ _ (s₁.setTop (mkF m 0 #[.val (.int cv)] []))
  refine Go.step (fun t k => XS.iconst X0.here hx rfl (hb hby d9_0) k) ?_
  show Go _ _ _ _ _ _ _ (s₁.setTop (mkF m 1 #[.val (.int cv)] [(.int (1 : Int32))]))
  obtain ⟨T1, h1, k1, X1, e1, E1, A1, st1⟩ := newP X0 hx hZ (hw _ (List.mem_of_getElem? (i := 20) rfl)) e0 (g := (mkF m 1 #[.val (.int cv)] [(.int (1 : Int32))])) rfl (hb hby d9_1) rfl (by decide) (cap := 1) (by decide) (by decide) (by decide) (by decide)
  obtain ⟨bv, gz1⟩ : ∃ z, z = h0.size := ⟨_, rfl⟩
  have g_bv : n0 ≤ bv := Nat.le_trans Z0 (Nat.le_of_eq gz1.symm)
  have sz_bv : h0.size ≤ bv := Nat.le_trans K0.1 (Nat.le_of_eq gz1.symm)
  rw [← gz1] at A1 st1
  have Z1 := Nat.le_trans Z0 E1.1
  have K1 := K0.ext E1
  have A_bv : AryI Z h1 bv .byte 1 (fun _ => (0 : Int32)) := Ary.new A1 rfl
  refine Go.step st1 ?_
  show Go _ _ _ _ _ _ _ (T1.setTop (mkF m 3 #[.val (.int cv)] [(.ref bv)]))
  refine Go.step (fun t k => XS.dup X1.here hx rfl (hb hby d9_3) rfl rfl k) ?_
  show Go _ _ _ _ _ _ _ (T1.setTop (mkF m 4 #[.val (.int cv)] [(.ref bv), (.ref bv)]))
  refine Go.step (fun t k => XS.iconst X1.here hx rfl (hb hby d9_4) k) ?_
  show Go _ _ _ _ _ _ _ (T1.setTop (mkF m 5 #[.val (.int cv)] [(.int (0 : Int32)), (.ref bv), (.ref bv)]))
  refine Go.step (fun t k => XS.iloadN X1.here hx rfl (hb hby d9_5) rfl k) ?_
  show Go _ _ _ _ _ _ _ (T1.setTop (mkF m 6 #[.val (.int cv)] [(.int cv), (.int (0 : Int32)), (.ref bv), (.ref bv)]))
  refine Go.step (fun t k => XS.i2b X1.here hx rfl (hb hby d9_6) rfl k) ?_
  show Go _ _ _ _ _ _ _ (T1.setTop (mkF m 7 #[.val (.int cv)] [(.int (cv.toInt8.toInt32)), (.int (0 : Int32)), (.ref bv), (.ref bv)]))
  obtain ⟨T2, h2, X2, e2, W2, st2⟩ := own_stB X1 hx hZ e1 A_bv 0 rfl (by decide) (f := (mkF m 7 #[.val (.int cv)] [(.int (cv.toInt8.toInt32)), (.int (0 : Int32)), (.ref bv), (.ref bv)])) rfl rfl (hb hby d9_7)
  have Z2 := Nat.le_trans Z1 (Keep.of_wr W2).1
  have N2 := Fr.snoc X2 N0 g_bv
  have K2 := K1.wr W2 (Or.inr sz_bv)
  replace A_bv := A_bv.setI W2
  refine Go.step st2 ?_
  show Go _ _ _ _ _ _ _ (T2.setTop (mkF m 8 #[.val (.int cv)] [(.ref bv)]))
  refine Go.retA X2 Bd.notSynchronized hx Bd.returns rfl rfl rfl (hb hby d9_8) (by decide) (by decide) ?_
  rw [e2]
  exact ⟨bv, rfl, N2, K2, sz_bv, A_bv⟩
theorem d10_0 : decode jdk_42_method_151_code 0 = .ok (.aload_n 0, 1) := by decide +kernel
theorem d10_1 : decode jdk_42_method_151_code 1 = .ok (.invokespecial 1, 3) := by decide +kernel
theorem d10_4 : decode jdk_42_method_151_code 4 = .ok (.aload_n 0, 1) := by decide +kernel
theorem d10_5 : decode jdk_42_method_151_code 5 = .ok (.aload_n 1, 1) := by decide +kernel
theorem d10_6 : decode jdk_42_method_151_code 6 = .ok (.putfield 9, 3) := by decide +kernel
theorem d10_9 : decode jdk_42_method_151_code 9 = .ok (.aload_n 0, 1) := by decide +kernel
theorem d10_10 : decode jdk_42_method_151_code 10 = .ok (.iload_n 2, 1) := by decide +kernel
theorem d10_11 : decode jdk_42_method_151_code 11 = .ok (.putfield 15, 3) := by decide +kernel
theorem d10_14 : decode jdk_42_method_151_code 14 = .ok (.return_, 1) := by decide +kernel
theorem pn_10 : plainName "java/lang/String" = true := by first | (simp [plainName, overriddenIn]; done) | decide +kernel
theorem ef_10 (m : MethodId) (x0 : Addr) (x1 : Addr) (x2 : Int32) : entryFrame m #[(.ref x0), (.ref x1), (.int x2)] 3 = mkF m 0 #[.val (.ref x0), .val (.ref x1), .val (.int x2)] [] := by first | (simp [entryFrame, mkF, argsToLocals, Value.category]; done) | rfl
def Q10 (Z : State) (aa : Addr) (bv : Addr) (cd : Int32) (h0 : Heap) (n0 : Nat) (v : Option Value) (h : Heap) (L : List Loc) : Prop := v = none ∧ Fr n0 L ∧ Keep h0 h [aa] ∧ Fld Z h aa "java/lang/String" "value" "[B" (.ref bv) ∧ Fld Z h aa "java/lang/String" "coder" "B" (.int (0 : Int32))
set_option maxRecDepth 65536 in
set_option maxHeartbeats 40000000 in
theorem rm10 (l : Launch) (Z : State) (a0 : Array Value) (hw : ∀ d ∈ tables_1, d.before a0 Z = true) (ws : List Jvm.Cond) (aa : Addr) (bv : Addr) (cd : Int32) (h0 : Heap) (n0 : Nat) (Z0 : n0 ≤ h0.size) (F_value_aa : Fld Z h0 aa "java/lang/String" "value" "[B" .null) (F_coder_aa : Fld Z h0 aa "java/lang/String" "coder" "B" (.int (0 : Int32))) (E_aa : Exa Z h0 aa "java/lang/String") (g_aa : n0 ≤ aa) (hcd : (cd = (0 : Int32))) :
    MetFree l (⟨"java/lang/String", "<init>", "([BB)V"⟩ : MethodName) (head1 (Jvm.Cond.code (⟨"java/lang/String", "<init>", "([BB)V"⟩ : MethodName) jdk_42_method_151_code 3 none :: ws) ({ frames := 1, cells := 0, slots := 0, locals := 12 } : Room)) (fun a U => a = #[(.ref aa), (.ref bv), (.int cd)] ∧ Z.Warmed39 U.vm ∧ U.heap = h0) (fun _ _ _ _ _ => True) (fun _ U o U' => ∃ v L, o = .returned v ∧ Q10 Z aa bv cd h0 n0 v U'.heap L ∧ FrameEnd U o U' L ({ frames := 1, cells := 0, slots := 0, locals := 12 } : Room).cells ({ frames := 1, cells := 0, slots := 0, locals := 12 } : Room).slots) := by
  refine MetFree.of_bodySF (plainFor_of_name pn_10) hisR ?_
  intro p e s m args below meth c s₁ Bd hml0 hP hK
  obtain ⟨rfl, hZ, hh⟩ := hP
  have hx := Bd.exec
  have hby := Bd.bytes
  have hml : c.maxLocals = 3 := hml0
  have hown : s.vm.findClass "java/lang/String" = some m.cls := findClass_of_methodNamed Bd.named
  have hnm := (name_of_methodNamed Bd.named Bd.method).1
  have X0 : Stand p l e ({ frames := 1, cells := 0, slots := 0, locals := 12 } : Room) s m #[(.ref aa), (.ref bv), (.int cd)] below meth c s₁ [] 0 0 := Stand.of_body Bd
  have e0 : s₁.heap = h0 := by rw [← hh, Bd.state]; rfl
  have N0 := Fr.nil n0
  have K0 := Keep.refl h0 ([aa] : List Addr)
  show Go p e below s (Q10 Z aa bv cd h0 n0) ({ frames := 1, cells := 0, slots := 0, locals := 12 } : Room).cells ({ frames := 1, cells := 0, slots := 0, locals := 12 } : Room).slots (s₁.setTop (entryFrame m #[(.ref aa), (.ref bv), (.int cd)] 3))
  rw [ef_10]
  show Go _ _ _ _ _ _ _ (s₁.setTop (mkF m 0 #[.val (.ref aa), .val (.ref bv), .val (.int cd)] []))
  refine Go.step (fun t k => XS.aloadN X0.here hx rfl (hb hby d10_0) rfl rfl k) ?_
  show Go _ _ _ _ _ _ _ (s₁.setTop (mkF m 1 #[.val (.ref aa), .val (.ref bv), .val (.int cd)] [(.ref aa)]))
  obtain ⟨T1, X1, e1, st1⟩ := initO X0 hx hZ hown (hw _ (List.mem_of_getElem? (i := 12) rfl)) (hw _ (List.mem_of_getElem? (i := 13) rfl)) (hw _ (List.mem_of_getElem? (i := 14) rfl)) e0 (g := (mkF m 1 #[.val (.ref aa), .val (.ref bv), .val (.int cd)] [(.ref aa)])) rfl (by rw [hml]; rfl) rfl (hb hby d10_1) (by decide) (W := 0) (by show 2 * 0 + _ ≤ _; exact Nat.le_of_eq rfl) (by decide)
  refine Go.step st1 ?_
  show Go _ _ _ _ _ _ _ (T1.setTop (mkF m 4 #[.val (.ref aa), .val (.ref bv), .val (.int cd)] []))
  refine Go.step (fun t k => XS.aloadN X1.here hx rfl (hb hby d10_4) rfl rfl k) ?_
  show Go _ _ _ _ _ _ _ (T1.setTop (mkF m 5 #[.val (.ref aa), .val (.ref bv), .val (.int cd)] [(.ref aa)]))
  refine Go.step (fun t k => XS.aloadN X1.here hx rfl (hb hby d10_5) rfl rfl k) ?_
  show Go _ _ _ _ _ _ _ (T1.setTop (mkF m 6 #[.val (.ref aa), .val (.ref bv), .val (.int cd)] [(.ref bv), (.ref aa)]))
  obtain ⟨T2, h2, X2, e2, W2, st2⟩ := putF X1 hx hZ hown (host := "") (Or.inl (hw _ (List.mem_of_getElem? (i := 29) rfl))) Via.refl e1 F_value_aa E_aa (Or.inr ⟨(hw _ (List.mem_of_getElem? (i := 30) rfl)), rfl, hnm⟩) (hw _ (List.mem_of_getElem? (i := 3) rfl)) (ty := (.array .byte)) (by decide) rfl rfl (g := (mkF m 6 #[.val (.ref aa), .val (.ref bv), .val (.int cd)] [(.ref bv), (.ref aa)])) rfl rfl (hb hby d10_6)
  replace F_coder_aa := F_coder_aa.other W2 (Or.inr (slot_ne (Or.inr (hw _ (List.mem_of_getElem? (i := 28) rfl))) (Or.inr (hw _ (List.mem_of_getElem? (i := 30) rfl))) (by decide) (t := .byte) (t' := (.array .byte)) (by decide) (by decide)))
  replace E_aa := E_aa.wr W2
  have Z2 := Nat.le_trans Z0 (Keep.of_wr W2).1
  have N2 := Fr.snoc X2 N0 g_aa
  have K2 := K0.wr W2 (Or.inl (List.mem_of_getElem? (i := 0) rfl))
  replace F_value_aa := F_value_aa.same W2
  refine Go.step st2 ?_
  show Go _ _ _ _ _ _ _ (T2.setTop (mkF m 9 #[.val (.ref aa), .val (.ref bv), .val (.int cd)] []))
  refine Go.step (fun t k => XS.aloadN X2.here hx rfl (hb hby d10_9) rfl rfl k) ?_
  show Go _ _ _ _ _ _ _ (T2.setTop (mkF m 10 #[.val (.ref aa), .val (.ref bv), .val (.int cd)] [(.ref aa)]))
  refine Go.step (fun t k => XS.iloadN X2.here hx rfl (hb hby d10_10) rfl k) ?_
  show Go _ _ _ _ _ _ _ (T2.setTop (mkF m 11 #[.val (.ref aa), .val (.ref bv), .val (.int cd)] [(.int cd), (.ref aa)]))
  obtain ⟨T3, h3, X3, e3, W3, st3⟩ := putFN X2 hx hZ hown (hw _ (List.mem_of_getElem? (i := 27) rfl)) Via.refl e2 F_coder_aa E_aa (Or.inr ⟨(hw _ (List.mem_of_getElem? (i := 28) rfl)), rfl, hnm⟩) (hw _ (List.mem_of_getElem? (i := 3) rfl)) (ty := .byte) (v' := (.int (0 : Int32))) (by decide) (by rw [hcd]; rfl) rfl (g := (mkF m 11 #[.val (.ref aa), .val (.ref bv), .val (.int cd)] [(.int cd), (.ref aa)])) rfl rfl (hb hby d10_11)
  replace F_value_aa := F_value_aa.other W3 (Or.inr (slot_ne (Or.inr (hw _ (List.mem_of_getElem? (i := 30) rfl))) (Or.inr (hw _ (List.mem_of_getElem? (i := 28) rfl))) (by decide) (t := (.array .byte)) (t' := .byte) (by decide) (by decide)))
  replace E_aa := E_aa.wr W3
  have Z3 := Nat.le_trans Z2 (Keep.of_wr W3).1
  have N3 := Fr.snoc X3 N2 g_aa
  have K3 := K2.wr W3 (Or.inl (List.mem_of_getElem? (i := 0) rfl))
  replace F_coder_aa := F_coder_aa.same W3
  refine Go.step st3 ?_
  show Go _ _ _ _ _ _ _ (T3.setTop (mkF m 14 #[.val (.ref aa), .val (.ref bv), .val (.int cd)] []))
  refine Go.retV X3 Bd.notSynchronized hx Bd.returns (hb hby d10_14) (by decide) (by decide) ?_
  rw [e3]
  exact ⟨rfl, N3, K3, F_value_aa, F_coder_aa⟩
theorem d7_0 : decode jdk_42_method_139_code 0 = .ok (.getstatic 38, 3) := by decide +kernel
theorem d7_3 : decode jdk_42_method_139_code 3 = .ok (.ifCond .eq 23, 3) := by decide +kernel
theorem d7_6 : decode jdk_42_method_139_code 6 = .ok (.iload_n 0, 1) := by decide +kernel
theorem d7_7 : decode jdk_42_method_139_code 7 = .ok (.invokestatic 1015, 3) := by decide +kernel
theorem d7_10 : decode jdk_42_method_139_code 10 = .ok (.ifCond .eq 16, 3) := by decide +kernel
theorem d7_13 : decode jdk_42_method_139_code 13 = .ok (.new 10, 3) := by decide +kernel
theorem d7_16 : decode jdk_42_method_139_code 16 = .ok (.dup, 1) := by decide +kernel
theorem d7_17 : decode jdk_42_method_139_code 17 = .ok (.iload_n 0, 1) := by decide +kernel
theorem d7_18 : decode jdk_42_method_139_code 18 = .ok (.invokestatic 1018, 3) := by decide +kernel
theorem d7_21 : decode jdk_42_method_139_code 21 = .ok (.iconst 0, 1) := by decide +kernel
theorem d7_22 : decode jdk_42_method_139_code 22 = .ok (.invokespecial 209, 3) := by decide +kernel
theorem d7_25 : decode jdk_42_method_139_code 25 = .ok (.areturn, 1) := by decide +kernel
theorem pn_7 : plainName "java/lang/String" = true := by first | (simp [plainName, overriddenIn]; done) | decide +kernel
theorem pd_7_0 : parseMethodDescriptor "(C)Z" = some ⟨[.char], some .boolean⟩ := by decide +kernel
theorem pd_7_1 : parseMethodDescriptor "(C)[B" = some ⟨[.char], some (.array .byte)⟩ := by decide +kernel
theorem pd_7_2 : parseMethodDescriptor "([BB)V" = some ⟨[(.array .byte), .byte], none⟩ := by decide +kernel
theorem ef_7 (m : MethodId) (x0 : Int32) : entryFrame m #[(.int x0)] 1 = mkF m 0 #[.val (.int x0)] [] := by first | (simp [entryFrame, mkF, argsToLocals, Value.category]; done) | rfl
def Q7 (Z : State) (cv : Int32) (cs : Int32) (h0 : Heap) (n0 : Nat) (v : Option Value) (h : Heap) (L : List Loc) : Prop := ∃ bl : Addr, ∃ bv : Addr, v = some (.ref bl) ∧ Fr n0 L ∧ Keep h0 h [] ∧ h0.size ≤ bl ∧ h0.size ≤ bv ∧ Exa Z h bl "java/lang/String" ∧ Fld Z h bl "java/lang/String" "value" "[B" (.ref bv) ∧ Fld Z h bl "java/lang/String" "coder" "B" (.int (0 : Int32)) ∧ AryI Z h bv .byte 1 (up (fun _ => (0 : Int32)) 0 (nar .byte (cv.toInt8.toInt32))) ∧ bl ≠ bv
set_option maxRecDepth 65536 in
set_option maxHeartbeats 40000000 in
theorem rm7 (l : Launch) (Z : State) (a0 : Array Value) (hw : ∀ d ∈ tables_1, d.before a0 Z = true) (ws : List Jvm.Cond) (cv : Int32) (cs : Int32) (h0 : Heap) (n0 : Nat) (Z0 : n0 ≤ h0.size) (old : Old Z n0 h0) (hcs : (Sta Z Z.heap "java/lang/String" "COMPACT_STRINGS" "Z" (.int cs))) (hc0 : (¬ cs = (0 : Int32))) (h255 : (¬ (255 : Int32) < cv)) :
    MetFree l (⟨"java/lang/String", "valueOf", "(C)Ljava/lang/String;"⟩ : MethodName) (head1 (Jvm.Cond.code (⟨"java/lang/String", "valueOf", "(C)Ljava/lang/String;"⟩ : MethodName) jdk_42_method_139_code 1 (some (.object "java/lang/String")) :: ws) ({ frames := 2, cells := 2, slots := 5, locals := 27 } : Room)) (fun a U => a = #[(.int cv)] ∧ Z.Warmed39 U.vm ∧ U.heap = h0) (fun _ _ _ _ _ => True) (fun _ U o U' => ∃ v L, o = .returned v ∧ Q7 Z cv cs h0 n0 v U'.heap L ∧ FrameEnd U o U' L ({ frames := 2, cells := 2, slots := 5, locals := 27 } : Room).cells ({ frames := 2, cells := 2, slots := 5, locals := 27 } : Room).slots) := by
  refine MetFree.of_bodySF (plainFor_of_name pn_7) hisR ?_
  intro p e s m args below meth c s₁ Bd hml0 hP hK
  obtain ⟨rfl, hZ, hh⟩ := hP
  have hx := Bd.exec
  have hby := Bd.bytes
  have hml : c.maxLocals = 1 := hml0
  have hown : s.vm.findClass "java/lang/String" = some m.cls := findClass_of_methodNamed Bd.named
  have hnm := (name_of_methodNamed Bd.named Bd.method).1
  have X0 : Stand p l e ({ frames := 2, cells := 2, slots := 5, locals := 27 } : Room) s m #[(.int cv)] below meth c s₁ [] 0 0 := Stand.of_body Bd
  have e0 : s₁.heap = h0 := by rw [← hh, Bd.state]; rfl
  have N0 := Fr.nil n0
  have K0 := Keep.refl h0 ([] : List Addr)
  show Go p e below s (Q7 Z cv cs h0 n0) ({ frames := 2, cells := 2, slots := 5, locals := 27 } : Room).cells ({ frames := 2, cells := 2, slots := 5, locals := 27 } : Room).slots (s₁.setTop (entryFrame m #[(.int cv)] 1))
  rw [ef_7]
  show Go _ _ _ _ _ _ _ (s₁.setTop (mkF m 0 #[.val (.int cv)] []))
  have S_CS := Sta.ext old.2 hcs
  obtain ⟨T1, X1, e1, st1⟩ := getS2 X0 hx hZ hown (host := "") (Or.inl (hw _ (List.mem_of_getElem? (i := 15) rfl))) Via.refl e0 S_CS (g := (mkF m 0 #[.val (.int cv)] [])) rfl (hb hby d7_0)
  refine Go.step st1 ?_
  show Go _ _ _ _ _ _ _ (T1.setTop (mkF m 3 #[.val (.int cv)] [(.int cs)]))
  refine Go.step (fun t k => XS.ifNo X1.here hx rfl (hb hby d7_3) rfl ((if0 _ _).trans (feq (hc0 : ¬ cs = (0 : Int32))).1) k) ?_
  show Go _ _ _ _ _ _ _ (T1.setTop (mkF m 6 #[.val (.int cv)] []))
  refine Go.step (fun t k => XS.iloadN X1.here hx rfl (hb hby d7_6) rfl k) ?_
  show Go _ _ _ _ _ _ _ (T1.setTop (mkF m 7 #[.val (.int cv)] [(.int cv)]))
  obtain ⟨_, _, ⟨T2, L2, k2, n2⟩, -, X2, ⟨Lc2, hQ2, l2, y2, z2⟩, st2⟩ := Jvm.LawKit.callS X1 hx (y := (⟨"java/lang/StringLatin1", "canEncode", "(C)Z"⟩ : MethodName)) hown (mvT hZ (hw _ (List.mem_of_getElem? (i := 34) rfl))) (mvT hZ (hw _ (List.mem_of_getElem? (i := 35) rfl))) (mvT hZ (hw _ (List.mem_of_getElem? (i := 36) rfl))) (mvT hZ (hw _ (List.mem_of_getElem? (i := 37) rfl))) (by decide) (backOf (W := 0) (rm8 l Z a0 hw [] cv h0 n0 Z0 h255) hZ (hw _ (List.mem_of_getElem? (i := 37) rfl)) (hw _ (List.mem_of_getElem? (i := 36) rfl)) (by decide) (by decide)) (g := (mkF m 7 #[.val (.int cv)] [(.int cv)])) rfl (by rw [hml]; rfl) (argsL := [(.int cv)]) (rest := []) (lenOf pd_7_0 rfl) rfl (by show 2 * 0 + _ ≤ _; exact Nat.le_of_eq rfl) (hb hby d7_7) (fun _ _ => ⟨rfl, e1, (by decide : 0 + 0 ≤ _), (by decide : 0 + 0 ≤ _)⟩)
  dsimp only [Pt.U, Pt.locs, Pt.cells, Pt.slots] at X2 l2 y2 z2 st2 hQ2
  subst l2 y2 z2
  obtain ⟨rfl, N2q, K2q⟩ := hQ2
  have N2 := Fr.app N0 N2q
  refine Go.step st2 ?_
  show Go _ _ _ _ _ _ _ (T2.setTop (mkF m 10 #[.val (.int cv)] [(.int (1 : Int32))]))
  refine Go.step (fun t k => XS.ifNo X2.here hx rfl (hb hby d7_10) rfl ((if0 _ _).trans (feq (by decide : ¬ (1 : Int32) = (0 : Int32))).1) k) ?_
  show Go _ _ _ _ _ _ _ (T2.setTop (mkF m 13 #[.val (.int cv)] []))
  obtain ⟨T3, h3, X3, e3, E3, A3, D3, -, st3⟩ := newO X2 hx hZ hown (hw _ (List.mem_of_getElem? (i := 38) rfl)) (hw _ (List.mem_of_getElem? (i := 3) rfl)) (hw _ (List.mem_of_getElem? (i := 4) rfl)) K2q (g := (mkF m 13 #[.val (.int cv)] [])) rfl (hb hby d7_13) (by decide) (by decide)
  obtain ⟨bl, gz3⟩ : ∃ z, z = h0.size := ⟨_, rfl⟩
  have g_bl : n0 ≤ bl := Nat.le_trans Z0 (Nat.le_of_eq gz3.symm)
  have sz_bl : h0.size ≤ bl := Nat.le_trans K0.1 (Nat.le_of_eq gz3.symm)
  rw [← gz3] at A3 D3 st3
  replace old := Old.ext old E3
  replace S_CS := Sta.ext E3 S_CS
  have Z3 := Nat.le_trans Z0 E3.1
  have K3 := K0.ext E3
  have E_bl := A3
  have F_coder_bl : Fld Z h3 bl "java/lang/String" "coder" "B" (.int (0 : Int32)) := D3 (Or.inr (hw _ (List.mem_of_getElem? (i := 28) rfl))) (ty := .byte) (by decide)
  have F_value_bl : Fld Z h3 bl "java/lang/String" "value" "[B" .null := D3 (Or.inr (hw _ (List.mem_of_getElem? (i := 30) rfl))) (ty := (.array .byte)) (by decide)
  refine Go.step st3 ?_
  show Go _ _ _ _ _ _ _ (T3.setTop (mkF m 16 #[.val (.int cv)] [(.ref bl)]))
  refine Go.step (fun t k => XS.dup X3.here hx rfl (hb hby d7_16) rfl rfl k) ?_
  show Go _ _ _ _ _ _ _ (T3.setTop (mkF m 17 #[.val (.int cv)] [(.ref bl), (.ref bl)]))
  refine Go.step (fun t k => XS.iloadN X3.here hx rfl (hb hby d7_17) rfl k) ?_
  show Go _ _ _ _ _ _ _ (T3.setTop (mkF m 18 #[.val (.int cv)] [(.int cv), (.ref bl), (.ref bl)]))
  obtain ⟨_, _, ⟨T4, L4, k4, n4⟩, -, X4, ⟨Lc4, hQ4, l4, y4, z4⟩, st4⟩ := Jvm.LawKit.callS X3 hx (y := (⟨"java/lang/StringLatin1", "toBytes", "(C)[B"⟩ : MethodName)) hown (mvT hZ (hw _ (List.mem_of_getElem? (i := 39) rfl))) (mvT hZ (hw _ (List.mem_of_getElem? (i := 40) rfl))) (mvT hZ (hw _ (List.mem_of_getElem? (i := 36) rfl))) (mvT hZ (hw _ (List.mem_of_getElem? (i := 41) rfl))) (by decide) (backOf (W := 2) (rm9 l Z a0 hw [] cv h3 n0 Z3) hZ (hw _ (List.mem_of_getElem? (i := 41) rfl)) (hw _ (List.mem_of_getElem? (i := 36) rfl)) (by decide) (by decide)) (g := (mkF m 18 #[.val (.int cv)] [(.int cv), (.ref bl), (.ref bl)])) rfl (by rw [hml]; rfl) (argsL := [(.int cv)]) (rest := [(.ref bl), (.ref bl)]) (lenOf pd_7_1 rfl) rfl (by show 2 * 0 + _ ≤ _; exact Nat.le_of_eq rfl) (hb hby d7_18) (fun _ _ => ⟨rfl, e3, (by decide : 1 + 1 ≤ _), (by decide : 4 + 1 ≤ _)⟩)
  dsimp only [Pt.U, Pt.locs, Pt.cells, Pt.slots] at X4 l4 y4 z4 st4 hQ4
  subst l4 y4 z4
  obtain ⟨bv, rfl, N4q, K4q, o4_nw_bv, o4_A_bv⟩ := hQ4
  have N4 := Fr.app N2 N4q
  have ne_bl_bv : bl ≠ bv := Nat.ne_of_lt (Nat.lt_of_lt_of_le E_bl.lt o4_nw_bv)
  have g_bv : n0 ≤ bv := Nat.le_trans Z3 o4_nw_bv
  have sz_bv : h0.size ≤ bv := Nat.le_trans K3.1 o4_nw_bv
  replace old := Old.keep old K4q all0
  replace E_bl := E_bl.keep K4q
  replace F_coder_bl := F_coder_bl.keep K4q nin0
  replace F_value_bl := F_value_bl.keep K4q nin0
  have Z4 := Nat.le_trans Z3 K4q.1
  have K4' := K3.trans K4q all0
  have A_bv := o4_A_bv
  refine Go.step st4 ?_
  show Go _ _ _ _ _ _ _ (T4.setTop (mkF m 21 #[.val (.int cv)] [(.ref bv), (.ref bl), (.ref bl)]))
  refine Go.step (fun t k => XS.iconst X4.here hx rfl (hb hby d7_21) k) ?_
  show Go _ _ _ _ _ _ _ (T4.setTop (mkF m 22 #[.val (.int cv)] [(.int (0 : Int32)), (.ref bv), (.ref bl), (.ref bl)]))
  obtain ⟨_, _, ⟨T5, L5, k5, n5⟩, -, X5, ⟨Lc5, hQ5, l5, y5, z5⟩, st5⟩ := X4.specialBack hx (y := (⟨"java/lang/String", "<init>", "([BB)V"⟩ : MethodName)) rfl hown (mvT hZ (hw _ (List.mem_of_getElem? (i := 42) rfl))) (mvT hZ (hw _ (List.mem_of_getElem? (i := 43) rfl))) (mvT hZ (hw _ (List.mem_of_getElem? (i := 44) rfl))) (by decide) (backOf (W := 1) (rm10 l Z a0 hw [] bl bv (0 : Int32) T4.heap n0 Z4 F_value_bl F_coder_bl E_bl g_bl rfl) hZ (hw _ (List.mem_of_getElem? (i := 44) rfl)) (hw _ (List.mem_of_getElem? (i := 4) rfl)) (by decide) (by decide)) (g := (mkF m 22 #[.val (.int cv)] [(.int (0 : Int32)), (.ref bv), (.ref bl), (.ref bl)])) rfl (by rw [hml]; rfl) (Steps.refl _) (a := bl) (argsL := [(.ref bv), (.int (0 : Int32))]) (rest := [(.ref bl)]) (lenOf pd_7_2 rfl) rfl (by show 2 * 0 + _ ≤ _; exact Nat.le_of_eq rfl) (hb hby d7_22) (fun _ _ => ⟨rfl, rfl, (by decide : 2 + 0 ≤ _), (by decide : 5 + 0 ≤ _)⟩)
  dsimp only [Pt.U, Pt.locs, Pt.cells, Pt.slots] at X5 l5 y5 z5 st5 hQ5
  subst l5 y5 z5
  obtain ⟨rfl, N5q, K5q, o5_F_value_bl, o5_F_coder_bl⟩ := hQ5
  have N5 := Fr.app N4 N5q
  replace old := Old.keep old K5q (allS g_bl all0)
  replace E_bl := E_bl.keep K5q
  replace A_bv := A_bv.keep K5q (ninS (Ne.symm ne_bl_bv) nin0)
  have Z5 := Nat.le_trans Z4 K5q.1
  have K5' := K4'.trans K5q (allS (Or.inr sz_bl) all0)
  have F_value_bl := o5_F_value_bl
  have F_coder_bl := o5_F_coder_bl
  refine Go.step (fun t k => st5.trans k) ?_
  show Go _ _ _ _ _ _ _ (T5.setTop (mkF m 25 #[.val (.int cv)] [(.ref bl)]))
  refine Go.retA X5 Bd.notSynchronized hx Bd.returns rfl rfl rfl (hb hby d7_25) (by decide) (by decide) ?_
  exact ⟨bl, bv, rfl, N5, K5', sz_bl, sz_bv, E_bl, F_value_bl, F_coder_bl, A_bv, ne_bl_bv⟩
theorem d18_0 : decode jdk_42_method_152_code 0 = .ok (.getstatic 38, 3) := by decide +kernel
theorem d18_3 : decode jdk_42_method_152_code 3 = .ok (.ifCond .eq 10, 3) := by decide +kernel
theorem d18_6 : decode jdk_42_method_152_code 6 = .ok (.aload_n 0, 1) := by decide +kernel
theorem d18_7 : decode jdk_42_method_152_code 7 = .ok (.getfield 15, 3) := by decide +kernel
theorem d18_10 : decode jdk_42_method_152_code 10 = .ok (.goto 4, 3) := by decide +kernel
theorem d18_14 : decode jdk_42_method_152_code 14 = .ok (.ireturn, 1) := by decide +kernel
theorem pn_18 : plainName "java/lang/String" = true := by first | (simp [plainName, overriddenIn]; done) | decide +kernel
theorem ef_18 (m : MethodId) (x0 : Addr) : entryFrame m #[(.ref x0)] 1 = mkF m 0 #[.val (.ref x0)] [] := by first | (simp [entryFrame, mkF, argsToLocals, Value.category]; done) | rfl
def Q18 (Z : State) (aa : Addr) (cs : Int32) (h0 : Heap) (n0 : Nat) (v : Option Value) (h : Heap) (L : List Loc) : Prop := v = some (.int (0 : Int32)) ∧ Fr n0 L ∧ h = h0
set_option maxRecDepth 65536 in
set_option maxHeartbeats 40000000 in
theorem rm18 (l : Launch) (Z : State) (a0 : Array Value) (hw : ∀ d ∈ tables_1, d.before a0 Z = true) (ws : List Jvm.Cond) (aa : Addr) (cs : Int32) (h0 : Heap) (n0 : Nat) (Z0 : n0 ≤ h0.size) (old : Old Z n0 h0) (hcs : (Sta Z Z.heap "java/lang/String" "COMPACT_STRINGS" "Z" (.int cs))) (hc0 : (¬ cs = (0 : Int32))) (F_coder_aa : Fld Z h0 aa "java/lang/String" "coder" "B" (.int (0 : Int32))) :
    MetFree l (⟨"java/lang/String", "coder", "()B"⟩ : MethodName) (head1 (Jvm.Cond.code (⟨"java/lang/String", "coder", "()B"⟩ : MethodName) jdk_42_method_152_code 1 (some .byte) :: ws) ({ frames := 0, cells := 0, slots := 0, locals := 0 } : Room)) (fun a U => a = #[(.ref aa)] ∧ Z.Warmed39 U.vm ∧ U.heap = h0) (fun _ _ _ _ _ => True) (fun _ U o U' => ∃ v L, o = .returned v ∧ Q18 Z aa cs h0 n0 v U'.heap L ∧ FrameEnd U o U' L ({ frames := 0, cells := 0, slots := 0, locals := 0 } : Room).cells ({ frames := 0, cells := 0, slots := 0, locals := 0 } : Room).slots) := by
  refine MetFree.of_bodySF (plainFor_of_name pn_18) hisR ?_
  intro p e s m args below meth c s₁ Bd hml0 hP hK
  obtain ⟨rfl, hZ, hh⟩ := hP
  have hx := Bd.exec
  have hby := Bd.bytes
  have hml : c.maxLocals = 1 := hml0
  have hown : s.vm.findClass "java/lang/String" = some m.cls := findClass_of_methodNamed Bd.named
  have hnm := (name_of_methodNamed Bd.named Bd.method).1
  have X0 : Stand p l e ({ frames := 0, cells := 0, slots := 0, locals := 0 } : Room) s m #[(.ref aa)] below meth c s₁ [] 0 0 := Stand.of_body Bd
  have e0 : s₁.heap = h0 := by rw [← hh, Bd.state]; rfl
  have N0 := Fr.nil n0
  show Go p e below s (Q18 Z aa cs h0 n0) ({ frames := 0, cells := 0, slots := 0, locals := 0 } : Room).cells ({ frames := 0, cells := 0, slots := 0, locals := 0 } : Room).slots (s₁.setTop (entryFrame m #[(.ref aa)] 1))
  rw [ef_18]
  show Go _ _ _ _ _ _ _ (s₁.setTop (mkF m 0 #[.val (.ref aa)] []))
  have S_CS := Sta.ext old.2 hcs
  obtain ⟨T1, X1, e1, st1⟩ := getS2 X0 hx hZ hown (host := "") (Or.inl (hw _ (List.mem_of_getElem? (i := 15) rfl))) Via.refl e0 S_CS (g := (mkF m 0 #[.val (.ref aa)] [])) rfl (hb hby d18_0)
  refine Go.step st1 ?_
  show Go _ _ _ _ _ _ _ (T1.setTop (mkF m 3 #[.val (.ref aa)] [(.int cs)]))
  refine Go.step (fun t k => XS.ifNo X1.here hx rfl (hb hby d18_3) rfl ((if0 _ _).trans (feq (hc0 : ¬ cs = (0 : Int32))).1) k) ?_
  show Go _ _ _ _ _ _ _ (T1.setTop (mkF m 6 #[.val (.ref aa)] []))
  refine Go.step (fun t k => XS.aloadN X1.here hx rfl (hb hby d18_6) rfl rfl k) ?_
  show Go _ _ _ _ _ _ _ (T1.setTop (mkF m 7 #[.val (.ref aa)] [(.ref aa)]))
  obtain ⟨T2, X2, e2, st2⟩ := getF X1 hx hZ hown (host := "") (Or.inl (hw _ (List.mem_of_getElem? (i := 27) rfl))) Via.refl e1 F_coder_aa (g := (mkF m 7 #[.val (.ref aa)] [(.ref aa)])) rfl rfl (hb hby d18_7)
  refine Go.step st2 ?_
  show Go _ _ _ _ _ _ _ (T2.setTop (mkF m 10 #[.val (.ref aa)] [(.int (0 : Int32))]))
  refine Go.step (fun t k => XS.goto X2.here hx rfl (pc0 := 10) (pc' := 14) rfl (hb hby d18_10) (by decide) (by decide) k) ?_
  show Go _ _ _ _ _ _ _ (T2.setTop (mkF m 14 #[.val (.ref aa)] [(.int (0 : Int32))]))
  refine Go.retN X2 Bd.notSynchronized hx (t := .byte) Bd.returns (by simp) (hb hby d18_14) (by decide) (by decide) (0 : Int32) rfl ?_
  rw [e2]
  exact ⟨rfl, N0, rfl⟩
theorem d21_0 : decode jdk_42_method_154_code 0 = .ok (.getstatic 38, 3) := by decide +kernel
theorem d21_3 : decode jdk_42_method_154_code 3 = .ok (.ifCond .eq 14, 3) := by decide +kernel
theorem d21_6 : decode jdk_42_method_154_code 6 = .ok (.aload_n 0, 1) := by decide +kernel
theorem d21_7 : decode jdk_42_method_154_code 7 = .ok (.getfield 15, 3) := by decide +kernel
theorem d21_10 : decode jdk_42_method_154_code 10 = .ok (.ifCond .ne 7, 3) := by decide +kernel
theorem d21_13 : decode jdk_42_method_154_code 13 = .ok (.iconst 1, 1) := by decide +kernel
theorem d21_14 : decode jdk_42_method_154_code 14 = .ok (.goto 4, 3) := by decide +kernel
theorem d21_18 : decode jdk_42_method_154_code 18 = .ok (.ireturn, 1) := by decide +kernel
theorem pn_21 : plainName "java/lang/String" = true := by first | (simp [plainName, overriddenIn]; done) | decide +kernel
theorem ef_21 (m : MethodId) (x0 : Addr) : entryFrame m #[(.ref x0)] 1 = mkF m 0 #[.val (.ref x0)] [] := by first | (simp [entryFrame, mkF, argsToLocals, Value.category]; done) | rfl
def Q21 (Z : State) (aa : Addr) (cs : Int32) (h0 : Heap) (n0 : Nat) (v : Option Value) (h : Heap) (L : List Loc) : Prop := v = some (.int (1 : Int32)) ∧ Fr n0 L ∧ h = h0
set_option maxRecDepth 65536 in
set_option maxHeartbeats 40000000 in
theorem rm21 (l : Launch) (Z : State) (a0 : Array Value) (hw : ∀ d ∈ tables_1, d.before a0 Z = true) (ws : List Jvm.Cond) (aa : Addr) (cs : Int32) (h0 : Heap) (n0 : Nat) (Z0 : n0 ≤ h0.size) (old : Old Z n0 h0) (hcs : (Sta Z Z.heap "java/lang/String" "COMPACT_STRINGS" "Z" (.int cs))) (hc0 : (¬ cs = (0 : Int32))) (F_coder_aa : Fld Z h0 aa "java/lang/String" "coder" "B" (.int (0 : Int32))) :
    MetFree l (⟨"java/lang/String", "isLatin1", "()Z"⟩ : MethodName) (head1 (Jvm.Cond.code (⟨"java/lang/String", "isLatin1", "()Z"⟩ : MethodName) jdk_42_method_154_code 1 (some .boolean) :: ws) ({ frames := 0, cells := 0, slots := 0, locals := 0 } : Room)) (fun a U => a = #[(.ref aa)] ∧ Z.Warmed39 U.vm ∧ U.heap = h0) (fun _ _ _ _ _ => True) (fun _ U o U' => ∃ v L, o = .returned v ∧ Q21 Z aa cs h0 n0 v U'.heap L ∧ FrameEnd U o U' L ({ frames := 0, cells := 0, slots := 0, locals := 0 } : Room).cells ({ frames := 0, cells := 0, slots := 0, locals := 0 } : Room).slots) := by
  refine MetFree.of_bodySF (plainFor_of_name pn_21) hisR ?_
  intro p e s m args below meth c s₁ Bd hml0 hP hK
  obtain ⟨rfl, hZ, hh⟩ := hP
  have hx := Bd.exec
  have hby := Bd.bytes
  have hml : c.maxLocals = 1 := hml0
  have hown : s.vm.findClass "java/lang/String" = some m.cls := findClass_of_methodNamed Bd.named
  have hnm := (name_of_methodNamed Bd.named Bd.method).1
  have X0 : Stand p l e ({ frames := 0, cells := 0, slots := 0, locals := 0 } : Room) s m #[(.ref aa)] below meth c s₁ [] 0 0 := Stand.of_body Bd
  have e0 : s₁.heap = h0 := by rw [← hh, Bd.state]; rfl
  have N0 := Fr.nil n0
  show Go p e below s (Q21 Z aa cs h0 n0) ({ frames := 0, cells := 0, slots := 0, locals := 0 } : Room).cells ({ frames := 0, cells := 0, slots := 0, locals := 0 } : Room).slots (s₁.setTop (entryFrame m #[(.ref aa)] 1))
  rw [ef_21]
  show Go _ _ _ _ _ _ _ (s₁.setTop (mkF m 0 #[.val (.ref aa)] []))
  have S_CS := Sta.ext old.2 hcs
  obtain ⟨T1, X1, e1, st1⟩ := getS2 X0 hx hZ hown (host := "") (Or.inl (hw _ (List.mem_of_getElem? (i := 15) rfl))) Via.refl e0 S_CS (g := (mkF m 0 #[.val (.ref aa)] [])) rfl (hb hby d21_0)
  refine Go.step st1 ?_
  show Go _ _ _ _ _ _ _ (T1.setTop (mkF m 3 #[.val (.ref aa)] [(.int cs)]))
  refine Go.step (fun t k => XS.ifNo X1.here hx rfl (hb hby d21_3) rfl ((if0 _ _).trans (feq (hc0 : ¬ cs = (0 : Int32))).1) k) ?_
  show Go _ _ _ _ _ _ _ (T1.setTop (mkF m 6 #[.val (.ref aa)] []))
  refine Go.step (fun t k => XS.aloadN X1.here hx rfl (hb hby d21_6) rfl rfl k) ?_
  show Go _ _ _ _ _ _ _ (T1.setTop (mkF m 7 #[.val (.ref aa)] [(.ref aa)]))
  obtain ⟨T2, X2, e2, st2⟩ := getF X1 hx hZ hown (host := "") (Or.inl (hw _ (List.mem_of_getElem? (i := 27) rfl))) Via.refl e1 F_coder_aa (g := (mkF m 7 #[.val (.ref aa)] [(.ref aa)])) rfl rfl (hb hby d21_7)
  refine Go.step st2 ?_
  show Go _ _ _ _ _ _ _ (T2.setTop (mkF m 10 #[.val (.ref aa)] [(.int (0 : Int32))]))
  refine Go.step (fun t k => XS.ifNo X2.here hx rfl (hb hby d21_10) rfl ((if0 _ _).trans (teq (by decide : (0 : Int32) = (0 : Int32))).2) k) ?_
  show Go _ _ _ _ _ _ _ (T2.setTop (mkF m 13 #[.val (.ref aa)] []))
  refine Go.step (fun t k => XS.iconst X2.here hx rfl (hb hby d21_13) k) ?_
  show Go _ _ _ _ _ _ _ (T2.setTop (mkF m 14 #[.val (.ref aa)] [(.int (1 : Int32))]))
  refine Go.step (fun t k => XS.goto X2.here hx rfl (pc0 := 14) (pc' := 18) rfl (hb hby d21_14) (by decide) (by decide) k) ?_
  show Go _ _ _ _ _ _ _ (T2.setTop (mkF m 18 #[.val (.ref aa)] [(.int (1 : Int32))]))
  refine Go.retN X2 Bd.notSynchronized hx (t := .boolean) Bd.returns (by simp) (hb hby d21_18) (by decide) (by decide) (1 : Int32) rfl ?_
  rw [e2]
  exact ⟨rfl, N0, rfl⟩
theorem d17_0 : decode jdk_42_method_54_code 0 = .ok (.aload_n 0, 1) := by decide +kernel
theorem d17_1 : decode jdk_42_method_54_code 1 = .ok (.getfield 9, 3) := by decide +kernel
theorem d17_4 : decode jdk_42_method_54_code 4 = .ok (.arraylength, 1) := by decide +kernel
theorem d17_5 : decode jdk_42_method_54_code 5 = .ok (.aload_n 0, 1) := by decide +kernel
theorem d17_6 : decode jdk_42_method_54_code 6 = .ok (.invokevirtual 335, 3) := by decide +kernel
theorem d17_9 : decode jdk_42_method_54_code 9 = .ok (.ishr, 1) := by decide +kernel
theorem d17_10 : decode jdk_42_method_54_code 10 = .ok (.ireturn, 1) := by decide +kernel
theorem pn_17 : plainName "java/lang/String" = true := by first | (simp [plainName, overriddenIn]; done) | decide +kernel
theorem pd_17_0 : parseMethodDescriptor "()B" = some ⟨[], some .byte⟩ := by decide +kernel
theorem ef_17 (m : MethodId) (x0 : Addr) : entryFrame m #[(.ref x0)] 1 = mkF m 0 #[.val (.ref x0)] [] := by first | (simp [entryFrame, mkF, argsToLocals, Value.category]; done) | rfl
def Q17 (Z : State) (aa : Addr) (cs : Int32) (bv : Addr) (nb : Nat) (zb : Int32) (gb : Nat → Int32) (h0 : Heap) (n0 : Nat) (v : Option Value) (h : Heap) (L : List Loc) : Prop := v = some (.int zb) ∧ Fr n0 L ∧ h = h0
set_option maxRecDepth 65536 in
set_option maxHeartbeats 40000000 in
theorem rm17 (l : Launch) (Z : State) (a0 : Array Value) (hw : ∀ d ∈ tables_1, d.before a0 Z = true) (ws : List Jvm.Cond) (aa : Addr) (cs : Int32) (bv : Addr) (nb : Nat) (zb : Int32) (gb : Nat → Int32) (h0 : Heap) (n0 : Nat) (Z0 : n0 ≤ h0.size) (old : Old Z n0 h0) (hcs : (Sta Z Z.heap "java/lang/String" "COMPACT_STRINGS" "Z" (.int cs))) (hc0 : (¬ cs = (0 : Int32))) (E_aa : Exa Z h0 aa "java/lang/String") (F_value_aa : Fld Z h0 aa "java/lang/String" "value" "[B" (.ref bv)) (F_coder_aa : Fld Z h0 aa "java/lang/String" "coder" "B" (.int (0 : Int32))) (A_bv : AryI Z h0 bv .byte nb gb) (hzb : (zb.toInt = (nb : Int))) :
    MetFree l (⟨"java/lang/String", "length", "()I"⟩ : MethodName) (head1 (Jvm.Cond.code (⟨"java/lang/String", "length", "()I"⟩ : MethodName) jdk_42_method_54_code 1 (some .int) :: ws) ({ frames := 1, cells := 0, slots := 0, locals := 13 } : Room)) (fun a U => a = #[(.ref aa)] ∧ Z.Warmed39 U.vm ∧ U.heap = h0) (fun _ _ _ _ _ => True) (fun _ U o U' => ∃ v L, o = .returned v ∧ Q17 Z aa cs bv nb zb gb h0 n0 v U'.heap L ∧ FrameEnd U o U' L ({ frames := 1, cells := 0, slots := 0, locals := 13 } : Room).cells ({ frames := 1, cells := 0, slots := 0, locals := 13 } : Room).slots) := by
  refine MetFree.of_bodySF (plainFor_of_name pn_17) hisR ?_
  intro p e s m args below meth c s₁ Bd hml0 hP hK
  obtain ⟨rfl, hZ, hh⟩ := hP
  have hx := Bd.exec
  have hby := Bd.bytes
  have hml : c.maxLocals = 1 := hml0
  have hown : s.vm.findClass "java/lang/String" = some m.cls := findClass_of_methodNamed Bd.named
  have hnm := (name_of_methodNamed Bd.named Bd.method).1
  have X0 : Stand p l e ({ frames := 1, cells := 0, slots := 0, locals := 13 } : Room) s m #[(.ref aa)] below meth c s₁ [] 0 0 := Stand.of_body Bd
  have e0 : s₁.heap = h0 := by rw [← hh, Bd.state]; rfl
  have N0 := Fr.nil n0
  show Go p e below s (Q17 Z aa cs bv nb zb gb h0 n0) ({ frames := 1, cells := 0, slots := 0, locals := 13 } : Room).cells ({ frames := 1, cells := 0, slots := 0, locals := 13 } : Room).slots (s₁.setTop (entryFrame m #[(.ref aa)] 1))
  rw [ef_17]
  show Go _ _ _ _ _ _ _ (s₁.setTop (mkF m 0 #[.val (.ref aa)] []))
  refine Go.step (fun t k => XS.aloadN X0.here hx rfl (hb hby d17_0) rfl rfl k) ?_
  show Go _ _ _ _ _ _ _ (s₁.setTop (mkF m 1 #[.val (.ref aa)] [(.ref aa)]))
  obtain ⟨T1, X1, e1, st1⟩ := getF X0 hx hZ hown (host := "") (Or.inl (hw _ (List.mem_of_getElem? (i := 29) rfl))) Via.refl e0 F_value_aa (g := (mkF m 1 #[.val (.ref aa)] [(.ref aa)])) rfl rfl (hb hby d17_1)
  refine Go.step st1 ?_
  show Go _ _ _ _ _ _ _ (T1.setTop (mkF m 4 #[.val (.ref aa)] [(.ref bv)]))
  refine Go.step (own_len X1 hx hZ e1 A_bv (z := zb) (own_tz hzb) (f := (mkF m 4 #[.val (.ref aa)] [(.ref bv)])) rfl rfl (hb hby d17_4)) ?_
  show Go _ _ _ _ _ _ _ (T1.setTop (mkF m 5 #[.val (.ref aa)] [(.int zb)]))
  refine Go.step (fun t k => XS.aloadN X1.here hx rfl (hb hby d17_5) rfl rfl k) ?_
  show Go _ _ _ _ _ _ _ (T1.setTop (mkF m 6 #[.val (.ref aa)] [(.ref aa), (.int zb)]))
  obtain ⟨cq3, kq3, q3a, q3b, q3c⟩ := isOf hZ e1 E_aa
  obtain ⟨_, _, ⟨T3, L3, k3, n3⟩, -, X3, ⟨Lc3, hQ3, l3, y3, z3⟩, st3⟩ := X1.virtualBack hx (y := (⟨"java/lang/String", "coder", "()B"⟩ : MethodName)) (z := (⟨"java/lang/String", "coder", "()B"⟩ : MethodName)) hown (mvT hZ (hw _ (List.mem_of_getElem? (i := 105) rfl))) (mvT hZ (hw _ (List.mem_of_getElem? (i := 106) rfl))) (notFace_of_selects (args := #[]) (mvT hZ (hw _ (List.mem_of_getElem? (i := 108) rfl)))) (mvT hZ (hw _ (List.mem_of_getElem? (i := 108) rfl))) (mvT hZ (hw _ (List.mem_of_getElem? (i := 107) rfl))) (by decide) (backOf (W := 1) (rm18 l Z a0 hw [] aa cs h0 n0 Z0 old hcs hc0 F_coder_aa) hZ (hw _ (List.mem_of_getElem? (i := 109) rfl)) (hw _ (List.mem_of_getElem? (i := 4) rfl)) (by decide) (by decide)) q3a q3c (g := (mkF m 6 #[.val (.ref aa)] [(.ref aa), (.int zb)])) rfl (by rw [hml]; rfl) (Steps.refl _) (argsL := []) (rest := [(.int zb)]) (lenOf pd_17_0 rfl) rfl (by show 2 * 0 + _ ≤ _; exact Nat.le_of_eq rfl) (hb hby d17_6) (fun _ _ => ⟨rfl, e1, (by decide : 0 + 0 ≤ _), (by decide : 0 + 0 ≤ _)⟩)
  dsimp only [Pt.U, Pt.locs, Pt.cells, Pt.slots] at X3 l3 y3 z3 st3 hQ3
  subst l3 y3 z3
  obtain ⟨rfl, N3q, K3q⟩ := hQ3
  have N3 := Fr.app N0 N3q
  refine Go.step (fun t k => st3.trans k) ?_
  show Go _ _ _ _ _ _ _ (T3.setTop (mkF m 9 #[.val (.ref aa)] [(.int (0 : Int32)), (.int zb)]))
  refine Go.step (fun t k => XS.ishr X3.here hx rfl (hb hby d17_9) rfl k) ?_
  show Go _ _ _ _ _ _ _ (T3.setTop (mkF m 10 #[.val (.ref aa)] [(.int (zb >>> ((0 : Int32) &&& 31)))]))
  refine Go.retI X3 Bd.notSynchronized hx Bd.returns (hb hby d17_10) (by decide) (by decide) ?_
  rw [K3q]
  exact ⟨(by rw [own_sh0]), N3, rfl⟩
theorem d24_0 : decode jdk_41_method_11_code 0 = .ok (.iload_n 0, 1) := by decide +kernel
theorem d24_1 : decode jdk_41_method_11_code 1 = .ok (.ifCond .lt 8, 3) := by decide +kernel
theorem d24_4 : decode jdk_41_method_11_code 4 = .ok (.iload_n 0, 1) := by decide +kernel
theorem d24_5 : decode jdk_41_method_11_code 5 = .ok (.iload_n 1, 1) := by decide +kernel
theorem d24_6 : decode jdk_41_method_11_code 6 = .ok (.if_icmp .lt 10, 3) := by decide +kernel
theorem d24_16 : decode jdk_41_method_11_code 16 = .ok (.iload_n 0, 1) := by decide +kernel
theorem d24_17 : decode jdk_41_method_11_code 17 = .ok (.ireturn, 1) := by decide +kernel
theorem pn_24 : plainName "jdk/internal/util/Preconditions" = true := by first | (simp [plainName, overriddenIn]; done) | decide +kernel
theorem ef_24 (m : MethodId) (x0 : Int32) (x1 : Int32) (x2 : Value) (hx2 : x2.isRef = true) : entryFrame m #[(.int x0), (.int x1), x2] 3 = mkF m 0 #[.val (.int x0), .val (.int x1), .val x2] [] := by rcases ref_cases hx2 with rfl | ⟨_, rfl⟩ <;> rfl
def Q24 (Z : State) (ii : Int32) (nn : Int32) (fm : Value) (h0 : Heap) (n0 : Nat) (v : Option Value) (h : Heap) (L : List Loc) : Prop := v = some (.int ii) ∧ Fr n0 L ∧ h = h0
set_option maxRecDepth 65536 in
set_option maxHeartbeats 40000000 in
theorem rm24 (l : Launch) (Z : State) (a0 : Array Value) (hw : ∀ d ∈ tables_1, d.before a0 Z = true) (ws : List Jvm.Cond) (ii : Int32) (nn : Int32) (fm : Value) (h0 : Heap) (n0 : Nat) (Z0 : n0 ≤ h0.size) (hfm : (fm.isRef = true)) (hi0 : (¬ ii < (0 : Int32))) (hin : (ii < nn)) :
    MetFree l (⟨"jdk/internal/util/Preconditions", "checkIndex", "(IILjava/util/function/BiFunction;)I"⟩ : MethodName) (head1 (Jvm.Cond.code (⟨"jdk/internal/util/Preconditions", "checkIndex", "(IILjava/util/function/BiFunction;)I"⟩ : MethodName) jdk_41_method_11_code 3 (some .int) :: ws) ({ frames := 0, cells := 0, slots := 0, locals := 0 } : Room)) (fun a U => a = #[(.int ii), (.int nn), fm] ∧ Z.Warmed39 U.vm ∧ U.heap = h0) (fun _ _ _ _ _ => True) (fun _ U o U' => ∃ v L, o = .returned v ∧ Q24 Z ii nn fm h0 n0 v U'.heap L ∧ FrameEnd U o U' L ({ frames := 0, cells := 0, slots := 0, locals := 0 } : Room).cells ({ frames := 0, cells := 0, slots := 0, locals := 0 } : Room).slots) := by
  refine MetFree.of_bodySF (plainFor_of_name pn_24) hisR ?_
  intro p e s m args below meth c s₁ Bd hml0 hP hK
  obtain ⟨rfl, hZ, hh⟩ := hP
  have hx := Bd.exec
  have hby := Bd.bytes
  have hml : c.maxLocals = 3 := hml0
  have hown : s.vm.findClass "jdk/internal/util/Preconditions" = some m.cls := findClass_of_methodNamed Bd.named
  have hnm := (name_of_methodNamed Bd.named Bd.method).1
  have X0 : Stand p l e ({ frames := 0, cells := 0, slots := 0, locals := 0 } : Room) s m #[(.int ii), (.int nn), fm] below meth c s₁ [] 0 0 := Stand.of_body Bd
  have e0 : s₁.heap = h0 := by rw [← hh, Bd.state]; rfl
  have N0 := Fr.nil n0
  show Go p e below s (Q24 Z ii nn fm h0 n0) ({ frames := 0, cells := 0, slots := 0, locals := 0 } : Room).cells ({ frames := 0, cells := 0, slots := 0, locals := 0 } : Room).slots (s₁.setTop (entryFrame m #[(.int ii), (.int nn), fm] 3))
  rw [ef_24 m ii nn fm hfm]
  show Go _ _ _ _ _ _ _ (s₁.setTop (mkF m 0 #[.val (.int ii), .val (.int nn), .val fm] []))
  refine Go.step (fun t k => XS.iloadN X0.here hx rfl (hb hby d24_0) rfl k) ?_
  show Go _ _ _ _ _ _ _ (s₁.setTop (mkF m 1 #[.val (.int ii), .val (.int nn), .val fm] [(.int ii)]))
  refine Go.step (fun t k => XS.ifNo X0.here hx rfl (hb hby d24_1) rfl ((if0 _ _).trans (flt (hi0 : ¬ ii < (0 : Int32))).1) k) ?_
  show Go _ _ _ _ _ _ _ (s₁.setTop (mkF m 4 #[.val (.int ii), .val (.int nn), .val fm] []))
  refine Go.step (fun t k => XS.iloadN X0.here hx rfl (hb hby d24_4) rfl k) ?_
  show Go _ _ _ _ _ _ _ (s₁.setTop (mkF m 5 #[.val (.int ii), .val (.int nn), .val fm] [(.int ii)]))
  refine Go.step (fun t k => XS.iloadN X0.here hx rfl (hb hby d24_5) rfl k) ?_
  show Go _ _ _ _ _ _ _ (s₁.setTop (mkF m 6 #[.val (.int ii), .val (.int nn), .val fm] [(.int nn), (.int ii)]))
  refine Go.step (fun t k => XS.icmpYes X0.here hx rfl (pc0 := 6) (pc' := 16) rfl (hb hby d24_6) rfl (tlt (hin : ii < nn)).1 (by decide) (by decide) k) ?_
  show Go _ _ _ _ _ _ _ (s₁.setTop (mkF m 16 #[.val (.int ii), .val (.int nn), .val fm] []))
  refine Go.step (fun t k => XS.iloadN X0.here hx rfl (hb hby d24_16) rfl k) ?_
  show Go _ _ _ _ _ _ _ (s₁.setTop (mkF m 17 #[.val (.int ii), .val (.int nn), .val fm] [(.int ii)]))
  refine Go.retI X0 Bd.notSynchronized hx Bd.returns (hb hby d24_17) (by decide) (by decide) ?_
  rw [e0]
  exact ⟨rfl, N0, rfl⟩
theorem d23_0 : decode jdk_42_method_155_code 0 = .ok (.iload_n 0, 1) := by decide +kernel
theorem d23_1 : decode jdk_42_method_155_code 1 = .ok (.iload_n 1, 1) := by decide +kernel
theorem d23_2 : decode jdk_42_method_155_code 2 = .ok (.getstatic 1053, 3) := by decide +kernel
theorem d23_5 : decode jdk_42_method_155_code 5 = .ok (.invokestatic 1059, 3) := by decide +kernel
theorem d23_8 : decode jdk_42_method_155_code 8 = .ok (.pop, 1) := by decide +kernel
theorem d23_9 : decode jdk_42_method_155_code 9 = .ok (.return_, 1) := by decide +kernel
theorem pn_23 : plainName "java/lang/String" = true := by first | (simp [plainName, overriddenIn]; done) | decide +kernel
theorem pd_23_0 : parseMethodDescriptor "(IILjava/util/function/BiFunction;)I" = some ⟨[.int, .int, (.object "java/util/function/BiFunction")], some .int⟩ := by decide +kernel
theorem ef_23 (m : MethodId) (x0 : Int32) (x1 : Int32) : entryFrame m #[(.int x0), (.int x1)] 2 = mkF m 0 #[.val (.int x0), .val (.int x1)] [] := by first | (simp [entryFrame, mkF, argsToLocals, Value.category]; done) | rfl
def Q23 (Z : State) (ii : Int32) (nn : Int32) (fm : Value) (h0 : Heap) (n0 : Nat) (v : Option Value) (h : Heap) (L : List Loc) : Prop := v = none ∧ Fr n0 L ∧ h = h0
set_option maxRecDepth 65536 in
set_option maxHeartbeats 40000000 in
theorem rm23 (l : Launch) (Z : State) (a0 : Array Value) (hw : ∀ d ∈ tables_1, d.before a0 Z = true) (ws : List Jvm.Cond) (ii : Int32) (nn : Int32) (fm : Value) (h0 : Heap) (n0 : Nat) (Z0 : n0 ≤ h0.size) (old : Old Z n0 h0) (hfs : (Sta Z Z.heap "jdk/internal/util/Preconditions" "SIOOBE_FORMATTER" "Ljava/util/function/BiFunction;" fm)) (hfr : (fm.isRef = true)) (hi0 : (¬ ii < (0 : Int32))) (hin : (ii < nn)) :
    MetFree l (⟨"java/lang/String", "checkIndex", "(II)V"⟩ : MethodName) (head1 (Jvm.Cond.code (⟨"java/lang/String", "checkIndex", "(II)V"⟩ : MethodName) jdk_42_method_155_code 2 none :: ws) ({ frames := 1, cells := 0, slots := 0, locals := 14 } : Room)) (fun a U => a = #[(.int ii), (.int nn)] ∧ Z.Warmed39 U.vm ∧ U.heap = h0) (fun _ _ _ _ _ => True) (fun _ U o U' => ∃ v L, o = .returned v ∧ Q23 Z ii nn fm h0 n0 v U'.heap L ∧ FrameEnd U o U' L ({ frames := 1, cells := 0, slots := 0, locals := 14 } : Room).cells ({ frames := 1, cells := 0, slots := 0, locals := 14 } : Room).slots) := by
  refine MetFree.of_bodySF (plainFor_of_name pn_23) hisR ?_
  intro p e s m args below meth c s₁ Bd hml0 hP hK
  obtain ⟨rfl, hZ, hh⟩ := hP
  have hx := Bd.exec
  have hby := Bd.bytes
  have hml : c.maxLocals = 2 := hml0
  have hown : s.vm.findClass "java/lang/String" = some m.cls := findClass_of_methodNamed Bd.named
  have hnm := (name_of_methodNamed Bd.named Bd.method).1
  have X0 : Stand p l e ({ frames := 1, cells := 0, slots := 0, locals := 14 } : Room) s m #[(.int ii), (.int nn)] below meth c s₁ [] 0 0 := Stand.of_body Bd
  have e0 : s₁.heap = h0 := by rw [← hh, Bd.state]; rfl
  have N0 := Fr.nil n0
  show Go p e below s (Q23 Z ii nn fm h0 n0) ({ frames := 1, cells := 0, slots := 0, locals := 14 } : Room).cells ({ frames := 1, cells := 0, slots := 0, locals := 14 } : Room).slots (s₁.setTop (entryFrame m #[(.int ii), (.int nn)] 2))
  rw [ef_23]
  show Go _ _ _ _ _ _ _ (s₁.setTop (mkF m 0 #[.val (.int ii), .val (.int nn)] []))
  have S_FM := Sta.ext old.2 hfs
  refine Go.step (fun t k => XS.iloadN X0.here hx rfl (hb hby d23_0) rfl k) ?_
  show Go _ _ _ _ _ _ _ (s₁.setTop (mkF m 1 #[.val (.int ii), .val (.int nn)] [(.int ii)]))
  refine Go.step (fun t k => XS.iloadN X0.here hx rfl (hb hby d23_1) rfl k) ?_
  show Go _ _ _ _ _ _ _ (s₁.setTop (mkF m 2 #[.val (.int ii), .val (.int nn)] [(.int nn), (.int ii)]))
  obtain ⟨T1, X1, e1, st1⟩ := getS2 X0 hx hZ hown (host := "") (Or.inl (hw _ (List.mem_of_getElem? (i := 135) rfl))) Via.refl e0 S_FM (g := (mkF m 2 #[.val (.int ii), .val (.int nn)] [(.int nn), (.int ii)])) rfl (hb hby d23_2)
  refine Go.step st1 ?_
  show Go _ _ _ _ _ _ _ (T1.setTop (mkF m 5 #[.val (.int ii), .val (.int nn)] [fm, (.int nn), (.int ii)]))
  obtain ⟨_, _, ⟨T2, L2, k2, n2⟩, -, X2, ⟨Lc2, hQ2, l2, y2, z2⟩, st2⟩ := Jvm.LawKit.callS X1 hx (y := (⟨"jdk/internal/util/Preconditions", "checkIndex", "(IILjava/util/function/BiFunction;)I"⟩ : MethodName)) hown (mvT hZ (hw _ (List.mem_of_getElem? (i := 137) rfl))) (mvT hZ (hw _ (List.mem_of_getElem? (i := 138) rfl))) (mvT hZ (hw _ (List.mem_of_getElem? (i := 136) rfl))) (mvT hZ (hw _ (List.mem_of_getElem? (i := 139) rfl))) (by decide) (backOf (W := 0) (rm24 l Z a0 hw [] ii nn fm h0 n0 Z0 hfr hi0 hin) hZ (hw _ (List.mem_of_getElem? (i := 139) rfl)) (hw _ (List.mem_of_getElem? (i := 136) rfl)) (by decide) (by decide)) (g := (mkF m 5 #[.val (.int ii), .val (.int nn)] [fm, (.int nn), (.int ii)])) rfl (by rw [hml]; rfl) (argsL := [(.int ii), (.int nn), fm]) (rest := []) (lenOf pd_23_0 rfl) rfl (by show 2 * 0 + _ ≤ _; exact Nat.le_of_eq rfl) (hb hby d23_5) (fun _ _ => ⟨rfl, e1, (by decide : 0 + 0 ≤ _), (by decide : 0 + 0 ≤ _)⟩)
  dsimp only [Pt.U, Pt.locs, Pt.cells, Pt.slots] at X2 l2 y2 z2 st2 hQ2
  subst l2 y2 z2
  obtain ⟨rfl, N2q, K2q⟩ := hQ2
  have N2 := Fr.app N0 N2q
  refine Go.step st2 ?_
  show Go _ _ _ _ _ _ _ (T2.setTop (mkF m 8 #[.val (.int ii), .val (.int nn)] [(.int ii)]))
  refine Go.step (fun t k => XS.pop X2.here hx rfl (hb hby d23_8) rfl rfl k) ?_
  show Go _ _ _ _ _ _ _ (T2.setTop (mkF m 9 #[.val (.int ii), .val (.int nn)] []))
  refine Go.retV X2 Bd.notSynchronized hx Bd.returns (hb hby d23_9) (by decide) (by decide) ?_
  rw [K2q]
  exact ⟨rfl, N2, rfl⟩
theorem d22_0 : decode jdk_43_method_2_code 0 = .ok (.iload_n 1, 1) := by decide +kernel
theorem d22_1 : decode jdk_43_method_2_code 1 = .ok (.aload_n 0, 1) := by decide +kernel
theorem d22_2 : decode jdk_43_method_2_code 2 = .ok (.arraylength, 1) := by decide +kernel
theorem d22_3 : decode jdk_43_method_2_code 3 = .ok (.invokestatic 9, 3) := by decide +kernel
theorem d22_6 : decode jdk_43_method_2_code 6 = .ok (.aload_n 0, 1) := by decide +kernel
theorem d22_7 : decode jdk_43_method_2_code 7 = .ok (.iload_n 1, 1) := by decide +kernel
theorem d22_8 : decode jdk_43_method_2_code 8 = .ok (.baload, 1) := by decide +kernel
theorem d22_9 : decode jdk_43_method_2_code 9 = .ok (.sipush 255, 3) := by decide +kernel
theorem d22_12 : decode jdk_43_method_2_code 12 = .ok (.iand, 1) := by decide +kernel
theorem d22_13 : decode jdk_43_method_2_code 13 = .ok (.i2c, 1) := by decide +kernel
theorem d22_14 : decode jdk_43_method_2_code 14 = .ok (.ireturn, 1) := by decide +kernel
theorem pn_22 : plainName "java/lang/StringLatin1" = true := by first | (simp [plainName, overriddenIn]; done) | decide +kernel
theorem pd_22_0 : parseMethodDescriptor "(II)V" = some ⟨[.int, .int], none⟩ := by decide +kernel
theorem ef_22 (m : MethodId) (x0 : Addr) (x1 : Int32) : entryFrame m #[(.ref x0), (.int x1)] 2 = mkF m 0 #[.val (.ref x0), .val (.int x1)] [] := by first | (simp [entryFrame, mkF, argsToLocals, Value.category]; done) | rfl
def Q22 (Z : State) (bv : Addr) (ii : Int32) (fm : Value) (nb : Nat) (zb : Int32) (gb : Nat → Int32) (ki : Nat) (h0 : Heap) (n0 : Nat) (v : Option Value) (h : Heap) (L : List Loc) : Prop := ∃ z : Int32, v = some (.int z) ∧ Fr n0 L ∧ h = h0
set_option maxRecDepth 65536 in
set_option maxHeartbeats 40000000 in
theorem rm22 (l : Launch) (Z : State) (a0 : Array Value) (hw : ∀ d ∈ tables_1, d.before a0 Z = true) (ws : List Jvm.Cond) (bv : Addr) (ii : Int32) (fm : Value) (nb : Nat) (zb : Int32) (gb : Nat → Int32) (ki : Nat) (h0 : Heap) (n0 : Nat) (Z0 : n0 ≤ h0.size) (old : Old Z n0 h0) (hfs : (Sta Z Z.heap "jdk/internal/util/Preconditions" "SIOOBE_FORMATTER" "Ljava/util/function/BiFunction;" fm)) (hfr : (fm.isRef = true)) (A_bv : AryI Z h0 bv .byte nb gb) (hzb : (zb.toInt = (nb : Int))) (hki : (ii.toInt = (ki : Int))) (hlt : (ki < nb)) :
    MetFree l (⟨"java/lang/StringLatin1", "charAt", "([BI)C"⟩ : MethodName) (head1 (Jvm.Cond.code (⟨"java/lang/StringLatin1", "charAt", "([BI)C"⟩ : MethodName) jdk_43_method_2_code 2 (some .char) :: ws) ({ frames := 2, cells := 0, slots := 0, locals := 27 } : Room)) (fun a U => a = #[(.ref bv), (.int ii)] ∧ Z.Warmed39 U.vm ∧ U.heap = h0) (fun _ _ _ _ _ => True) (fun _ U o U' => ∃ v L, o = .returned v ∧ Q22 Z bv ii fm nb zb gb ki h0 n0 v U'.heap L ∧ FrameEnd U o U' L ({ frames := 2, cells := 0, slots := 0, locals := 27 } : Room).cells ({ frames := 2, cells := 0, slots := 0, locals := 27 } : Room).slots) := by
  refine MetFree.of_bodySF (plainFor_of_name pn_22) hisR ?_
  intro p e s m args below meth c s₁ Bd hml0 hP hK
  obtain ⟨rfl, hZ, hh⟩ := hP
  have hx := Bd.exec
  have hby := Bd.bytes
  have hml : c.maxLocals = 2 := hml0
  have hown : s.vm.findClass "java/lang/StringLatin1" = some m.cls := findClass_of_methodNamed Bd.named
  have hnm := (name_of_methodNamed Bd.named Bd.method).1
  have X0 : Stand p l e ({ frames := 2, cells := 0, slots := 0, locals := 27 } : Room) s m #[(.ref bv), (.int ii)] below meth c s₁ [] 0 0 := Stand.of_body Bd
  have e0 : s₁.heap = h0 := by rw [← hh, Bd.state]; rfl
  have N0 := Fr.nil n0
  show Go p e below s (Q22 Z bv ii fm nb zb gb ki h0 n0) ({ frames := 2, cells := 0, slots := 0, locals := 27 } : Room).cells ({ frames := 2, cells := 0, slots := 0, locals := 27 } : Room).slots (s₁.setTop (entryFrame m #[(.ref bv), (.int ii)] 2))
  rw [ef_22]
  show Go _ _ _ _ _ _ _ (s₁.setTop (mkF m 0 #[.val (.ref bv), .val (.int ii)] []))
  refine Go.step (fun t k => XS.iloadN X0.here hx rfl (hb hby d22_0) rfl k) ?_
  show Go _ _ _ _ _ _ _ (s₁.setTop (mkF m 1 #[.val (.ref bv), .val (.int ii)] [(.int ii)]))
  refine Go.step (fun t k => XS.aloadN X0.here hx rfl (hb hby d22_1) rfl rfl k) ?_
  show Go _ _ _ _ _ _ _ (s₁.setTop (mkF m 2 #[.val (.ref bv), .val (.int ii)] [(.ref bv), (.int ii)]))
  refine Go.step (own_len X0 hx hZ e0 A_bv (z := zb) (own_tz hzb) (f := (mkF m 2 #[.val (.ref bv), .val (.int ii)] [(.ref bv), (.int ii)])) rfl rfl (hb hby d22_2)) ?_
  show Go _ _ _ _ _ _ _ (s₁.setTop (mkF m 3 #[.val (.ref bv), .val (.int ii)] [(.int zb), (.int ii)]))
  obtain ⟨_, _, ⟨T2, L2, k2, n2⟩, -, X2, ⟨Lc2, hQ2, l2, y2, z2⟩, st2⟩ := Jvm.LawKit.callS X0 hx (y := (⟨"java/lang/String", "checkIndex", "(II)V"⟩ : MethodName)) hown (mvT hZ (hw _ (List.mem_of_getElem? (i := 132) rfl))) (mvT hZ (hw _ (List.mem_of_getElem? (i := 133) rfl))) (mvT hZ (hw _ (List.mem_of_getElem? (i := 4) rfl))) (mvT hZ (hw _ (List.mem_of_getElem? (i := 134) rfl))) (by decide) (backOf (W := 0) (rm23 l Z a0 hw [] ii zb fm h0 n0 Z0 old hfs hfr (own_nn hki) (own_lt_ hki hzb hlt)) hZ (hw _ (List.mem_of_getElem? (i := 134) rfl)) (hw _ (List.mem_of_getElem? (i := 4) rfl)) (by decide) (by decide)) (g := (mkF m 3 #[.val (.ref bv), .val (.int ii)] [(.int zb), (.int ii)])) rfl (by rw [hml]; rfl) (argsL := [(.int ii), (.int zb)]) (rest := []) (lenOf pd_22_0 rfl) rfl (by show 2 * 0 + _ ≤ _; exact Nat.le_of_eq rfl) (hb hby d22_3) (fun _ _ => ⟨rfl, e0, (by decide : 0 + 0 ≤ _), (by decide : 0 + 0 ≤ _)⟩)
  dsimp only [Pt.U, Pt.locs, Pt.cells, Pt.slots] at X2 l2 y2 z2 st2 hQ2
  subst l2 y2 z2
  obtain ⟨rfl, N2q, K2q⟩ := hQ2
  have N2 := Fr.app N0 N2q
  refine Go.step st2 ?_
  show Go _ _ _ _ _ _ _ (T2.setTop (mkF m 6 #[.val (.ref bv), .val (.int ii)] []))
  refine Go.step (fun t k => XS.aloadN X2.here hx rfl (hb hby d22_6) rfl rfl k) ?_
  show Go _ _ _ _ _ _ _ (T2.setTop (mkF m 7 #[.val (.ref bv), .val (.int ii)] [(.ref bv)]))
  refine Go.step (fun t k => XS.iloadN X2.here hx rfl (hb hby d22_7) rfl k) ?_
  show Go _ _ _ _ _ _ _ (T2.setTop (mkF m 8 #[.val (.ref bv), .val (.int ii)] [(.int ii), (.ref bv)]))
  refine Go.step (own_ld X2 hx hZ K2q A_bv (j := ii) ki hki hlt (v := (.int (gb ki))) rfl (Or.inr (Or.inr (Or.inr ⟨rfl, rfl⟩))) (f := (mkF m 8 #[.val (.ref bv), .val (.int ii)] [(.int ii), (.ref bv)])) rfl rfl (hb hby d22_8)) ?_
  show Go _ _ _ _ _ _ _ (T2.setTop (mkF m 9 #[.val (.ref bv), .val (.int ii)] [(.int (gb ki))]))
  refine Go.step (fun t k => XS.sipush X2.here hx rfl (hb hby d22_9) k) ?_
  show Go _ _ _ _ _ _ _ (T2.setTop (mkF m 12 #[.val (.ref bv), .val (.int ii)] [(.int (255 : Int32)), (.int (gb ki))]))
  refine Go.step (fun t k => XS.iand X2.here hx rfl (hb hby d22_12) rfl k) ?_
  show Go _ _ _ _ _ _ _ (T2.setTop (mkF m 13 #[.val (.ref bv), .val (.int ii)] [(.int ((gb ki) &&& (255 : Int32)))]))
  refine Go.step (fun t k => XS.i2c X2.here hx rfl (hb hby d22_13) rfl k) ?_
  show Go _ _ _ _ _ _ _ (T2.setTop (mkF m 14 #[.val (.ref bv), .val (.int ii)] [(.int (((gb ki) &&& (255 : Int32)).toUInt32.toUInt16.toUInt32.toInt32))]))
  refine Go.retN X2 Bd.notSynchronized hx (t := .char) Bd.returns (by simp) (hb hby d22_14) (by decide) (by decide) (nar .char (((gb ki) &&& (255 : Int32)).toUInt32.toUInt16.toUInt32.toInt32)) rfl ?_
  rw [K2q]
  exact ⟨_, rfl, N2, rfl⟩
theorem d20_0 : decode jdk_42_method_56_code 0 = .ok (.aload_n 0, 1) := by decide +kernel
theorem d20_1 : decode jdk_42_method_56_code 1 = .ok (.invokevirtual 492, 3) := by decide +kernel
theorem d20_4 : decode jdk_42_method_56_code 4 = .ok (.ifCond .eq 12, 3) := by decide +kernel
theorem d20_7 : decode jdk_42_method_56_code 7 = .ok (.aload_n 0, 1) := by decide +kernel
theorem d20_8 : decode jdk_42_method_56_code 8 = .ok (.getfield 9, 3) := by decide +kernel
theorem d20_11 : decode jdk_42_method_56_code 11 = .ok (.iload_n 1, 1) := by decide +kernel
theorem d20_12 : decode jdk_42_method_56_code 12 = .ok (.invokestatic 495, 3) := by decide +kernel
theorem d20_15 : decode jdk_42_method_56_code 15 = .ok (.ireturn, 1) := by decide +kernel
theorem pn_20 : plainName "java/lang/String" = true := by first | (simp [plainName, overriddenIn]; done) | decide +kernel
theorem pd_20_0 : parseMethodDescriptor "()Z" = some ⟨[], some .boolean⟩ := by decide +kernel
theorem pd_20_1 : parseMethodDescriptor "([BI)C" = some ⟨[(.array .byte), .int], some .char⟩ := by decide +kernel
theorem ef_20 (m : MethodId) (x0 : Addr) (x1 : Int32) : entryFrame m #[(.ref x0), (.int x1)] 2 = mkF m 0 #[.val (.ref x0), .val (.int x1)] [] := by first | (simp [entryFrame, mkF, argsToLocals, Value.category]; done) | rfl
def Q20 (Z : State) (aa : Addr) (ii : Int32) (cs : Int32) (fm : Value) (bv : Addr) (nb : Nat) (zb : Int32) (gb : Nat → Int32) (ki : Nat) (h0 : Heap) (n0 : Nat) (v : Option Value) (h : Heap) (L : List Loc) : Prop := ∃ z : Int32, v = some (.int z) ∧ Fr n0 L ∧ h = h0
set_option maxRecDepth 65536 in
set_option maxHeartbeats 40000000 in
theorem rm20 (l : Launch) (Z : State) (a0 : Array Value) (hw : ∀ d ∈ tables_1, d.before a0 Z = true) (ws : List Jvm.Cond) (aa : Addr) (ii : Int32) (cs : Int32) (fm : Value) (bv : Addr) (nb : Nat) (zb : Int32) (gb : Nat → Int32) (ki : Nat) (h0 : Heap) (n0 : Nat) (Z0 : n0 ≤ h0.size) (old : Old Z n0 h0) (hcs : (Sta Z Z.heap "java/lang/String" "COMPACT_STRINGS" "Z" (.int cs))) (hc0 : (¬ cs = (0 : Int32))) (hfs : (Sta Z Z.heap "jdk/internal/util/Preconditions" "SIOOBE_FORMATTER" "Ljava/util/function/BiFunction;" fm)) (hfr : (fm.isRef = true)) (E_aa : Exa Z h0 aa "java/lang/String") (F_value_aa : Fld Z h0 aa "java/lang/String" "value" "[B" (.ref bv)) (F_coder_aa : Fld Z h0 aa "java/lang/String" "coder" "B" (.int (0 : Int32))) (A_bv : AryI Z h0 bv .byte nb gb) (hzb : (zb.toInt = (nb : Int))) (hki : (ii.toInt = (ki : Int))) (hlt : (ki < nb)) :
    MetFree l (⟨"java/lang/String", "charAt", "(I)C"⟩ : MethodName) (head1 (Jvm.Cond.code (⟨"java/lang/String", "charAt", "(I)C"⟩ : MethodName) jdk_42_method_56_code 2 (some .char) :: ws) ({ frames := 3, cells := 0, slots := 0, locals := 40 } : Room)) (fun a U => a = #[(.ref aa), (.int ii)] ∧ Z.Warmed39 U.vm ∧ U.heap = h0) (fun _ _ _ _ _ => True) (fun _ U o U' => ∃ v L, o = .returned v ∧ Q20 Z aa ii cs fm bv nb zb gb ki h0 n0 v U'.heap L ∧ FrameEnd U o U' L ({ frames := 3, cells := 0, slots := 0, locals := 40 } : Room).cells ({ frames := 3, cells := 0, slots := 0, locals := 40 } : Room).slots) := by
  refine MetFree.of_bodySF (plainFor_of_name pn_20) hisR ?_
  intro p e s m args below meth c s₁ Bd hml0 hP hK
  obtain ⟨rfl, hZ, hh⟩ := hP
  have hx := Bd.exec
  have hby := Bd.bytes
  have hml : c.maxLocals = 2 := hml0
  have hown : s.vm.findClass "java/lang/String" = some m.cls := findClass_of_methodNamed Bd.named
  have hnm := (name_of_methodNamed Bd.named Bd.method).1
  have X0 : Stand p l e ({ frames := 3, cells := 0, slots := 0, locals := 40 } : Room) s m #[(.ref aa), (.int ii)] below meth c s₁ [] 0 0 := Stand.of_body Bd
  have e0 : s₁.heap = h0 := by rw [← hh, Bd.state]; rfl
  have N0 := Fr.nil n0
  show Go p e below s (Q20 Z aa ii cs fm bv nb zb gb ki h0 n0) ({ frames := 3, cells := 0, slots := 0, locals := 40 } : Room).cells ({ frames := 3, cells := 0, slots := 0, locals := 40 } : Room).slots (s₁.setTop (entryFrame m #[(.ref aa), (.int ii)] 2))
  rw [ef_20]
  show Go _ _ _ _ _ _ _ (s₁.setTop (mkF m 0 #[.val (.ref aa), .val (.int ii)] []))
  refine Go.step (fun t k => XS.aloadN X0.here hx rfl (hb hby d20_0) rfl rfl k) ?_
  show Go _ _ _ _ _ _ _ (s₁.setTop (mkF m 1 #[.val (.ref aa), .val (.int ii)] [(.ref aa)]))
  obtain ⟨cq1, kq1, q1a, q1b, q1c⟩ := isOf hZ e0 E_aa
  obtain ⟨_, _, ⟨T1, L1, k1, n1⟩, -, X1, ⟨Lc1, hQ1, l1, y1, z1⟩, st1⟩ := X0.virtualBack hx (y := (⟨"java/lang/String", "isLatin1", "()Z"⟩ : MethodName)) (z := (⟨"java/lang/String", "isLatin1", "()Z"⟩ : MethodName)) hown (mvT hZ (hw _ (List.mem_of_getElem? (i := 124) rfl))) (mvT hZ (hw _ (List.mem_of_getElem? (i := 125) rfl))) (notFace_of_selects (args := #[]) (mvT hZ (hw _ (List.mem_of_getElem? (i := 127) rfl)))) (mvT hZ (hw _ (List.mem_of_getElem? (i := 127) rfl))) (mvT hZ (hw _ (List.mem_of_getElem? (i := 126) rfl))) (by decide) (backOf (W := 0) (rm21 l Z a0 hw [] aa cs h0 n0 Z0 old hcs hc0 F_coder_aa) hZ (hw _ (List.mem_of_getElem? (i := 128) rfl)) (hw _ (List.mem_of_getElem? (i := 4) rfl)) (by decide) (by decide)) q1a q1c (g := (mkF m 1 #[.val (.ref aa), .val (.int ii)] [(.ref aa)])) rfl (by rw [hml]; rfl) (Steps.refl _) (argsL := []) (rest := []) (lenOf pd_20_0 rfl) rfl (by show 2 * 0 + _ ≤ _; exact Nat.le_of_eq rfl) (hb hby d20_1) (fun _ _ => ⟨rfl, e0, (by decide : 0 + 0 ≤ _), (by decide : 0 + 0 ≤ _)⟩)
  dsimp only [Pt.U, Pt.locs, Pt.cells, Pt.slots] at X1 l1 y1 z1 st1 hQ1
  subst l1 y1 z1
  obtain ⟨rfl, N1q, K1q⟩ := hQ1
  have N1 := Fr.app N0 N1q
  refine Go.step (fun t k => st1.trans k) ?_
  show Go _ _ _ _ _ _ _ (T1.setTop (mkF m 4 #[.val (.ref aa), .val (.int ii)] [(.int (1 : Int32))]))
  refine Go.step (fun t k => XS.ifNo X1.here hx rfl (hb hby d20_4) rfl ((if0 _ _).trans (feq (by decide : ¬ (1 : Int32) = (0 : Int32))).1) k) ?_
  show Go _ _ _ _ _ _ _ (T1.setTop (mkF m 7 #[.val (.ref aa), .val (.int ii)] []))
  refine Go.step (fun t k => XS.aloadN X1.here hx rfl (hb hby d20_7) rfl rfl k) ?_
  show Go _ _ _ _ _ _ _ (T1.setTop (mkF m 8 #[.val (.ref aa), .val (.int ii)] [(.ref aa)]))
  obtain ⟨T2, X2, e2, st2⟩ := getF X1 hx hZ hown (host := "") (Or.inl (hw _ (List.mem_of_getElem? (i := 29) rfl))) Via.refl K1q F_value_aa (g := (mkF m 8 #[.val (.ref aa), .val (.int ii)] [(.ref aa)])) rfl rfl (hb hby d20_8)
  refine Go.step st2 ?_
  show Go _ _ _ _ _ _ _ (T2.setTop (mkF m 11 #[.val (.ref aa), .val (.int ii)] [(.ref bv)]))
  refine Go.step (fun t k => XS.iloadN X2.here hx rfl (hb hby d20_11) rfl k) ?_
  show Go _ _ _ _ _ _ _ (T2.setTop (mkF m 12 #[.val (.ref aa), .val (.int ii)] [(.int ii), (.ref bv)]))
  obtain ⟨_, _, ⟨T3, L3, k3, n3⟩, -, X3, ⟨Lc3, hQ3, l3, y3, z3⟩, st3⟩ := Jvm.LawKit.callS X2 hx (y := (⟨"java/lang/StringLatin1", "charAt", "([BI)C"⟩ : MethodName)) hown (mvT hZ (hw _ (List.mem_of_getElem? (i := 129) rfl))) (mvT hZ (hw _ (List.mem_of_getElem? (i := 130) rfl))) (mvT hZ (hw _ (List.mem_of_getElem? (i := 36) rfl))) (mvT hZ (hw _ (List.mem_of_getElem? (i := 131) rfl))) (by decide) (backOf (W := 0) (rm22 l Z a0 hw [] bv ii fm nb zb gb ki h0 n0 Z0 old hfs hfr A_bv hzb hki hlt) hZ (hw _ (List.mem_of_getElem? (i := 131) rfl)) (hw _ (List.mem_of_getElem? (i := 36) rfl)) (by decide) (by decide)) (g := (mkF m 12 #[.val (.ref aa), .val (.int ii)] [(.int ii), (.ref bv)])) rfl (by rw [hml]; rfl) (argsL := [(.ref bv), (.int ii)]) (rest := []) (lenOf pd_20_1 rfl) rfl (by show 2 * 0 + _ ≤ _; exact Nat.le_of_eq rfl) (hb hby d20_12) (fun _ _ => ⟨rfl, e2, (by decide : 0 + 0 ≤ _), (by decide : 0 + 0 ≤ _)⟩)
  dsimp only [Pt.U, Pt.locs, Pt.cells, Pt.slots] at X3 l3 y3 z3 st3 hQ3
  subst l3 y3 z3
  obtain ⟨z_3, rfl, N3q, K3q⟩ := hQ3
  have N3 := Fr.app N1 N3q
  refine Go.step st3 ?_
  show Go _ _ _ _ _ _ _ (T3.setTop (mkF m 15 #[.val (.ref aa), .val (.int ii)] [(.int z_3)]))
  refine Go.retN X3 Bd.notSynchronized hx (t := .char) Bd.returns (by simp) (hb hby d20_15) (by decide) (by decide) (nar .char z_3) rfl ?_
  rw [K3q]
  exact ⟨_, rfl, N3, rfl⟩
theorem d19_0 : decode prog_63_method_11_code 0 = .ok (.aload_n 0, 1) := by decide +kernel
theorem d19_1 : decode prog_63_method_11_code 1 = .ok (.getfield 32, 3) := by decide +kernel
theorem d19_4 : decode prog_63_method_11_code 4 = .ok (.iload_n 1, 1) := by decide +kernel
theorem d19_5 : decode prog_63_method_11_code 5 = .ok (.iadd, 1) := by decide +kernel
theorem d19_6 : decode prog_63_method_11_code 6 = .ok (.aload_n 0, 1) := by decide +kernel
theorem d19_7 : decode prog_63_method_11_code 7 = .ok (.getfield 7, 3) := by decide +kernel
theorem d19_10 : decode prog_63_method_11_code 10 = .ok (.arraylength, 1) := by decide +kernel
theorem d19_11 : decode prog_63_method_11_code 11 = .ok (.if_icmp .le 30, 3) := by decide +kernel
theorem d19_41 : decode prog_63_method_11_code 41 = .ok (.aload_n 0, 1) := by decide +kernel
theorem d19_42 : decode prog_63_method_11_code 42 = .ok (.getfield 36, 3) := by decide +kernel
theorem d19_45 : decode prog_63_method_11_code 45 = .ok (.aload_n 0, 1) := by decide +kernel
theorem d19_46 : decode prog_63_method_11_code 46 = .ok (.getfield 13, 3) := by decide +kernel
theorem d19_49 : decode prog_63_method_11_code 49 = .ok (.arraylength, 1) := by decide +kernel
theorem d19_50 : decode prog_63_method_11_code 50 = .ok (.if_icmp .ne 37, 3) := by decide +kernel
theorem d19_87 : decode prog_63_method_11_code 87 = .ok (.aload_n 0, 1) := by decide +kernel
theorem d19_88 : decode prog_63_method_11_code 88 = .ok (.getfield 32, 3) := by decide +kernel
theorem d19_91 : decode prog_63_method_11_code 91 = .ok (.istore_n 2, 1) := by decide +kernel
theorem d19_92 : decode prog_63_method_11_code 92 = .ok (.aload_n 0, 1) := by decide +kernel
theorem d19_93 : decode prog_63_method_11_code 93 = .ok (.getfield 13, 3) := by decide +kernel
theorem d19_96 : decode prog_63_method_11_code 96 = .ok (.aload_n 0, 1) := by decide +kernel
theorem d19_97 : decode prog_63_method_11_code 97 = .ok (.getfield 36, 3) := by decide +kernel
theorem d19_100 : decode prog_63_method_11_code 100 = .ok (.iload_n 2, 1) := by decide +kernel
theorem d19_101 : decode prog_63_method_11_code 101 = .ok (.iastore, 1) := by decide +kernel
theorem d19_102 : decode prog_63_method_11_code 102 = .ok (.aload_n 0, 1) := by decide +kernel
theorem d19_103 : decode prog_63_method_11_code 103 = .ok (.getfield 17, 3) := by decide +kernel
theorem d19_106 : decode prog_63_method_11_code 106 = .ok (.aload_n 0, 1) := by decide +kernel
theorem d19_107 : decode prog_63_method_11_code 107 = .ok (.getfield 36, 3) := by decide +kernel
theorem d19_110 : decode prog_63_method_11_code 110 = .ok (.iload_n 2, 1) := by decide +kernel
theorem d19_111 : decode prog_63_method_11_code 111 = .ok (.iload_n 1, 1) := by decide +kernel
theorem d19_112 : decode prog_63_method_11_code 112 = .ok (.iadd, 1) := by decide +kernel
theorem d19_113 : decode prog_63_method_11_code 113 = .ok (.iastore, 1) := by decide +kernel
theorem d19_114 : decode prog_63_method_11_code 114 = .ok (.aload_n 0, 1) := by decide +kernel
theorem d19_115 : decode prog_63_method_11_code 115 = .ok (.dup, 1) := by decide +kernel
theorem d19_116 : decode prog_63_method_11_code 116 = .ok (.getfield 36, 3) := by decide +kernel
theorem d19_119 : decode prog_63_method_11_code 119 = .ok (.iconst 1, 1) := by decide +kernel
theorem d19_120 : decode prog_63_method_11_code 120 = .ok (.iadd, 1) := by decide +kernel
theorem d19_121 : decode prog_63_method_11_code 121 = .ok (.putfield 36, 3) := by decide +kernel
theorem d19_124 : decode prog_63_method_11_code 124 = .ok (.aload_n 0, 1) := by decide +kernel
theorem d19_125 : decode prog_63_method_11_code 125 = .ok (.dup, 1) := by decide +kernel
theorem d19_126 : decode prog_63_method_11_code 126 = .ok (.getfield 32, 3) := by decide +kernel
theorem d19_129 : decode prog_63_method_11_code 129 = .ok (.iload_n 1, 1) := by decide +kernel
theorem d19_130 : decode prog_63_method_11_code 130 = .ok (.iadd, 1) := by decide +kernel
theorem d19_131 : decode prog_63_method_11_code 131 = .ok (.putfield 32, 3) := by decide +kernel
theorem d19_134 : decode prog_63_method_11_code 134 = .ok (.iload_n 2, 1) := by decide +kernel
theorem d19_135 : decode prog_63_method_11_code 135 = .ok (.ireturn, 1) := by decide +kernel
theorem pn_19 : plainName "com/example/vestwright/vestwright/io/Records" = true := by first | (simp [plainName, overriddenIn]; done) | decide +kernel
theorem ef_19 (m : MethodId) (x0 : Addr) (x1 : Int32) : entryFrame m #[(.ref x0), (.int x1)] 3 = mkF m 0 #[.val (.ref x0), .val (.int x1), .unset] [] := by first | (simp [entryFrame, mkF, argsToLocals, Value.category]; done) | rfl
def Q19 (Z : State) (aa : Addr) (lv : Int32) (bt : Addr) (bs : Addr) (be : Addr) (bf : Addr) (bn : Addr) (bx : Addr) (tu : Int32) (fv : Int32) (rv : Int32) (ku : Nat) (kl : Nat) (kf : Nat) (gs : Nat → Int32) (ge_ : Nat → Int32) (h0 : Heap) (n0 : Nat) (v : Option Value) (h : Heap) (L : List Loc) : Prop := v = some (.int tu) ∧ Fr n0 L ∧ Keep h0 h [aa, bs, be] ∧ Fld Z h aa "com/example/vestwright/vestwright/io/Records" "text" "[C" (.ref bt) ∧ Fld Z h aa "com/example/vestwright/vestwright/io/Records" "starts" "[I" (.ref bs) ∧ Fld Z h aa "com/example/vestwright/vestwright/io/Records" "ends" "[I" (.ref be) ∧ Fld Z h aa "com/example/vestwright/vestwright/io/Records" "firstFields" "[I" (.ref bf) ∧ Fld Z h aa "com/example/vestwright/vestwright/io/Records" "lines" "[I" (.ref bn) ∧ Fld Z h aa "com/example/vestwright/vestwright/io/Records" "faults" "[Lcom/example/vestwright/vestwright/io/CsvFormatException;" (.ref bx) ∧ Fld Z h aa "com/example/vestwright/vestwright/io/Records" "textUsed" "I" (.int (tu + lv)) ∧ Fld Z h aa "com/example/vestwright/vestwright/io/Records" "fields" "I" (.int (fv + (1 : Int32))) ∧ Fld Z h aa "com/example/vestwright/vestwright/io/Records" "records" "I" (.int rv) ∧ AryI Z h bs .int 256 (up gs kf tu) ∧ AryI Z h be .int 256 (up ge_ kf (tu + lv))
set_option maxRecDepth 65536 in
set_option maxHeartbeats 40000000 in
theorem rm19 (l : Launch) (Z : State) (a0 : Array Value) (hw : ∀ d ∈ tables_1, d.before a0 Z = true) (ws : List Jvm.Cond) (aa : Addr) (lv : Int32) (bt : Addr) (bs : Addr) (be : Addr) (bf : Addr) (bn : Addr) (bx : Addr) (tu : Int32) (fv : Int32) (rv : Int32) (ku : Nat) (kl : Nat) (kf : Nat) (gs : Nat → Int32) (ge_ : Nat → Int32) (h0 : Heap) (n0 : Nat) (Z0 : n0 ≤ h0.size) (F_text_aa : Fld Z h0 aa "com/example/vestwright/vestwright/io/Records" "text" "[C" (.ref bt)) (F_starts_aa : Fld Z h0 aa "com/example/vestwright/vestwright/io/Records" "starts" "[I" (.ref bs)) (F_ends_aa : Fld Z h0 aa "com/example/vestwright/vestwright/io/Records" "ends" "[I" (.ref be)) (F_firstFields_aa : Fld Z h0 aa "com/example/vestwright/vestwright/io/Records" "firstFields" "[I" (.ref bf)) (F_lines_aa : Fld Z h0 aa "com/example/vestwright/vestwright/io/Records" "lines" "[I" (.ref bn)) (F_faults_aa : Fld Z h0 aa "com/example/vestwright/vestwright/io/Records" "faults" "[Lcom/example/vestwright/vestwright/io/CsvFormatException;" (.ref bx)) (F_textUsed_aa : Fld Z h0 aa "com/example/vestwright/vestwright/io/Records" "textUsed" "I" (.int tu)) (F_fields_aa : Fld Z h0 aa "com/example/vestwright/vestwright/io/Records" "fields" "I" (.int fv)) (F_records_aa : Fld Z h0 aa "com/example/vestwright/vestwright/io/Records" "records" "I" (.int rv)) (E_aa : Exa Z h0 aa "com/example/vestwright/vestwright/io/Records") (g_aa : n0 ≤ aa) (g_bs : n0 ≤ bs) (g_be : n0 ≤ be) (T_bt : Txt Z h0 bt 4096) (A_bs : AryI Z h0 bs .int 256 gs) (A_be : AryI Z h0 be .int 256 ge_) (ne_bt_bs : bt ≠ bs) (ne_bt_be : bt ≠ be) (ne_bs_be : bs ≠ be) (ne_aa_bt : aa ≠ bt) (ne_aa_bs : aa ≠ bs) (ne_aa_be : aa ≠ be) (hku : (tu.toInt = (ku : Int))) (hkl : (lv.toInt = (kl : Int))) (hkf : (fv.toInt = (kf : Int))) (hf256 : (kf < 256)) (hsum : (ku + kl ≤ 4096)) :
    MetFree l (⟨"com/example/vestwright/vestwright/io/Records", "reserve", "(I)I"⟩ : MethodName) (head1 (Jvm.Cond.code (⟨"com/example/vestwright/vestwright/io/Records", "reserve", "(I)I"⟩ : MethodName) prog_63_method_11_code 3 (some .int) :: ws) ({ frames := 0, cells := 0, slots := 0, locals := 0 } : Room)) (fun a U => a = #[(.ref aa), (.int lv)] ∧ Z.Warmed39 U.vm ∧ U.heap = h0) (fun _ _ _ _ _ => True) (fun _ U o U' => ∃ v L, o = .returned v ∧ Q19 Z aa lv bt bs be bf bn bx tu fv rv ku kl kf gs ge_ h0 n0 v U'.heap L ∧ FrameEnd U o U' L ({ frames := 0, cells := 0, slots := 0, locals := 0 } : Room).cells ({ frames := 0, cells := 0, slots := 0, locals := 0 } : Room).slots) := by
  refine MetFree.of_bodySF (plainFor_of_name pn_19) hisR ?_
  intro p e s m args below meth c s₁ Bd hml0 hP hK
  obtain ⟨rfl, hZ, hh⟩ := hP
  have hx := Bd.exec
  have hby := Bd.bytes
  have hml : c.maxLocals = 3 := hml0
  have hown : s.vm.findClass "com/example/vestwright/vestwright/io/Records" = some m.cls := findClass_of_methodNamed Bd.named
  have hnm := (name_of_methodNamed Bd.named Bd.method).1
  have X0 : Stand p l e ({ frames := 0, cells := 0, slots := 0, locals := 0 } : Room) s m #[(.ref aa), (.int lv)] below meth c s₁ [] 0 0 := Stand.of_body Bd
  have e0 : s₁.heap = h0 := by rw [← hh, Bd.state]; rfl
  have N0 := Fr.nil n0
  have K0 := Keep.refl h0 ([aa, bs, be] : List Addr)
  show Go p e below s (Q19 Z aa lv bt bs be bf bn bx tu fv rv ku kl kf gs ge_ h0 n0) ({ frames := 0, cells := 0, slots := 0, locals := 0 } : Room).cells ({ frames := 0, cells := 0, slots := 0, locals := 0 } : Room).slots (s₁.setTop (entryFrame m #[(.ref aa), (.int lv)] 3))
  rw [ef_19]
  show Go _ _ _ _ _ _ _ (s₁.setTop (mkF m 0 #[.val (.ref aa), .val (.int lv), .unset] []))
  refine Go.step (fun t k => XS.aloadN X0.here hx rfl (hb hby d19_0) rfl rfl k) ?_
  show Go _ _ _ _ _ _ _ (s₁.setTop (mkF m 1 #[.val (.ref aa), .val (.int lv), .unset] [(.ref aa)]))
  obtain ⟨T1, X1, e1, st1⟩ := getF X0 hx hZ hown (host := "") (Or.inl (hw _ (List.mem_of_getElem? (i := 114) rfl))) Via.refl e0 F_textUsed_aa (g := (mkF m 1 #[.val (.ref aa), .val (.int lv), .unset] [(.ref aa)])) rfl rfl (hb hby d19_1)
  refine Go.step st1 ?_
  show Go _ _ _ _ _ _ _ (T1.setTop (mkF m 4 #[.val (.ref aa), .val (.int lv), .unset] [(.int tu)]))
  refine Go.step (fun t k => XS.iloadN X1.here hx rfl (hb hby d19_4) rfl k) ?_
  show Go _ _ _ _ _ _ _ (T1.setTop (mkF m 5 #[.val (.ref aa), .val (.int lv), .unset] [(.int lv), (.int tu)]))
  refine Go.step (fun t k => XS.iadd X1.here hx rfl (hb hby d19_5) rfl k) ?_
  show Go _ _ _ _ _ _ _ (T1.setTop (mkF m 6 #[.val (.ref aa), .val (.int lv), .unset] [(.int (tu + lv))]))
  refine Go.step (fun t k => XS.aloadN X1.here hx rfl (hb hby d19_6) rfl rfl k) ?_
  show Go _ _ _ _ _ _ _ (T1.setTop (mkF m 7 #[.val (.ref aa), .val (.int lv), .unset] [(.ref aa), (.int (tu + lv))]))
  obtain ⟨T2, X2, e2, st2⟩ := getF X1 hx hZ hown (host := "") (Or.inl (hw _ (List.mem_of_getElem? (i := 52) rfl))) Via.refl e1 F_text_aa (g := (mkF m 7 #[.val (.ref aa), .val (.int lv), .unset] [(.ref aa), (.int (tu + lv))])) rfl rfl (hb hby d19_7)
  refine Go.step st2 ?_
  show Go _ _ _ _ _ _ _ (T2.setTop (mkF m 10 #[.val (.ref aa), .val (.int lv), .unset] [(.ref bt), (.int (tu + lv))]))
  refine Go.step (own_lenT X2 hx hZ e2 T_bt (z := (4096 : Int32)) rfl (f := (mkF m 10 #[.val (.ref aa), .val (.int lv), .unset] [(.ref bt), (.int (tu + lv))])) rfl rfl (hb hby d19_10)) ?_
  show Go _ _ _ _ _ _ _ (T2.setTop (mkF m 11 #[.val (.ref aa), .val (.int lv), .unset] [(.int (4096 : Int32)), (.int (tu + lv))]))
  refine Go.step (fun t k => XS.icmpYes X2.here hx rfl (pc0 := 11) (pc' := 41) rfl (hb hby d19_11) rfl (flt (own_nlt_ (k := 4096) rfl (own_add hku hkl (by omega)) (by omega) : ¬ (4096 : Int32) < (tu + lv))).2.2.2 (by decide) (by decide) k) ?_
  show Go _ _ _ _ _ _ _ (T2.setTop (mkF m 41 #[.val (.ref aa), .val (.int lv), .unset] []))
  refine Go.step (fun t k => XS.aloadN X2.here hx rfl (hb hby d19_41) rfl rfl k) ?_
  show Go _ _ _ _ _ _ _ (T2.setTop (mkF m 42 #[.val (.ref aa), .val (.int lv), .unset] [(.ref aa)]))
  obtain ⟨T4, X4, e4, st4⟩ := getF X2 hx hZ hown (host := "") (Or.inl (hw _ (List.mem_of_getElem? (i := 74) rfl))) Via.refl e2 F_fields_aa (g := (mkF m 42 #[.val (.ref aa), .val (.int lv), .unset] [(.ref aa)])) rfl rfl (hb hby d19_42)
  refine Go.step st4 ?_
  show Go _ _ _ _ _ _ _ (T4.setTop (mkF m 45 #[.val (.ref aa), .val (.int lv), .unset] [(.int fv)]))
  refine Go.step (fun t k => XS.aloadN X4.here hx rfl (hb hby d19_45) rfl rfl k) ?_
  show Go _ _ _ _ _ _ _ (T4.setTop (mkF m 46 #[.val (.ref aa), .val (.int lv), .unset] [(.ref aa), (.int fv)]))
  obtain ⟨T5, X5, e5, st5⟩ := getF X4 hx hZ hown (host := "") (Or.inl (hw _ (List.mem_of_getElem? (i := 55) rfl))) Via.refl e4 F_starts_aa (g := (mkF m 46 #[.val (.ref aa), .val (.int lv), .unset] [(.ref aa), (.int fv)])) rfl rfl (hb hby d19_46)
  refine Go.step st5 ?_
  show Go _ _ _ _ _ _ _ (T5.setTop (mkF m 49 #[.val (.ref aa), .val (.int lv), .unset] [(.ref bs), (.int fv)]))
  refine Go.step (own_len X5 hx hZ e5 A_bs (z := (256 : Int32)) rfl (f := (mkF m 49 #[.val (.ref aa), .val (.int lv), .unset] [(.ref bs), (.int fv)])) rfl rfl (hb hby d19_49)) ?_
  show Go _ _ _ _ _ _ _ (T5.setTop (mkF m 50 #[.val (.ref aa), .val (.int lv), .unset] [(.int (256 : Int32)), (.int fv)]))
  refine Go.step (fun t k => XS.icmpYes X5.here hx rfl (pc0 := 50) (pc' := 87) rfl (hb hby d19_50) rfl (feq (own_neq_ (j := 256) hkf rfl (by omega) : ¬ fv = (256 : Int32))).2 (by decide) (by decide) k) ?_
  show Go _ _ _ _ _ _ _ (T5.setTop (mkF m 87 #[.val (.ref aa), .val (.int lv), .unset] []))
  refine Go.step (fun t k => XS.aloadN X5.here hx rfl (hb hby d19_87) rfl rfl k) ?_
  show Go _ _ _ _ _ _ _ (T5.setTop (mkF m 88 #[.val (.ref aa), .val (.int lv), .unset] [(.ref aa)]))
  obtain ⟨T7, X7, e7, st7⟩ := getF X5 hx hZ hown (host := "") (Or.inl (hw _ (List.mem_of_getElem? (i := 114) rfl))) Via.refl e5 F_textUsed_aa (g := (mkF m 88 #[.val (.ref aa), .val (.int lv), .unset] [(.ref aa)])) rfl rfl (hb hby d19_88)
  refine Go.step st7 ?_
  show Go _ _ _ _ _ _ _ (T7.setTop (mkF m 91 #[.val (.ref aa), .val (.int lv), .unset] [(.int tu)]))
  refine Go.step (fun t k => XS.istoreN X7.here hx rfl (hb hby d19_91) rfl (l' := #[.val (.ref aa), .val (.int lv), .val (.int tu)]) rfl k) ?_
  show Go _ _ _ _ _ _ _ (T7.setTop (mkF m 92 #[.val (.ref aa), .val (.int lv), .val (.int tu)] []))
  refine Go.step (fun t k => XS.aloadN X7.here hx rfl (hb hby d19_92) rfl rfl k) ?_
  show Go _ _ _ _ _ _ _ (T7.setTop (mkF m 93 #[.val (.ref aa), .val (.int lv), .val (.int tu)] [(.ref aa)]))
  obtain ⟨T8, X8, e8, st8⟩ := getF X7 hx hZ hown (host := "") (Or.inl (hw _ (List.mem_of_getElem? (i := 55) rfl))) Via.refl e7 F_starts_aa (g := (mkF m 93 #[.val (.ref aa), .val (.int lv), .val (.int tu)] [(.ref aa)])) rfl rfl (hb hby d19_93)
  refine Go.step st8 ?_
  show Go _ _ _ _ _ _ _ (T8.setTop (mkF m 96 #[.val (.ref aa), .val (.int lv), .val (.int tu)] [(.ref bs)]))
  refine Go.step (fun t k => XS.aloadN X8.here hx rfl (hb hby d19_96) rfl rfl k) ?_
  show Go _ _ _ _ _ _ _ (T8.setTop (mkF m 97 #[.val (.ref aa), .val (.int lv), .val (.int tu)] [(.ref aa), (.ref bs)]))
  obtain ⟨T9, X9, e9, st9⟩ := getF X8 hx hZ hown (host := "") (Or.inl (hw _ (List.mem_of_getElem? (i := 74) rfl))) Via.refl e8 F_fields_aa (g := (mkF m 97 #[.val (.ref aa), .val (.int lv), .val (.int tu)] [(.ref aa), (.ref bs)])) rfl rfl (hb hby d19_97)
  refine Go.step st9 ?_
  show Go _ _ _ _ _ _ _ (T9.setTop (mkF m 100 #[.val (.ref aa), .val (.int lv), .val (.int tu)] [(.int fv), (.ref bs)]))
  refine Go.step (fun t k => XS.iloadN X9.here hx rfl (hb hby d19_100) rfl k) ?_
  show Go _ _ _ _ _ _ _ (T9.setTop (mkF m 101 #[.val (.ref aa), .val (.int lv), .val (.int tu)] [(.int tu), (.int fv), (.ref bs)]))
  obtain ⟨T10, h10, X10, e10, W10, st10⟩ := own_stI X9 hx hZ e9 A_bs kf hkf hf256 (f := (mkF m 101 #[.val (.ref aa), .val (.int lv), .val (.int tu)] [(.int tu), (.int fv), (.ref bs)])) rfl rfl (hb hby d19_101)
  replace F_text_aa := F_text_aa.other W10 (Or.inl ne_aa_bs)
  replace F_starts_aa := F_starts_aa.other W10 (Or.inl ne_aa_bs)
  replace F_ends_aa := F_ends_aa.other W10 (Or.inl ne_aa_bs)
  replace F_firstFields_aa := F_firstFields_aa.other W10 (Or.inl ne_aa_bs)
  replace F_lines_aa := F_lines_aa.other W10 (Or.inl ne_aa_bs)
  replace F_faults_aa := F_faults_aa.other W10 (Or.inl ne_aa_bs)
  replace F_textUsed_aa := F_textUsed_aa.other W10 (Or.inl ne_aa_bs)
  replace F_fields_aa := F_fields_aa.other W10 (Or.inl ne_aa_bs)
  replace F_records_aa := F_records_aa.other W10 (Or.inl ne_aa_bs)
  replace E_aa := E_aa.wr W10
  replace T_bt := T_bt.other W10 ne_bt_bs
  replace A_be := A_be.other W10 (Ne.symm ne_bs_be)
  have Z10 := Nat.le_trans Z0 (Keep.of_wr W10).1
  have N10 := Fr.snoc X10 N0 g_bs
  have K10 := K0.wr W10 (Or.inl (List.mem_of_getElem? (i := 1) rfl))
  replace A_bs := A_bs.setI W10
  refine Go.step st10 ?_
  show Go _ _ _ _ _ _ _ (T10.setTop (mkF m 102 #[.val (.ref aa), .val (.int lv), .val (.int tu)] []))
  refine Go.step (fun t k => XS.aloadN X10.here hx rfl (hb hby d19_102) rfl rfl k) ?_
  show Go _ _ _ _ _ _ _ (T10.setTop (mkF m 103 #[.val (.ref aa), .val (.int lv), .val (.int tu)] [(.ref aa)]))
  obtain ⟨T11, X11, e11, st11⟩ := getF X10 hx hZ hown (host := "") (Or.inl (hw _ (List.mem_of_getElem? (i := 57) rfl))) Via.refl e10 F_ends_aa (g := (mkF m 103 #[.val (.ref aa), .val (.int lv), .val (.int tu)] [(.ref aa)])) rfl rfl (hb hby d19_103)
  refine Go.step st11 ?_
  show Go _ _ _ _ _ _ _ (T11.setTop (mkF m 106 #[.val (.ref aa), .val (.int lv), .val (.int tu)] [(.ref be)]))
  refine Go.step (fun t k => XS.aloadN X11.here hx rfl (hb hby d19_106) rfl rfl k) ?_
  show Go _ _ _ _ _ _ _ (T11.setTop (mkF m 107 #[.val (.ref aa), .val (.int lv), .val (.int tu)] [(.ref aa), (.ref be)]))
  obtain ⟨T12, X12, e12, st12⟩ := getF X11 hx hZ hown (host := "") (Or.inl (hw _ (List.mem_of_getElem? (i := 74) rfl))) Via.refl e11 F_fields_aa (g := (mkF m 107 #[.val (.ref aa), .val (.int lv), .val (.int tu)] [(.ref aa), (.ref be)])) rfl rfl (hb hby d19_107)
  refine Go.step st12 ?_
  show Go _ _ _ _ _ _ _ (T12.setTop (mkF m 110 #[.val (.ref aa), .val (.int lv), .val (.int tu)] [(.int fv), (.ref be)]))
  refine Go.step (fun t k => XS.iloadN X12.here hx rfl (hb hby d19_110) rfl k) ?_
  show Go _ _ _ _ _ _ _ (T12.setTop (mkF m 111 #[.val (.ref aa), .val (.int lv), .val (.int tu)] [(.int tu), (.int fv), (.ref be)]))
  refine Go.step (fun t k => XS.iloadN X12.here hx rfl (hb hby d19_111) rfl k) ?_
  show Go _ _ _ _ _ _ _ (T12.setTop (mkF m 112 #[.val (.ref aa), .val (.int lv), .val (.int tu)] [(.int lv), (.int tu), (.int fv), (.ref be)]))
  refine Go.step (fun t k => XS.iadd X12.here hx rfl (hb hby d19_112) rfl k) ?_
  show Go _ _ _ _ _ _ _ (T12.setTop (mkF m 113 #[.val (.ref aa), .val (.int lv), .val (.int tu)] [(.int (tu + lv)), (.int fv), (.ref be)]))
  obtain ⟨T13, h13, X13, e13, W13, st13⟩ := own_stI X12 hx hZ e12 A_be kf hkf hf256 (f := (mkF m 113 #[.val (.ref aa), .val (.int lv), .val (.int tu)] [(.int (tu + lv)), (.int fv), (.ref be)])) rfl rfl (hb hby d19_113)
  replace F_text_aa := F_text_aa.other W13 (Or.inl ne_aa_be)
  replace F_starts_aa := F_starts_aa.other W13 (Or.inl ne_aa_be)
  replace F_ends_aa := F_ends_aa.other W13 (Or.inl ne_aa_be)
  replace F_firstFields_aa := F_firstFields_aa.other W13 (Or.inl ne_aa_be)
  replace F_lines_aa := F_lines_aa.other W13 (Or.inl ne_aa_be)
  replace F_faults_aa := F_faults_aa.other W13 (Or.inl ne_aa_be)
  replace F_textUsed_aa := F_textUsed_aa.other W13 (Or.inl ne_aa_be)
  replace F_fields_aa := F_fields_aa.other W13 (Or.inl ne_aa_be)
  replace F_records_aa := F_records_aa.other W13 (Or.inl ne_aa_be)
  replace E_aa := E_aa.wr W13
  replace T_bt := T_bt.other W13 ne_bt_be
  replace A_bs := A_bs.other W13 ne_bs_be
  have Z13 := Nat.le_trans Z10 (Keep.of_wr W13).1
  have N13 := Fr.snoc X13 N10 g_be
  have K13 := K10.wr W13 (Or.inl (List.mem_of_getElem? (i := 2) rfl))
  replace A_be := A_be.setI W13
  refine Go.step st13 ?_
  show Go _ _ _ _ _ _ _ (T13.setTop (mkF m 114 #[.val (.ref aa), .val (.int lv), .val (.int tu)] []))
  refine Go.step (fun t k => XS.aloadN X13.here hx rfl (hb hby d19_114) rfl rfl k) ?_
  show Go _ _ _ _ _ _ _ (T13.setTop (mkF m 115 #[.val (.ref aa), .val (.int lv), .val (.int tu)] [(.ref aa)]))
  refine Go.step (fun t k => XS.dup X13.here hx rfl (hb hby d19_115) rfl rfl k) ?_
  show Go _ _ _ _ _ _ _ (T13.setTop (mkF m 116 #[.val (.ref aa), .val (.int lv), .val (.int tu)] [(.ref aa), (.ref aa)]))
  obtain ⟨T14, X14, e14, st14⟩ := getF X13 hx hZ hown (host := "") (Or.inl (hw _ (List.mem_of_getElem? (i := 74) rfl))) Via.refl e13 F_fields_aa (g := (mkF m 116 #[.val (.ref aa), .val (.int lv), .val (.int tu)] [(.ref aa), (.ref aa)])) rfl rfl (hb hby d19_116)
  refine Go.step st14 ?_
  show Go _ _ _ _ _ _ _ (T14.setTop (mkF m 119 #[.val (.ref aa), .val (.int lv), .val (.int tu)] [(.int fv), (.ref aa)]))
  refine Go.step (fun t k => XS.iconst X14.here hx rfl (hb hby d19_119) k) ?_
  show Go _ _ _ _ _ _ _ (T14.setTop (mkF m 120 #[.val (.ref aa), .val (.int lv), .val (.int tu)] [(.int (1 : Int32)), (.int fv), (.ref aa)]))
  refine Go.step (fun t k => XS.iadd X14.here hx rfl (hb hby d19_120) rfl k) ?_
  show Go _ _ _ _ _ _ _ (T14.setTop (mkF m 121 #[.val (.ref aa), .val (.int lv), .val (.int tu)] [(.int (fv + (1 : Int32))), (.ref aa)]))
  obtain ⟨T15, h15, X15, e15, W15, st15⟩ := putF X14 hx hZ hown (host := "") (Or.inl (hw _ (List.mem_of_getElem? (i := 74) rfl))) Via.refl e14 F_fields_aa E_aa (Or.inl (hw _ (List.mem_of_getElem? (i := 75) rfl))) (hw _ (List.mem_of_getElem? (i := 46) rfl)) (ty := .int) (by decide) rfl rfl (g := (mkF m 121 #[.val (.ref aa), .val (.int lv), .val (.int tu)] [(.int (fv + (1 : Int32))), (.ref aa)])) rfl rfl (hb hby d19_121)
  replace F_text_aa := F_text_aa.other W15 (Or.inr (slot_ne (Or.inl (hw _ (List.mem_of_getElem? (i := 53) rfl))) (Or.inl (hw _ (List.mem_of_getElem? (i := 75) rfl))) (by decide) (t := (.array .char)) (t' := .int) (by decide) (by decide)))
  replace F_starts_aa := F_starts_aa.other W15 (Or.inr (slot_ne (Or.inl (hw _ (List.mem_of_getElem? (i := 56) rfl))) (Or.inl (hw _ (List.mem_of_getElem? (i := 75) rfl))) (by decide) (t := (.array .int)) (t' := .int) (by decide) (by decide)))
  replace F_ends_aa := F_ends_aa.other W15 (Or.inr (slot_ne (Or.inl (hw _ (List.mem_of_getElem? (i := 58) rfl))) (Or.inl (hw _ (List.mem_of_getElem? (i := 75) rfl))) (by decide) (t := (.array .int)) (t' := .int) (by decide) (by decide)))
  replace F_firstFields_aa := F_firstFields_aa.other W15 (Or.inr (slot_ne (Or.inl (hw _ (List.mem_of_getElem? (i := 60) rfl))) (Or.inl (hw _ (List.mem_of_getElem? (i := 75) rfl))) (by decide) (t := (.array .int)) (t' := .int) (by decide) (by decide)))
  replace F_lines_aa := F_lines_aa.other W15 (Or.inr (slot_ne (Or.inl (hw _ (List.mem_of_getElem? (i := 62) rfl))) (Or.inl (hw _ (List.mem_of_getElem? (i := 75) rfl))) (by decide) (t := (.array .int)) (t' := .int) (by decide) (by decide)))
  replace F_faults_aa := F_faults_aa.other W15 (Or.inr (slot_ne (Or.inl (hw _ (List.mem_of_getElem? (i := 66) rfl))) (Or.inl (hw _ (List.mem_of_getElem? (i := 75) rfl))) (by decide) (t := (.array (.object "com/example/vestwright/vestwright/io/CsvFormatException"))) (t' := .int) (by decide) (by decide)))
  replace F_textUsed_aa := F_textUsed_aa.other W15 (Or.inr (slot_ne (Or.inl (hw _ (List.mem_of_getElem? (i := 115) rfl))) (Or.inl (hw _ (List.mem_of_getElem? (i := 75) rfl))) (by decide) (t := .int) (t' := .int) (by decide) (by decide)))
  replace F_records_aa := F_records_aa.other W15 (Or.inr (slot_ne (Or.inl (hw _ (List.mem_of_getElem? (i := 73) rfl))) (Or.inl (hw _ (List.mem_of_getElem? (i := 75) rfl))) (by decide) (t := .int) (t' := .int) (by decide) (by decide)))
  replace E_aa := E_aa.wr W15
  replace T_bt := T_bt.other W15 (Ne.symm ne_aa_bt)
  replace A_bs := A_bs.other W15 (Ne.symm ne_aa_bs)
  replace A_be := A_be.other W15 (Ne.symm ne_aa_be)
  have Z15 := Nat.le_trans Z13 (Keep.of_wr W15).1
  have N15 := Fr.snoc X15 N13 g_aa
  have K15 := K13.wr W15 (Or.inl (List.mem_of_getElem? (i := 0) rfl))
  replace F_fields_aa := F_fields_aa.same W15
  refine Go.step st15 ?_
  show Go _ _ _ _ _ _ _ (T15.setTop (mkF m 124 #[.val (.ref aa), .val (.int lv), .val (.int tu)] []))
  refine Go.step (fun t k => XS.aloadN X15.here hx rfl (hb hby d19_124) rfl rfl k) ?_
  show Go _ _ _ _ _ _ _ (T15.setTop (mkF m 125 #[.val (.ref aa), .val (.int lv), .val (.int tu)] [(.ref aa)]))
  refine Go.step (fun t k => XS.dup X15.here hx rfl (hb hby d19_125) rfl rfl k) ?_
  show Go _ _ _ _ _ _ _ (T15.setTop (mkF m 126 #[.val (.ref aa), .val (.int lv), .val (.int tu)] [(.ref aa), (.ref aa)]))
  obtain ⟨T16, X16, e16, st16⟩ := getF X15 hx hZ hown (host := "") (Or.inl (hw _ (List.mem_of_getElem? (i := 114) rfl))) Via.refl e15 F_textUsed_aa (g := (mkF m 126 #[.val (.ref aa), .val (.int lv), .val (.int tu)] [(.ref aa), (.ref aa)])) rfl rfl (hb hby d19_126)
  refine Go.step st16 ?_
  show Go _ _ _ _ _ _ _ (T16.setTop (mkF m 129 #[.val (.ref aa), .val (.int lv), .val (.int tu)] [(.int tu), (.ref aa)]))
  refine Go.step (fun t k => XS.iloadN X16.here hx rfl (hb hby d19_129) rfl k) ?_
  show Go _ _ _ _ _ _ _ (T16.setTop (mkF m 130 #[.val (.ref aa), .val (.int lv), .val (.int tu)] [(.int lv), (.int tu), (.ref aa)]))
  refine Go.step (fun t k => XS.iadd X16.here hx rfl (hb hby d19_130) rfl k) ?_
  show Go _ _ _ _ _ _ _ (T16.setTop (mkF m 131 #[.val (.ref aa), .val (.int lv), .val (.int tu)] [(.int (tu + lv)), (.ref aa)]))
  obtain ⟨T17, h17, X17, e17, W17, st17⟩ := putF X16 hx hZ hown (host := "") (Or.inl (hw _ (List.mem_of_getElem? (i := 114) rfl))) Via.refl e16 F_textUsed_aa E_aa (Or.inl (hw _ (List.mem_of_getElem? (i := 115) rfl))) (hw _ (List.mem_of_getElem? (i := 46) rfl)) (ty := .int) (by decide) rfl rfl (g := (mkF m 131 #[.val (.ref aa), .val (.int lv), .val (.int tu)] [(.int (tu + lv)), (.ref aa)])) rfl rfl (hb hby d19_131)
  replace F_text_aa := F_text_aa.other W17 (Or.inr (slot_ne (Or.inl (hw _ (List.mem_of_getElem? (i := 53) rfl))) (Or.inl (hw _ (List.mem_of_getElem? (i := 115) rfl))) (by decide) (t := (.array .char)) (t' := .int) (by decide) (by decide)))
  replace F_starts_aa := F_starts_aa.other W17 (Or.inr (slot_ne (Or.inl (hw _ (List.mem_of_getElem? (i := 56) rfl))) (Or.inl (hw _ (List.mem_of_getElem? (i := 115) rfl))) (by decide) (t := (.array .int)) (t' := .int) (by decide) (by decide)))
  replace F_ends_aa := F_ends_aa.other W17 (Or.inr (slot_ne (Or.inl (hw _ (List.mem_of_getElem? (i := 58) rfl))) (Or.inl (hw _ (List.mem_of_getElem? (i := 115) rfl))) (by decide) (t := (.array .int)) (t' := .int) (by decide) (by decide)))
  replace F_firstFields_aa := F_firstFields_aa.other W17 (Or.inr (slot_ne (Or.inl (hw _ (List.mem_of_getElem? (i := 60) rfl))) (Or.inl (hw _ (List.mem_of_getElem? (i := 115) rfl))) (by decide) (t := (.array .int)) (t' := .int) (by decide) (by decide)))
  replace F_lines_aa := F_lines_aa.other W17 (Or.inr (slot_ne (Or.inl (hw _ (List.mem_of_getElem? (i := 62) rfl))) (Or.inl (hw _ (List.mem_of_getElem? (i := 115) rfl))) (by decide) (t := (.array .int)) (t' := .int) (by decide) (by decide)))
  replace F_faults_aa := F_faults_aa.other W17 (Or.inr (slot_ne (Or.inl (hw _ (List.mem_of_getElem? (i := 66) rfl))) (Or.inl (hw _ (List.mem_of_getElem? (i := 115) rfl))) (by decide) (t := (.array (.object "com/example/vestwright/vestwright/io/CsvFormatException"))) (t' := .int) (by decide) (by decide)))
  replace F_fields_aa := F_fields_aa.other W17 (Or.inr (slot_ne (Or.inl (hw _ (List.mem_of_getElem? (i := 75) rfl))) (Or.inl (hw _ (List.mem_of_getElem? (i := 115) rfl))) (by decide) (t := .int) (t' := .int) (by decide) (by decide)))
  replace F_records_aa := F_records_aa.other W17 (Or.inr (slot_ne (Or.inl (hw _ (List.mem_of_getElem? (i := 73) rfl))) (Or.inl (hw _ (List.mem_of_getElem? (i := 115) rfl))) (by decide) (t := .int) (t' := .int) (by decide) (by decide)))
  replace E_aa := E_aa.wr W17
  replace T_bt := T_bt.other W17 (Ne.symm ne_aa_bt)
  replace A_bs := A_bs.other W17 (Ne.symm ne_aa_bs)
  replace A_be := A_be.other W17 (Ne.symm ne_aa_be)
  have Z17 := Nat.le_trans Z15 (Keep.of_wr W17).1
  have N17 := Fr.snoc X17 N15 g_aa
  have K17 := K15.wr W17 (Or.inl (List.mem_of_getElem? (i := 0) rfl))
  replace F_textUsed_aa := F_textUsed_aa.same W17
  refine Go.step st17 ?_
  show Go _ _ _ _ _ _ _ (T17.setTop (mkF m 134 #[.val (.ref aa), .val (.int lv), .val (.int tu)] []))
  refine Go.step (fun t k => XS.iloadN X17.here hx rfl (hb hby d19_134) rfl k) ?_
  show Go _ _ _ _ _ _ _ (T17.setTop (mkF m 135 #[.val (.ref aa), .val (.int lv), .val (.int tu)] [(.int tu)]))
  refine Go.retI X17 Bd.notSynchronized hx Bd.returns (hb hby d19_135) (by decide) (by decide) ?_
  rw [e17]
  exact ⟨rfl, N17, K17, F_text_aa, F_starts_aa, F_ends_aa, F_firstFields_aa, F_lines_aa, F_faults_aa, F_textUsed_aa, F_fields_aa, F_records_aa, A_bs, A_be⟩
theorem d16_0 : decode prog_63_method_10_code 0 = .ok (.aload_n 0, 1) := by decide +kernel
theorem d16_1 : decode prog_63_method_10_code 1 = .ok (.aload_n 1, 1) := by decide +kernel
theorem d16_2 : decode prog_63_method_10_code 2 = .ok (.invokeinterface 81 1, 5) := by decide +kernel
theorem d16_7 : decode prog_63_method_10_code 7 = .ok (.invokevirtual 71, 3) := by decide +kernel
theorem d16_10 : decode prog_63_method_10_code 10 = .ok (.istore_n 2, 1) := by decide +kernel
theorem d16_11 : decode prog_63_method_10_code 11 = .ok (.iconst 0, 1) := by decide +kernel
theorem d16_12 : decode prog_63_method_10_code 12 = .ok (.istore_n 3, 1) := by decide +kernel
theorem d16_13 : decode prog_63_method_10_code 13 = .ok (.iload_n 3, 1) := by decide +kernel
theorem d16_14 : decode prog_63_method_10_code 14 = .ok (.aload_n 1, 1) := by decide +kernel
theorem d16_15 : decode prog_63_method_10_code 15 = .ok (.invokeinterface 81 1, 5) := by decide +kernel
theorem d16_20 : decode prog_63_method_10_code 20 = .ok (.if_icmp .ge 24, 3) := by decide +kernel
theorem d16_23 : decode prog_63_method_10_code 23 = .ok (.aload_n 0, 1) := by decide +kernel
theorem d16_24 : decode prog_63_method_10_code 24 = .ok (.getfield 7, 3) := by decide +kernel
theorem d16_27 : decode prog_63_method_10_code 27 = .ok (.iload_n 2, 1) := by decide +kernel
theorem d16_28 : decode prog_63_method_10_code 28 = .ok (.iload_n 3, 1) := by decide +kernel
theorem d16_29 : decode prog_63_method_10_code 29 = .ok (.iadd, 1) := by decide +kernel
theorem d16_30 : decode prog_63_method_10_code 30 = .ok (.aload_n 1, 1) := by decide +kernel
theorem d16_31 : decode prog_63_method_10_code 31 = .ok (.iload_n 3, 1) := by decide +kernel
theorem d16_32 : decode prog_63_method_10_code 32 = .ok (.invokeinterface 86 2, 5) := by decide +kernel
theorem d16_37 : decode prog_63_method_10_code 37 = .ok (.castore, 1) := by decide +kernel
theorem d16_38 : decode prog_63_method_10_code 38 = .ok (.iinc 3 1, 3) := by decide +kernel
theorem d16_41 : decode prog_63_method_10_code 41 = .ok (.goto (-28), 3) := by decide +kernel
theorem d16_44 : decode prog_63_method_10_code 44 = .ok (.return_, 1) := by decide +kernel
theorem pn_16_2 : plainName "com/example/vestwright/vestwright/io/Records" = true := by first | (simp [plainName, overriddenIn]; done) | decide +kernel
theorem pd_16_0_2 : parseMethodDescriptor "()I" = some ⟨[], some .int⟩ := by decide +kernel
theorem pd_16_1_2 : parseMethodDescriptor "(I)I" = some ⟨[.int], some .int⟩ := by decide +kernel
theorem pd_16_2_2 : parseMethodDescriptor "(I)C" = some ⟨[.int], some .char⟩ := by decide +kernel
theorem ef_16_2 (m : MethodId) (x0 : Addr) (x1 : Addr) : entryFrame m #[(.ref x0), (.ref x1)] 4 = mkF m 0 #[.val (.ref x0), .val (.ref x1), .unset, .unset] [] := by first | (simp [entryFrame, mkF, argsToLocals, Value.category]; done) | rfl
def Q16_2 (Z : State) (aa : Addr) (xs : Addr) (cs : Int32) (fm : Value) (bt : Addr) (bs : Addr) (be : Addr) (bf : Addr) (bn : Addr) (bx : Addr) (tu : Int32) (fv : Int32) (rv : Int32) (ku : Nat) (kf : Nat) (bv : Addr) (gb : Nat → Int32) (gs : Nat → Int32) (ge_ : Nat → Int32) (h0 : Heap) (n0 : Nat) (v : Option Value) (h : Heap) (L : List Loc) : Prop := v = none ∧ Fr n0 L ∧ Keep h0 h [aa, bt, bs, be] ∧ Fld Z h aa "com/example/vestwright/vestwright/io/Records" "text" "[C" (.ref bt) ∧ Fld Z h aa "com/example/vestwright/vestwright/io/Records" "starts" "[I" (.ref bs) ∧ Fld Z h aa "com/example/vestwright/vestwright/io/Records" "ends" "[I" (.ref be) ∧ Fld Z h aa "com/example/vestwright/vestwright/io/Records" "firstFields" "[I" (.ref bf) ∧ Fld Z h aa "com/example/vestwright/vestwright/io/Records" "lines" "[I" (.ref bn) ∧ Fld Z h aa "com/example/vestwright/vestwright/io/Records" "faults" "[Lcom/example/vestwright/vestwright/io/CsvFormatException;" (.ref bx) ∧ Fld Z h aa "com/example/vestwright/vestwright/io/Records" "textUsed" "I" (.int (tu + (2 : Int32))) ∧ Fld Z h aa "com/example/vestwright/vestwright/io/Records" "fields" "I" (.int (fv + (1 : Int32))) ∧ Fld Z h aa "com/example/vestwright/vestwright/io/Records" "records" "I" (.int rv) ∧ Txt Z h bt 4096 ∧ AryI Z h bs .int 256 (up gs kf tu) ∧ AryI Z h be .int 256 (up ge_ kf (tu + (2 : Int32)))
set_option maxRecDepth 65536 in
set_option maxHeartbeats 40000000 in
theorem rm16_2 (l : Launch) (Z : State) (a0 : Array Value) (hw : ∀ d ∈ tables_1, d.before a0 Z = true) (ws : List Jvm.Cond) (aa : Addr) (xs : Addr) (cs : Int32) (fm : Value) (bt : Addr) (bs : Addr) (be : Addr) (bf : Addr) (bn : Addr) (bx : Addr) (tu : Int32) (fv : Int32) (rv : Int32) (ku : Nat) (kf : Nat) (bv : Addr) (gb : Nat → Int32) (gs : Nat → Int32) (ge_ : Nat → Int32) (h0 : Heap) (n0 : Nat) (Z0 : n0 ≤ h0.size) (old : Old Z n0 h0) (hcs : (Sta Z Z.heap "java/lang/String" "COMPACT_STRINGS" "Z" (.int cs))) (hc0 : (¬ cs = (0 : Int32))) (hfs : (Sta Z Z.heap "jdk/internal/util/Preconditions" "SIOOBE_FORMATTER" "Ljava/util/function/BiFunction;" fm)) (hfr : (fm.isRef = true)) (F_text_aa : Fld Z h0 aa "com/example/vestwright/vestwright/io/Records" "text" "[C" (.ref bt)) (F_starts_aa : Fld Z h0 aa "com/example/vestwright/vestwright/io/Records" "starts" "[I" (.ref bs)) (F_ends_aa : Fld Z h0 aa "com/example/vestwright/vestwright/io/Records" "ends" "[I" (.ref be)) (F_firstFields_aa : Fld Z h0 aa "com/example/vestwright/vestwright/io/Records" "firstFields" "[I" (.ref bf)) (F_lines_aa : Fld Z h0 aa "com/example/vestwright/vestwright/io/Records" "lines" "[I" (.ref bn)) (F_faults_aa : Fld Z h0 aa "com/example/vestwright/vestwright/io/Records" "faults" "[Lcom/example/vestwright/vestwright/io/CsvFormatException;" (.ref bx)) (F_textUsed_aa : Fld Z h0 aa "com/example/vestwright/vestwright/io/Records" "textUsed" "I" (.int tu)) (F_fields_aa : Fld Z h0 aa "com/example/vestwright/vestwright/io/Records" "fields" "I" (.int fv)) (F_records_aa : Fld Z h0 aa "com/example/vestwright/vestwright/io/Records" "records" "I" (.int rv)) (E_aa : Exa Z h0 aa "com/example/vestwright/vestwright/io/Records") (E_xs : Exa Z h0 xs "java/lang/String") (F_value_xs : Fld Z h0 xs "java/lang/String" "value" "[B" (.ref bv)) (F_coder_xs : Fld Z h0 xs "java/lang/String" "coder" "B" (.int (0 : Int32))) (A_bv : AryI Z h0 bv .byte 2 gb) (g_aa : n0 ≤ aa) (g_bt : n0 ≤ bt) (g_bs : n0 ≤ bs) (g_be : n0 ≤ be) (T_bt : Txt Z h0 bt 4096) (A_bs : AryI Z h0 bs .int 256 gs) (A_be : AryI Z h0 be .int 256 ge_) (ne_bt_bs : bt ≠ bs) (ne_bt_be : bt ≠ be) (ne_bs_be : bs ≠ be) (ne_aa_bt : aa ≠ bt) (ne_aa_bs : aa ≠ bs) (ne_aa_be : aa ≠ be) (ne_bv_bt : bv ≠ bt) (ne_bv_bs : bv ≠ bs) (ne_bv_be : bv ≠ be) (ne_xs_bt : xs ≠ bt) (ne_xs_bs : xs ≠ bs) (ne_xs_be : xs ≠ be) (hku : (tu.toInt = (ku : Int))) (hkf : (fv.toInt = (kf : Int))) (hf256 : (kf < 256)) (hsum : (ku + 2 ≤ 4096)) :
    MetFree l (⟨"com/example/vestwright/vestwright/io/Records", "addField", "(Ljava/lang/CharSequence;)V"⟩ : MethodName) (head1 (Jvm.Cond.code (⟨"com/example/vestwright/vestwright/io/Records", "addField", "(Ljava/lang/CharSequence;)V"⟩ : MethodName) prog_63_method_10_code 4 none :: ws) ({ frames := 4, cells := 0, slots := 0, locals := 55 } : Room)) (fun a U => a = #[(.ref aa), (.ref xs)] ∧ Z.Warmed39 U.vm ∧ U.heap = h0) (fun _ _ _ _ _ => True) (fun _ U o U' => ∃ v L, o = .returned v ∧ Q16_2 Z aa xs cs fm bt bs be bf bn bx tu fv rv ku kf bv gb gs ge_ h0 n0 v U'.heap L ∧ FrameEnd U o U' L ({ frames := 4, cells := 0, slots := 0, locals := 55 } : Room).cells ({ frames := 4, cells := 0, slots := 0, locals := 55 } : Room).slots) := by
  refine MetFree.of_bodySF (plainFor_of_name pn_16_2) hisR ?_
  intro p e s m args below meth c s₁ Bd hml0 hP hK
  obtain ⟨rfl, hZ, hh⟩ := hP
  have hx := Bd.exec
  have hby := Bd.bytes
  have hml : c.maxLocals = 4 := hml0
  have hown : s.vm.findClass "com/example/vestwright/vestwright/io/Records" = some m.cls := findClass_of_methodNamed Bd.named
  have hnm := (name_of_methodNamed Bd.named Bd.method).1
  have X0 : Stand p l e ({ frames := 4, cells := 0, slots := 0, locals := 55 } : Room) s m #[(.ref aa), (.ref xs)] below meth c s₁ [] 0 0 := Stand.of_body Bd
  have e0 : s₁.heap = h0 := by rw [← hh, Bd.state]; rfl
  have N0 := Fr.nil n0
  have K0 := Keep.refl h0 ([aa, bt, bs, be] : List Addr)
  show Go p e below s (Q16_2 Z aa xs cs fm bt bs be bf bn bx tu fv rv ku kf bv gb gs ge_ h0 n0) ({ frames := 4, cells := 0, slots := 0, locals := 55 } : Room).cells ({ frames := 4, cells := 0, slots := 0, locals := 55 } : Room).slots (s₁.setTop (entryFrame m #[(.ref aa), (.ref xs)] 4))
  rw [ef_16_2]
  show Go _ _ _ _ _ _ _ (s₁.setTop (mkF m 0 #[.val (.ref aa), .val (.ref xs), .unset, .unset] []))
  refine Go.step (fun t k => XS.aloadN X0.here hx rfl (hb hby d16_0) rfl rfl k) ?_
  show Go _ _ _ _ _ _ _ (s₁.setTop (mkF m 1 #[.val (.ref aa), .val (.ref xs), .unset, .unset] [(.ref aa)]))
  refine Go.step (fun t k => XS.aloadN X0.here hx rfl (hb hby d16_1) rfl rfl k) ?_
  show Go _ _ _ _ _ _ _ (s₁.setTop (mkF m 2 #[.val (.ref aa), .val (.ref xs), .unset, .unset] [(.ref xs), (.ref aa)]))
  obtain ⟨cq1, kq1, q1a, q1b, q1c⟩ := isOf hZ e0 E_xs
  obtain ⟨_, _, ⟨T1, L1, k1, n1⟩, -, X1, ⟨Lc1, hQ1, l1, y1, z1⟩, st1⟩ := X0.interfaceBack hx (xi := (⟨"java/lang/CharSequence", "length", "()I"⟩ : MethodName)) (y := (⟨"java/lang/String", "length", "()I"⟩ : MethodName)) hown (mvT hZ (hw _ (List.mem_of_getElem? (i := 96) rfl))) (mvT hZ (hw _ (List.mem_of_getElem? (i := 97) rfl))) (mvT hZ (hw _ (List.mem_of_getElem? (i := 98) rfl))) (mvT hZ (hw _ (List.mem_of_getElem? (i := 99) rfl))) (mvT hZ (hw _ (List.mem_of_getElem? (i := 100) rfl))) (mvT hZ (hw _ (List.mem_of_getElem? (i := 101) rfl))) (mvT hZ (hw _ (List.mem_of_getElem? (i := 102) rfl))) (mvT hZ (hw _ (List.mem_of_getElem? (i := 103) rfl))) (by decide) (backOf (W := 1) (rm17 l Z a0 hw [] xs cs bv 2 (2 : Int32) gb h0 n0 Z0 old hcs hc0 E_xs F_value_xs F_coder_xs A_bv rfl) hZ (hw _ (List.mem_of_getElem? (i := 104) rfl)) (hw _ (List.mem_of_getElem? (i := 4) rfl)) (by decide) (by decide)) q1a q1b q1c (g := (mkF m 2 #[.val (.ref aa), .val (.ref xs), .unset, .unset] [(.ref xs), (.ref aa)])) rfl (by rw [hml]; rfl) (Steps.refl _) (argsL := []) (rest := [(.ref aa)]) (lenOf pd_16_0_2 rfl) rfl (by show 2 * 0 + _ ≤ _; exact Nat.le_of_eq rfl) (hb hby d16_2) (fun _ _ => ⟨rfl, e0, (by decide : 0 + 0 ≤ _), (by decide : 0 + 0 ≤ _)⟩)
  dsimp only [Pt.U, Pt.locs, Pt.cells, Pt.slots] at X1 l1 y1 z1 st1 hQ1
  subst l1 y1 z1
  obtain ⟨rfl, N1q, K1q⟩ := hQ1
  have N1 := Fr.app N0 N1q
  refine Go.step (fun t k => st1.trans k) ?_
  show Go _ _ _ _ _ _ _ (T1.setTop (mkF m 7 #[.val (.ref aa), .val (.ref xs), .unset, .unset] [(.int (2 : Int32)), (.ref aa)]))
  obtain ⟨cq2, q2, q2'⟩ := E_aa.cell
  obtain ⟨_, _, ⟨T2, L2, k2, n2⟩, -, X2, ⟨Lc2, hQ2, l2, y2, z2⟩, st2⟩ := X1.privateBack hx (y := (⟨"com/example/vestwright/vestwright/io/Records", "reserve", "(I)I"⟩ : MethodName)) hown (mvT hZ (hw _ (List.mem_of_getElem? (i := 110) rfl))) (mvT hZ (hw _ (List.mem_of_getElem? (i := 111) rfl))) (own_selP hZ (hw _ (List.mem_of_getElem? (i := 46) rfl)) (hw _ (List.mem_of_getElem? (i := 111) rfl)) (hw _ (List.mem_of_getElem? (i := 112) rfl)) (by decide)) (Cond.privateMethod_at (mvP hZ (hw _ (List.mem_of_getElem? (i := 112) rfl)) (args := #[]))) (mvT hZ (hw _ (List.mem_of_getElem? (i := 113) rfl))) (by decide) (backOf (W := 0) (rm19 l Z a0 hw [] aa (2 : Int32) bt bs be bf bn bx tu fv rv ku 2 kf gs ge_ h0 n0 Z0 F_text_aa F_starts_aa F_ends_aa F_firstFields_aa F_lines_aa F_faults_aa F_textUsed_aa F_fields_aa F_records_aa E_aa g_aa g_bs g_be T_bt A_bs A_be ne_bt_bs ne_bt_be ne_bs_be ne_aa_bt ne_aa_bs ne_aa_be hku rfl hkf hf256 hsum) hZ (hw _ (List.mem_of_getElem? (i := 113) rfl)) (hw _ (List.mem_of_getElem? (i := 47) rfl)) (by decide) (by decide)) (g := (mkF m 7 #[.val (.ref aa), .val (.ref xs), .unset, .unset] [(.int (2 : Int32)), (.ref aa)])) rfl (by rw [hml]; rfl) (Steps.refl _) (a := aa) (by rw [K1q]; exact q2) q2' (argsL := [(.int (2 : Int32))]) (rest := []) (lenOf pd_16_1_2 rfl) rfl (by show 2 * 0 + _ ≤ _; exact Nat.le_of_eq rfl) (hb hby d16_7) (fun _ _ => ⟨rfl, K1q, (by decide : 0 + 0 ≤ _), (by decide : 0 + 0 ≤ _)⟩)
  dsimp only [Pt.U, Pt.locs, Pt.cells, Pt.slots] at X2 l2 y2 z2 st2 hQ2
  subst l2 y2 z2
  obtain ⟨rfl, N2q, K2q, o2_F_text_aa, o2_F_starts_aa, o2_F_ends_aa, o2_F_firstFields_aa, o2_F_lines_aa, o2_F_faults_aa, o2_F_textUsed_aa, o2_F_fields_aa, o2_F_records_aa, o2_A_bs, o2_A_be⟩ := hQ2
  have N2 := Fr.app N1 N2q
  have ne_xs_aa : xs ≠ aa := (ne_exa E_xs E_aa (by decide))
  have ne_bv_aa : bv ≠ aa := (Ne.symm (own_neA E_aa (hw _ (List.mem_of_getElem? (i := 46) rfl)) A_bv))
  replace old := Old.keep old K2q (allS g_aa (allS g_bs (allS g_be all0)))
  replace E_aa := E_aa.keep K2q
  replace E_xs := E_xs.keep K2q
  replace F_value_xs := F_value_xs.keep K2q (ninS ne_xs_aa (ninS ne_xs_bs (ninS ne_xs_be nin0)))
  replace F_coder_xs := F_coder_xs.keep K2q (ninS ne_xs_aa (ninS ne_xs_bs (ninS ne_xs_be nin0)))
  replace A_bv := A_bv.keep K2q (ninS ne_bv_aa (ninS ne_bv_bs (ninS ne_bv_be nin0)))
  replace T_bt := T_bt.keep K2q (ninS (Ne.symm ne_aa_bt) (ninS ne_bt_bs (ninS ne_bt_be nin0)))
  have Z2 := Nat.le_trans Z0 K2q.1
  have K2' := K0.trans K2q (allS (Or.inl (List.mem_of_getElem? (i := 0) rfl)) (allS (Or.inl (List.mem_of_getElem? (i := 2) rfl)) (allS (Or.inl (List.mem_of_getElem? (i := 3) rfl)) all0)))
  have F_text_aa := o2_F_text_aa
  have F_starts_aa := o2_F_starts_aa
  have F_ends_aa := o2_F_ends_aa
  have F_firstFields_aa := o2_F_firstFields_aa
  have F_lines_aa := o2_F_lines_aa
  have F_faults_aa := o2_F_faults_aa
  have F_textUsed_aa := o2_F_textUsed_aa
  have F_fields_aa := o2_F_fields_aa
  have F_records_aa := o2_F_records_aa
  have A_bs := o2_A_bs
  have A_be := o2_A_be
  refine Go.step (fun t k => st2.trans k) ?_
  show Go _ _ _ _ _ _ _ (T2.setTop (mkF m 10 #[.val (.ref aa), .val (.ref xs), .unset, .unset] [(.int tu)]))
  refine Go.step (fun t k => XS.istoreN X2.here hx rfl (hb hby d16_10) rfl (l' := #[.val (.ref aa), .val (.ref xs), .val (.int tu), .unset]) rfl k) ?_
  show Go _ _ _ _ _ _ _ (T2.setTop (mkF m 11 #[.val (.ref aa), .val (.ref xs), .val (.int tu), .unset] []))
  refine Go.step (fun t k => XS.iconst X2.here hx rfl (hb hby d16_11) k) ?_
  show Go _ _ _ _ _ _ _ (T2.setTop (mkF m 12 #[.val (.ref aa), .val (.ref xs), .val (.int tu), .unset] [(.int (0 : Int32))]))
  refine Go.step (fun t k => XS.istoreN X2.here hx rfl (hb hby d16_12) rfl (l' := #[.val (.ref aa), .val (.ref xs), .val (.int tu), .val (.int (0 : Int32))]) rfl k) ?_
  show Go _ _ _ _ _ _ _ (T2.setTop (mkF m 13 #[.val (.ref aa), .val (.ref xs), .val (.int tu), .val (.int (0 : Int32))] []))
  refine Go.step (fun t k => XS.iloadN X2.here hx rfl (hb hby d16_13) rfl k) ?_
  show Go _ _ _ _ _ _ _ (T2.setTop (mkF m 14 #[.val (.ref aa), .val (.ref xs), .val (.int tu), .val (.int (0 : Int32))] [(.int (0 : Int32))]))
  refine Go.step (fun t k => XS.aloadN X2.here hx rfl (hb hby d16_14) rfl rfl k) ?_
  show Go _ _ _ _ _ _ _ (T2.setTop (mkF m 15 #[.val (.ref aa), .val (.ref xs), .val (.int tu), .val (.int (0 : Int32))] [(.ref xs), (.int (0 : Int32))]))
  obtain ⟨cq3, kq3, q3a, q3b, q3c⟩ := isOf hZ rfl E_xs
  obtain ⟨_, _, ⟨T3, L3, k3, n3⟩, -, X3, ⟨Lc3, hQ3, l3, y3, z3⟩, st3⟩ := X2.interfaceBack hx (xi := (⟨"java/lang/CharSequence", "length", "()I"⟩ : MethodName)) (y := (⟨"java/lang/String", "length", "()I"⟩ : MethodName)) hown (mvT hZ (hw _ (List.mem_of_getElem? (i := 96) rfl))) (mvT hZ (hw _ (List.mem_of_getElem? (i := 97) rfl))) (mvT hZ (hw _ (List.mem_of_getElem? (i := 98) rfl))) (mvT hZ (hw _ (List.mem_of_getElem? (i := 99) rfl))) (mvT hZ (hw _ (List.mem_of_getElem? (i := 100) rfl))) (mvT hZ (hw _ (List.mem_of_getElem? (i := 101) rfl))) (mvT hZ (hw _ (List.mem_of_getElem? (i := 102) rfl))) (mvT hZ (hw _ (List.mem_of_getElem? (i := 103) rfl))) (by decide) (backOf (W := 1) (rm17 l Z a0 hw [] xs cs bv 2 (2 : Int32) gb T2.heap n0 Z2 old hcs hc0 E_xs F_value_xs F_coder_xs A_bv rfl) hZ (hw _ (List.mem_of_getElem? (i := 104) rfl)) (hw _ (List.mem_of_getElem? (i := 4) rfl)) (by decide) (by decide)) q3a q3b q3c (g := (mkF m 15 #[.val (.ref aa), .val (.ref xs), .val (.int tu), .val (.int (0 : Int32))] [(.ref xs), (.int (0 : Int32))])) rfl (by rw [hml]; rfl) (Steps.refl _) (argsL := []) (rest := [(.int (0 : Int32))]) (lenOf pd_16_0_2 rfl) rfl (by show 2 * 0 + _ ≤ _; exact Nat.le_of_eq rfl) (hb hby d16_15) (fun _ _ => ⟨rfl, rfl, (by decide : 0 + 0 ≤ _), (by decide : 0 + 0 ≤ _)⟩)
  dsimp only [Pt.U, Pt.locs, Pt.cells, Pt.slots] at X3 l3 y3 z3 st3 hQ3
  subst l3 y3 z3
  obtain ⟨rfl, N3q, K3q⟩ := hQ3
  have N3 := Fr.app N2 N3q
  refine Go.step (fun t k => st3.trans k) ?_
  show Go _ _ _ _ _ _ _ (T3.setTop (mkF m 20 #[.val (.ref aa), .val (.ref xs), .val (.int tu), .val (.int (0 : Int32))] [(.int (2 : Int32)), (.int (0 : Int32))]))
  refine Go.step (fun t k => XS.icmpNo X3.here hx rfl (hb hby d16_20) rfl (tlt (by decide : (0 : Int32) < (2 : Int32))).2.1 k) ?_
  show Go _ _ _ _ _ _ _ (T3.setTop (mkF m 23 #[.val (.ref aa), .val (.ref xs), .val (.int tu), .val (.int (0 : Int32))] []))
  refine Go.step (fun t k => XS.aloadN X3.here hx rfl (hb hby d16_23) rfl rfl k) ?_
  show Go _ _ _ _ _ _ _ (T3.setTop (mkF m 24 #[.val (.ref aa), .val (.ref xs), .val (.int tu), .val (.int (0 : Int32))] [(.ref aa)]))
  obtain ⟨T4, X4, e4, st4⟩ := getF X3 hx hZ hown (host := "") (Or.inl (hw _ (List.mem_of_getElem? (i := 52) rfl))) Via.refl K3q F_text_aa (g := (mkF m 24 #[.val (.ref aa), .val (.ref xs), .val (.int tu), .val (.int (0 : Int32))] [(.ref aa)])) rfl rfl (hb hby d16_24)
  refine Go.step st4 ?_
  show Go _ _ _ _ _ _ _ (T4.setTop (mkF m 27 #[.val (.ref aa), .val (.ref xs), .val (.int tu), .val (.int (0 : Int32))] [(.ref bt)]))
  refine Go.step (fun t k => XS.iloadN X4.here hx rfl (hb hby d16_27) rfl k) ?_
  show Go _ _ _ _ _ _ _ (T4.setTop (mkF m 28 #[.val (.ref aa), .val (.ref xs), .val (.int tu), .val (.int (0 : Int32))] [(.int tu), (.ref bt)]))
  refine Go.step (fun t k => XS.iloadN X4.here hx rfl (hb hby d16_28) rfl k) ?_
  show Go _ _ _ _ _ _ _ (T4.setTop (mkF m 29 #[.val (.ref aa), .val (.ref xs), .val (.int tu), .val (.int (0 : Int32))] [(.int (0 : Int32)), (.int tu), (.ref bt)]))
  refine Go.step (fun t k => XS.iadd X4.here hx rfl (hb hby d16_29) rfl k) ?_
  show Go _ _ _ _ _ _ _ (T4.setTop (mkF m 30 #[.val (.ref aa), .val (.ref xs), .val (.int tu), .val (.int (0 : Int32))] [(.int (tu + (0 : Int32))), (.ref bt)]))
  refine Go.step (fun t k => XS.aloadN X4.here hx rfl (hb hby d16_30) rfl rfl k) ?_
  show Go _ _ _ _ _ _ _ (T4.setTop (mkF m 31 #[.val (.ref aa), .val (.ref xs), .val (.int tu), .val (.int (0 : Int32))] [(.ref xs), (.int (tu + (0 : Int32))), (.ref bt)]))
  refine Go.step (fun t k => XS.iloadN X4.here hx rfl (hb hby d16_31) rfl k) ?_
  show Go _ _ _ _ _ _ _ (T4.setTop (mkF m 32 #[.val (.ref aa), .val (.ref xs), .val (.int tu), .val (.int (0 : Int32))] [(.int (0 : Int32)), (.ref xs), (.int (tu + (0 : Int32))), (.ref bt)]))
  obtain ⟨cq5, kq5, q5a, q5b, q5c⟩ := isOf hZ e4 E_xs
  obtain ⟨_, _, ⟨T5, L5, k5, n5⟩, -, X5, ⟨Lc5, hQ5, l5, y5, z5⟩, st5⟩ := X4.interfaceBack hx (xi := (⟨"java/lang/CharSequence", "charAt", "(I)C"⟩ : MethodName)) (y := (⟨"java/lang/String", "charAt", "(I)C"⟩ : MethodName)) hown (mvT hZ (hw _ (List.mem_of_getElem? (i := 116) rfl))) (mvT hZ (hw _ (List.mem_of_getElem? (i := 117) rfl))) (mvT hZ (hw _ (List.mem_of_getElem? (i := 118) rfl))) (mvT hZ (hw _ (List.mem_of_getElem? (i := 119) rfl))) (mvT hZ (hw _ (List.mem_of_getElem? (i := 120) rfl))) (mvT hZ (hw _ (List.mem_of_getElem? (i := 121) rfl))) (mvT hZ (hw _ (List.mem_of_getElem? (i := 122) rfl))) (mvT hZ (hw _ (List.mem_of_getElem? (i := 103) rfl))) (by decide) (backOf (W := 2) (rm20 l Z a0 hw [] xs (0 : Int32) cs fm bv 2 (2 : Int32) gb 0 T2.heap n0 Z2 old hcs hc0 hfs hfr E_xs F_value_xs F_coder_xs A_bv rfl rfl (by decide)) hZ (hw _ (List.mem_of_getElem? (i := 123) rfl)) (hw _ (List.mem_of_getElem? (i := 4) rfl)) (by decide) (by decide)) q5a q5b q5c (g := (mkF m 32 #[.val (.ref aa), .val (.ref xs), .val (.int tu), .val (.int (0 : Int32))] [(.int (0 : Int32)), (.ref xs), (.int (tu + (0 : Int32))), (.ref bt)])) rfl (by rw [hml]; rfl) (Steps.refl _) (argsL := [(.int (0 : Int32))]) (rest := [(.int (tu + (0 : Int32))), (.ref bt)]) (lenOf pd_16_2_2 rfl) rfl (by show 2 * 0 + _ ≤ _; exact Nat.le_of_eq rfl) (hb hby d16_32) (fun _ _ => ⟨rfl, e4, (by decide : 0 + 0 ≤ _), (by decide : 0 + 0 ≤ _)⟩)
  dsimp only [Pt.U, Pt.locs, Pt.cells, Pt.slots] at X5 l5 y5 z5 st5 hQ5
  subst l5 y5 z5
  obtain ⟨z_5, rfl, N5q, K5q⟩ := hQ5
  have N5 := Fr.app N3 N5q
  refine Go.step (fun t k => st5.trans k) ?_
  show Go _ _ _ _ _ _ _ (T5.setTop (mkF m 37 #[.val (.ref aa), .val (.ref xs), .val (.int tu), .val (.int (0 : Int32))] [(.int z_5), (.int (tu + (0 : Int32))), (.ref bt)]))
  obtain ⟨T6, h6, X6, e6, W6, Tx6, st6⟩ := own_stT X5 hx hZ K5q T_bt (ku + 0) (own_add hku rfl (by omega)) (by omega) (f := (mkF m 37 #[.val (.ref aa), .val (.ref xs), .val (.int tu), .val (.int (0 : Int32))] [(.int z_5), (.int (tu + (0 : Int32))), (.ref bt)])) rfl rfl (hb hby d16_37)
  replace old := Old.wr old W6 g_bt
  replace E_aa := E_aa.wr W6
  replace E_xs := E_xs.wr W6
  replace F_value_xs := F_value_xs.other W6 (Or.inl ne_xs_bt)
  replace F_coder_xs := F_coder_xs.other W6 (Or.inl ne_xs_bt)
  replace A_bv := A_bv.other W6 ne_bv_bt
  replace F_text_aa := F_text_aa.other W6 (Or.inl ne_aa_bt)
  replace F_starts_aa := F_starts_aa.other W6 (Or.inl ne_aa_bt)
  replace F_ends_aa := F_ends_aa.other W6 (Or.inl ne_aa_bt)
  replace F_firstFields_aa := F_firstFields_aa.other W6 (Or.inl ne_aa_bt)
  replace F_lines_aa := F_lines_aa.other W6 (Or.inl ne_aa_bt)
  replace F_faults_aa := F_faults_aa.other W6 (Or.inl ne_aa_bt)
  replace F_textUsed_aa := F_textUsed_aa.other W6 (Or.inl ne_aa_bt)
  replace F_fields_aa := F_fields_aa.other W6 (Or.inl ne_aa_bt)
  replace F_records_aa := F_records_aa.other W6 (Or.inl ne_aa_bt)
  replace A_bs := A_bs.other W6 (Ne.symm ne_bt_bs)
  replace A_be := A_be.other W6 (Ne.symm ne_bt_be)
  have Z6 := Nat.le_trans Z2 (Keep.of_wr W6).1
  have N6 := Fr.snoc X6 N5 g_bt
  have K6 := K2'.wr W6 (Or.inl (List.mem_of_getElem? (i := 1) rfl))
  have T_bt := Tx6
  refine Go.step st6 ?_
  show Go _ _ _ _ _ _ _ (T6.setTop (mkF m 38 #[.val (.ref aa), .val (.ref xs), .val (.int tu), .val (.int (0 : Int32))] []))
  refine Go.step (fun t k => XS.iinc X6.here hx rfl (hb hby d16_38) rfl (l' := #[.val (.ref aa), .val (.ref xs), .val (.int tu), .val (.int (1 : Int32))]) rfl k) ?_
  show Go _ _ _ _ _ _ _ (T6.setTop (mkF m 41 #[.val (.ref aa), .val (.ref xs), .val (.int tu), .val (.int (1 : Int32))] []))
  refine Go.step (fun t k => XS.goto X6.here hx rfl (pc0 := 41) (pc' := 13) rfl (hb hby d16_41) (by decide) (by decide) k) ?_
  show Go _ _ _ _ _ _ _ (T6.setTop (mkF m 13 #[.val (.ref aa), .val (.ref xs), .val (.int tu), .val (.int (1 : Int32))] []))
  refine Go.step (fun t k => XS.iloadN X6.here hx rfl (hb hby d16_13) rfl k) ?_
  show Go _ _ _ _ _ _ _ (T6.setTop (mkF m 14 #[.val (.ref aa), .val (.ref xs), .val (.int tu), .val (.int (1 : Int32))] [(.int (1 : Int32))]))
  refine Go.step (fun t k => XS.aloadN X6.here hx rfl (hb hby d16_14) rfl rfl k) ?_
  show Go _ _ _ _ _ _ _ (T6.setTop (mkF m 15 #[.val (.ref aa), .val (.ref xs), .val (.int tu), .val (.int (1 : Int32))] [(.ref xs), (.int (1 : Int32))]))
  obtain ⟨cq7, kq7, q7a, q7b, q7c⟩ := isOf hZ e6 E_xs
  obtain ⟨_, _, ⟨T7, L7, k7, n7⟩, -, X7, ⟨Lc7, hQ7, l7, y7, z7⟩, st7⟩ := X6.interfaceBack hx (xi := (⟨"java/lang/CharSequence", "length", "()I"⟩ : MethodName)) (y := (⟨"java/lang/String", "length", "()I"⟩ : MethodName)) hown (mvT hZ (hw _ (List.mem_of_getElem? (i := 96) rfl))) (mvT hZ (hw _ (List.mem_of_getElem? (i := 97) rfl))) (mvT hZ (hw _ (List.mem_of_getElem? (i := 98) rfl))) (mvT hZ (hw _ (List.mem_of_getElem? (i := 99) rfl))) (mvT hZ (hw _ (List.mem_of_getElem? (i := 100) rfl))) (mvT hZ (hw _ (List.mem_of_getElem? (i := 101) rfl))) (mvT hZ (hw _ (List.mem_of_getElem? (i := 102) rfl))) (mvT hZ (hw _ (List.mem_of_getElem? (i := 103) rfl))) (by decide) (backOf (W := 1) (rm17 l Z a0 hw [] xs cs bv 2 (2 : Int32) gb h6 n0 Z6 old hcs hc0 E_xs F_value_xs F_coder_xs A_bv rfl) hZ (hw _ (List.mem_of_getElem? (i := 104) rfl)) (hw _ (List.mem_of_getElem? (i := 4) rfl)) (by decide) (by decide)) q7a q7b q7c (g := (mkF m 15 #[.val (.ref aa), .val (.ref xs), .val (.int tu), .val (.int (1 : Int32))] [(.ref xs), (.int (1 : Int32))])) rfl (by rw [hml]; rfl) (Steps.refl _) (argsL := []) (rest := [(.int (1 : Int32))]) (lenOf pd_16_0_2 rfl) rfl (by show 2 * 0 + _ ≤ _; exact Nat.le_of_eq rfl) (hb hby d16_15) (fun _ _ => ⟨rfl, e6, (by decide : 0 + 0 ≤ _), (by decide : 0 + 0 ≤ _)⟩)
  dsimp only [Pt.U, Pt.locs, Pt.cells, Pt.slots] at X7 l7 y7 z7 st7 hQ7
  subst l7 y7 z7
  obtain ⟨rfl, N7q, K7q⟩ := hQ7
  have N7 := Fr.app N6 N7q
  refine Go.step (fun t k => st7.trans k) ?_
  show Go _ _ _ _ _ _ _ (T7.setTop (mkF m 20 #[.val (.ref aa), .val (.ref xs), .val (.int tu), .val (.int (1 : Int32))] [(.int (2 : Int32)), (.int (1 : Int32))]))
  refine Go.step (fun t k => XS.icmpNo X7.here hx rfl (hb hby d16_20) rfl (tlt (by decide : (1 : Int32) < (2 : Int32))).2.1 k) ?_
  show Go _ _ _ _ _ _ _ (T7.setTop (mkF m 23 #[.val (.ref aa), .val (.ref xs), .val (.int tu), .val (.int (1 : Int32))] []))
  refine Go.step (fun t k => XS.aloadN X7.here hx rfl (hb hby d16_23) rfl rfl k) ?_
  show Go _ _ _ _ _ _ _ (T7.setTop (mkF m 24 #[.val (.ref aa), .val (.ref xs), .val (.int tu), .val (.int (1 : Int32))] [(.ref aa)]))
  obtain ⟨T8, X8, e8, st8⟩ := getF X7 hx hZ hown (host := "") (Or.inl (hw _ (List.mem_of_getElem? (i := 52) rfl))) Via.refl K7q F_text_aa (g := (mkF m 24 #[.val (.ref aa), .val (.ref xs), .val (.int tu), .val (.int (1 : Int32))] [(.ref aa)])) rfl rfl (hb hby d16_24)
  refine Go.step st8 ?_
  show Go _ _ _ _ _ _ _ (T8.setTop (mkF m 27 #[.val (.ref aa), .val (.ref xs), .val (.int tu), .val (.int (1 : Int32))] [(.ref bt)]))
  refine Go.step (fun t k => XS.iloadN X8.here hx rfl (hb hby d16_27) rfl k) ?_
  show Go _ _ _ _ _ _ _ (T8.setTop (mkF m 28 #[.val (.ref aa), .val (.ref xs), .val (.int tu), .val (.int (1 : Int32))] [(.int tu), (.ref bt)]))
  refine Go.step (fun t k => XS.iloadN X8.here hx rfl (hb hby d16_28) rfl k) ?_
  show Go _ _ _ _ _ _ _ (T8.setTop (mkF m 29 #[.val (.ref aa), .val (.ref xs), .val (.int tu), .val (.int (1 : Int32))] [(.int (1 : Int32)), (.int tu), (.ref bt)]))
  refine Go.step (fun t k => XS.iadd X8.here hx rfl (hb hby d16_29) rfl k) ?_
  show Go _ _ _ _ _ _ _ (T8.setTop (mkF m 30 #[.val (.ref aa), .val (.ref xs), .val (.int tu), .val (.int (1 : Int32))] [(.int (tu + (1 : Int32))), (.ref bt)]))
  refine Go.step (fun t k => XS.aloadN X8.here hx rfl (hb hby d16_30) rfl rfl k) ?_
  show Go _ _ _ _ _ _ _ (T8.setTop (mkF m 31 #[.val (.ref aa), .val (.ref xs), .val (.int tu), .val (.int (1 : Int32))] [(.ref xs), (.int (tu + (1 : Int32))), (.ref bt)]))
  refine Go.step (fun t k => XS.iloadN X8.here hx rfl (hb hby d16_31) rfl k) ?_
  show Go _ _ _ _ _ _ _ (T8.setTop (mkF m 32 #[.val (.ref aa), .val (.ref xs), .val (.int tu), .val (.int (1 : Int32))] [(.int (1 : Int32)), (.ref xs), (.int (tu + (1 : Int32))), (.ref bt)]))
  obtain ⟨cq9, kq9, q9a, q9b, q9c⟩ := isOf hZ e8 E_xs
  obtain ⟨_, _, ⟨T9, L9, k9, n9⟩, -, X9, ⟨Lc9, hQ9, l9, y9, z9⟩, st9⟩ := X8.interfaceBack hx (xi := (⟨"java/lang/CharSequence", "charAt", "(I)C"⟩ : MethodName)) (y := (⟨"java/lang/String", "charAt", "(I)C"⟩ : MethodName)) hown (mvT hZ (hw _ (List.mem_of_getElem? (i := 116) rfl))) (mvT hZ (hw _ (List.mem_of_getElem? (i := 117) rfl))) (mvT hZ (hw _ (List.mem_of_getElem? (i := 118) rfl))) (mvT hZ (hw _ (List.mem_of_getElem? (i := 119) rfl))) (mvT hZ (hw _ (List.mem_of_getElem? (i := 120) rfl))) (mvT hZ (hw _ (List.mem_of_getElem? (i := 121) rfl))) (mvT hZ (hw _ (List.mem_of_getElem? (i := 122) rfl))) (mvT hZ (hw _ (List.mem_of_getElem? (i := 103) rfl))) (by decide) (backOf (W := 2) (rm20 l Z a0 hw [] xs (1 : Int32) cs fm bv 2 (2 : Int32) gb 1 h6 n0 Z6 old hcs hc0 hfs hfr E_xs F_value_xs F_coder_xs A_bv rfl rfl (by decide)) hZ (hw _ (List.mem_of_getElem? (i := 123) rfl)) (hw _ (List.mem_of_getElem? (i := 4) rfl)) (by decide) (by decide)) q9a q9b q9c (g := (mkF m 32 #[.val (.ref aa), .val (.ref xs), .val (.int tu), .val (.int (1 : Int32))] [(.int (1 : Int32)), (.ref xs), (.int (tu + (1 : Int32))), (.ref bt)])) rfl (by rw [hml]; rfl) (Steps.refl _) (argsL := [(.int (1 : Int32))]) (rest := [(.int (tu + (1 : Int32))), (.ref bt)]) (lenOf pd_16_2_2 rfl) rfl (by show 2 * 0 + _ ≤ _; exact Nat.le_of_eq rfl) (hb hby d16_32) (fun _ _ => ⟨rfl, e8, (by decide : 0 + 0 ≤ _), (by decide : 0 + 0 ≤ _)⟩)
  dsimp only [Pt.U, Pt.locs, Pt.cells, Pt.slots] at X9 l9 y9 z9 st9 hQ9
  subst l9 y9 z9
  obtain ⟨z_9, rfl, N9q, K9q⟩ := hQ9
  have N9 := Fr.app N7 N9q
  refine Go.step (fun t k => st9.trans k) ?_
  show Go _ _ _ _ _ _ _ (T9.setTop (mkF m 37 #[.val (.ref aa), .val (.ref xs), .val (.int tu), .val (.int (1 : Int32))] [(.int z_9), (.int (tu + (1 : Int32))), (.ref bt)]))
  obtain ⟨T10, h10, X10, e10, W10, Tx10, st10⟩ := own_stT X9 hx hZ K9q T_bt (ku + 1) (own_add hku rfl (by omega)) (by omega) (f := (mkF m 37 #[.val (.ref aa), .val (.ref xs), .val (.int tu), .val (.int (1 : Int32))] [(.int z_9), (.int (tu + (1 : Int32))), (.ref bt)])) rfl rfl (hb hby d16_37)
  replace old := Old.wr old W10 g_bt
  replace E_aa := E_aa.wr W10
  replace E_xs := E_xs.wr W10
  replace F_value_xs := F_value_xs.other W10 (Or.inl ne_xs_bt)
  replace F_coder_xs := F_coder_xs.other W10 (Or.inl ne_xs_bt)
  replace A_bv := A_bv.other W10 ne_bv_bt
  replace F_text_aa := F_text_aa.other W10 (Or.inl ne_aa_bt)
  replace F_starts_aa := F_starts_aa.other W10 (Or.inl ne_aa_bt)
  replace F_ends_aa := F_ends_aa.other W10 (Or.inl ne_aa_bt)
  replace F_firstFields_aa := F_firstFields_aa.other W10 (Or.inl ne_aa_bt)
  replace F_lines_aa := F_lines_aa.other W10 (Or.inl ne_aa_bt)
  replace F_faults_aa := F_faults_aa.other W10 (Or.inl ne_aa_bt)
  replace F_textUsed_aa := F_textUsed_aa.other W10 (Or.inl ne_aa_bt)
  replace F_fields_aa := F_fields_aa.other W10 (Or.inl ne_aa_bt)
  replace F_records_aa := F_records_aa.other W10 (Or.inl ne_aa_bt)
  replace A_bs := A_bs.other W10 (Ne.symm ne_bt_bs)
  replace A_be := A_be.other W10 (Ne.symm ne_bt_be)
  have Z10 := Nat.le_trans Z6 (Keep.of_wr W10).1
  have N10 := Fr.snoc X10 N9 g_bt
  have K10 := K6.wr W10 (Or.inl (List.mem_of_getElem? (i := 1) rfl))
  have T_bt := Tx10
  refine Go.step st10 ?_
  show Go _ _ _ _ _ _ _ (T10.setTop (mkF m 38 #[.val (.ref aa), .val (.ref xs), .val (.int tu), .val (.int (1 : Int32))] []))
  refine Go.step (fun t k => XS.iinc X10.here hx rfl (hb hby d16_38) rfl (l' := #[.val (.ref aa), .val (.ref xs), .val (.int tu), .val (.int (2 : Int32))]) rfl k) ?_
  show Go _ _ _ _ _ _ _ (T10.setTop (mkF m 41 #[.val (.ref aa), .val (.ref xs), .val (.int tu), .val (.int (2 : Int32))] []))
  refine Go.step (fun t k => XS.goto X10.here hx rfl (pc0 := 41) (pc' := 13) rfl (hb hby d16_41) (by decide) (by decide) k) ?_
  show Go _ _ _ _ _ _ _ (T10.setTop (mkF m 13 #[.val (.ref aa), .val (.ref xs), .val (.int tu), .val (.int (2 : Int32))] []))
  refine Go.step (fun t k => XS.iloadN X10.here hx rfl (hb hby d16_13) rfl k) ?_
  show Go _ _ _ _ _ _ _ (T10.setTop (mkF m 14 #[.val (.ref aa), .val (.ref xs), .val (.int tu), .val (.int (2 : Int32))] [(.int (2 : Int32))]))
  refine Go.step (fun t k => XS.aloadN X10.here hx rfl (hb hby d16_14) rfl rfl k) ?_
  show Go _ _ _ _ _ _ _ (T10.setTop (mkF m 15 #[.val (.ref aa), .val (.ref xs), .val (.int tu), .val (.int (2 : Int32))] [(.ref xs), (.int (2 : Int32))]))
  obtain ⟨cq11, kq11, q11a, q11b, q11c⟩ := isOf hZ e10 E_xs
  obtain ⟨_, _, ⟨T11, L11, k11, n11⟩, -, X11, ⟨Lc11, hQ11, l11, y11, z11⟩, st11⟩ := X10.interfaceBack hx (xi := (⟨"java/lang/CharSequence", "length", "()I"⟩ : MethodName)) (y := (⟨"java/lang/String", "length", "()I"⟩ : MethodName)) hown (mvT hZ (hw _ (List.mem_of_getElem? (i := 96) rfl))) (mvT hZ (hw _ (List.mem_of_getElem? (i := 97) rfl))) (mvT hZ (hw _ (List.mem_of_getElem? (i := 98) rfl))) (mvT hZ (hw _ (List.mem_of_getElem? (i := 99) rfl))) (mvT hZ (hw _ (List.mem_of_getElem? (i := 100) rfl))) (mvT hZ (hw _ (List.mem_of_getElem? (i := 101) rfl))) (mvT hZ (hw _ (List.mem_of_getElem? (i := 102) rfl))) (mvT hZ (hw _ (List.mem_of_getElem? (i := 103) rfl))) (by decide) (backOf (W := 1) (rm17 l Z a0 hw [] xs cs bv 2 (2 : Int32) gb h10 n0 Z10 old hcs hc0 E_xs F_value_xs F_coder_xs A_bv rfl) hZ (hw _ (List.mem_of_getElem? (i := 104) rfl)) (hw _ (List.mem_of_getElem? (i := 4) rfl)) (by decide) (by decide)) q11a q11b q11c (g := (mkF m 15 #[.val (.ref aa), .val (.ref xs), .val (.int tu), .val (.int (2 : Int32))] [(.ref xs), (.int (2 : Int32))])) rfl (by rw [hml]; rfl) (Steps.refl _) (argsL := []) (rest := [(.int (2 : Int32))]) (lenOf pd_16_0_2 rfl) rfl (by show 2 * 0 + _ ≤ _; exact Nat.le_of_eq rfl) (hb hby d16_15) (fun _ _ => ⟨rfl, e10, (by decide : 0 + 0 ≤ _), (by decide : 0 + 0 ≤ _)⟩)
  dsimp only [Pt.U, Pt.locs, Pt.cells, Pt.slots] at X11 l11 y11 z11 st11 hQ11
  subst l11 y11 z11
  obtain ⟨rfl, N11q, K11q⟩ := hQ11
  have N11 := Fr.app N10 N11q
  refine Go.step (fun t k => st11.trans k) ?_
  show Go _ _ _ _ _ _ _ (T11.setTop (mkF m 20 #[.val (.ref aa), .val (.ref xs), .val (.int tu), .val (.int (2 : Int32))] [(.int (2 : Int32)), (.int (2 : Int32))]))
  refine Go.step (fun t k => XS.icmpYes X11.here hx rfl (pc0 := 20) (pc' := 44) rfl (hb hby d16_20) rfl (flt (by decide : ¬ (2 : Int32) < (2 : Int32))).2.1 (by decide) (by decide) k) ?_
  show Go _ _ _ _ _ _ _ (T11.setTop (mkF m 44 #[.val (.ref aa), .val (.ref xs), .val (.int tu), .val (.int (2 : Int32))] []))
  refine Go.retV X11 Bd.notSynchronized hx Bd.returns (hb hby d16_44) (by decide) (by decide) ?_
  rw [K11q]
  exact ⟨rfl, N11, K10, F_text_aa, F_starts_aa, F_ends_aa, F_firstFields_aa, F_lines_aa, F_faults_aa, F_textUsed_aa, F_fields_aa, F_records_aa, T_bt, A_bs, A_be⟩
theorem pn_16_1 : plainName "com/example/vestwright/vestwright/io/Records" = true := by first | (simp [plainName, overriddenIn]; done) | decide +kernel
theorem pd_16_0_1 : parseMethodDescriptor "()I" = some ⟨[], some .int⟩ := by decide +kernel
theorem pd_16_1_1 : parseMethodDescriptor "(I)I" = some ⟨[.int], some .int⟩ := by decide +kernel
theorem pd_16_2_1 : parseMethodDescriptor "(I)C" = some ⟨[.int], some .char⟩ := by decide +kernel
theorem ef_16_1 (m : MethodId) (x0 : Addr) (x1 : Addr) : entryFrame m #[(.ref x0), (.ref x1)] 4 = mkF m 0 #[.val (.ref x0), .val (.ref x1), .unset, .unset] [] := by first | (simp [entryFrame, mkF, argsToLocals, Value.category]; done) | rfl
def Q16_1 (Z : State) (aa : Addr) (xs : Addr) (cs : Int32) (fm : Value) (bt : Addr) (bs : Addr) (be : Addr) (bf : Addr) (bn : Addr) (bx : Addr) (tu : Int32) (fv : Int32) (rv : Int32) (ku : Nat) (kf : Nat) (bv : Addr) (gb : Nat → Int32) (gs : Nat → Int32) (ge_ : Nat → Int32) (h0 : Heap) (n0 : Nat) (v : Option Value) (h : Heap) (L : List Loc) : Prop := v = none ∧ Fr n0 L ∧ Keep h0 h [aa, bt, bs, be] ∧ Fld Z h aa "com/example/vestwright/vestwright/io/Records" "text" "[C" (.ref bt) ∧ Fld Z h aa "com/example/vestwright/vestwright/io/Records" "starts" "[I" (.ref bs) ∧ Fld Z h aa "com/example/vestwright/vestwright/io/Records" "ends" "[I" (.ref be) ∧ Fld Z h aa "com/example/vestwright/vestwright/io/Records" "firstFields" "[I" (.ref bf) ∧ Fld Z h aa "com/example/vestwright/vestwright/io/Records" "lines" "[I" (.ref bn) ∧ Fld Z h aa "com/example/vestwright/vestwright/io/Records" "faults" "[Lcom/example/vestwright/vestwright/io/CsvFormatException;" (.ref bx) ∧ Fld Z h aa "com/example/vestwright/vestwright/io/Records" "textUsed" "I" (.int (tu + (1 : Int32))) ∧ Fld Z h aa "com/example/vestwright/vestwright/io/Records" "fields" "I" (.int (fv + (1 : Int32))) ∧ Fld Z h aa "com/example/vestwright/vestwright/io/Records" "records" "I" (.int rv) ∧ Txt Z h bt 4096 ∧ AryI Z h bs .int 256 (up gs kf tu) ∧ AryI Z h be .int 256 (up ge_ kf (tu + (1 : Int32)))
set_option maxRecDepth 65536 in
set_option maxHeartbeats 40000000 in
theorem rm16_1 (l : Launch) (Z : State) (a0 : Array Value) (hw : ∀ d ∈ tables_1, d.before a0 Z = true) (ws : List Jvm.Cond) (aa : Addr) (xs : Addr) (cs : Int32) (fm : Value) (bt : Addr) (bs : Addr) (be : Addr) (bf : Addr) (bn : Addr) (bx : Addr) (tu : Int32) (fv : Int32) (rv : Int32) (ku : Nat) (kf : Nat) (bv : Addr) (gb : Nat → Int32) (gs : Nat → Int32) (ge_ : Nat → Int32) (h0 : Heap) (n0 : Nat) (Z0 : n0 ≤ h0.size) (old : Old Z n0 h0) (hcs : (Sta Z Z.heap "java/lang/String" "COMPACT_STRINGS" "Z" (.int cs))) (hc0 : (¬ cs = (0 : Int32))) (hfs : (Sta Z Z.heap "jdk/internal/util/Preconditions" "SIOOBE_FORMATTER" "Ljava/util/function/BiFunction;" fm)) (hfr : (fm.isRef = true)) (F_text_aa : Fld Z h0 aa "com/example/vestwright/vestwright/io/Records" "text" "[C" (.ref bt)) (F_starts_aa : Fld Z h0 aa "com/example/vestwright/vestwright/io/Records" "starts" "[I" (.ref bs)) (F_ends_aa : Fld Z h0 aa "com/example/vestwright/vestwright/io/Records" "ends" "[I" (.ref be)) (F_firstFields_aa : Fld Z h0 aa "com/example/vestwright/vestwright/io/Records" "firstFields" "[I" (.ref bf)) (F_lines_aa : Fld Z h0 aa "com/example/vestwright/vestwright/io/Records" "lines" "[I" (.ref bn)) (F_faults_aa : Fld Z h0 aa "com/example/vestwright/vestwright/io/Records" "faults" "[Lcom/example/vestwright/vestwright/io/CsvFormatException;" (.ref bx)) (F_textUsed_aa : Fld Z h0 aa "com/example/vestwright/vestwright/io/Records" "textUsed" "I" (.int tu)) (F_fields_aa : Fld Z h0 aa "com/example/vestwright/vestwright/io/Records" "fields" "I" (.int fv)) (F_records_aa : Fld Z h0 aa "com/example/vestwright/vestwright/io/Records" "records" "I" (.int rv)) (E_aa : Exa Z h0 aa "com/example/vestwright/vestwright/io/Records") (E_xs : Exa Z h0 xs "java/lang/String") (F_value_xs : Fld Z h0 xs "java/lang/String" "value" "[B" (.ref bv)) (F_coder_xs : Fld Z h0 xs "java/lang/String" "coder" "B" (.int (0 : Int32))) (A_bv : AryI Z h0 bv .byte 1 gb) (g_aa : n0 ≤ aa) (g_bt : n0 ≤ bt) (g_bs : n0 ≤ bs) (g_be : n0 ≤ be) (T_bt : Txt Z h0 bt 4096) (A_bs : AryI Z h0 bs .int 256 gs) (A_be : AryI Z h0 be .int 256 ge_) (ne_bt_bs : bt ≠ bs) (ne_bt_be : bt ≠ be) (ne_bs_be : bs ≠ be) (ne_aa_bt : aa ≠ bt) (ne_aa_bs : aa ≠ bs) (ne_aa_be : aa ≠ be) (ne_bv_bt : bv ≠ bt) (ne_bv_bs : bv ≠ bs) (ne_bv_be : bv ≠ be) (ne_xs_bt : xs ≠ bt) (ne_xs_bs : xs ≠ bs) (ne_xs_be : xs ≠ be) (hku : (tu.toInt = (ku : Int))) (hkf : (fv.toInt = (kf : Int))) (hf256 : (kf < 256)) (hsum : (ku + 1 ≤ 4096)) :
    MetFree l (⟨"com/example/vestwright/vestwright/io/Records", "addField", "(Ljava/lang/CharSequence;)V"⟩ : MethodName) (head1 (Jvm.Cond.code (⟨"com/example/vestwright/vestwright/io/Records", "addField", "(Ljava/lang/CharSequence;)V"⟩ : MethodName) prog_63_method_10_code 4 none :: ws) ({ frames := 4, cells := 0, slots := 0, locals := 55 } : Room)) (fun a U => a = #[(.ref aa), (.ref xs)] ∧ Z.Warmed39 U.vm ∧ U.heap = h0) (fun _ _ _ _ _ => True) (fun _ U o U' => ∃ v L, o = .returned v ∧ Q16_1 Z aa xs cs fm bt bs be bf bn bx tu fv rv ku kf bv gb gs ge_ h0 n0 v U'.heap L ∧ FrameEnd U o U' L ({ frames := 4, cells := 0, slots := 0, locals := 55 } : Room).cells ({ frames := 4, cells := 0, slots := 0, locals := 55 } : Room).slots) := by
  refine MetFree.of_bodySF (plainFor_of_name pn_16_1) hisR ?_
  intro p e s m args below meth c s₁ Bd hml0 hP hK
  obtain ⟨rfl, hZ, hh⟩ := hP
  have hx := Bd.exec
  have hby := Bd.bytes
  have hml : c.maxLocals = 4 := hml0
  have hown : s.vm.findClass "com/example/vestwright/vestwright/io/Records" = some m.cls := findClass_of_methodNamed Bd.named
  have hnm := (name_of_methodNamed Bd.named Bd.method).1
  have X0 : Stand p l e ({ frames := 4, cells := 0, slots := 0, locals := 55 } : Room) s m #[(.ref aa), (.ref xs)] below meth c s₁ [] 0 0 := Stand.of_body Bd
  have e0 : s₁.heap = h0 := by rw [← hh, Bd.state]; rfl
  have N0 := Fr.nil n0
  have K0 := Keep.refl h0 ([aa, bt, bs, be] : List Addr)
  show Go p e below s (Q16_1 Z aa xs cs fm bt bs be bf bn bx tu fv rv ku kf bv gb gs ge_ h0 n0) ({ frames := 4, cells := 0, slots := 0, locals := 55 } : Room).cells ({ frames := 4, cells := 0, slots := 0, locals := 55 } : Room).slots (s₁.setTop (entryFrame m #[(.ref aa), (.ref xs)] 4))
  rw [ef_16_1]
  show Go _ _ _ _ _ _ _ (s₁.setTop (mkF m 0 #[.val (.ref aa), .val (.ref xs), .unset, .unset] []))
  refine Go.step (fun t k => XS.aloadN X0.here hx rfl (hb hby d16_0) rfl rfl k) ?_
  show Go _ _ _ _ _ _ _ (s₁.setTop (mkF m 1 #[.val (.ref aa), .val (.ref xs), .unset, .unset] [(.ref aa)]))
  refine Go.step (fun t k => XS.aloadN X0.here hx rfl (hb hby d16_1) rfl rfl k) ?_
  show Go _ _ _ _ _ _ _ (s₁.setTop (mkF m 2 #[.val (.ref aa), .val (.ref xs), .unset, .unset] [(.ref xs), (.ref aa)]))
  obtain ⟨cq1, kq1, q1a, q1b, q1c⟩ := isOf hZ e0 E_xs
  obtain ⟨_, _, ⟨T1, L1, k1, n1⟩, -, X1, ⟨Lc1, hQ1, l1, y1, z1⟩, st1⟩ := X0.interfaceBack hx (xi := (⟨"java/lang/CharSequence", "length", "()I"⟩ : MethodName)) (y := (⟨"java/lang/String", "length", "()I"⟩ : MethodName)) hown (mvT hZ (hw _ (List.mem_of_getElem? (i := 96) rfl))) (mvT hZ (hw _ (List.mem_of_getElem? (i := 97) rfl))) (mvT hZ (hw _ (List.mem_of_getElem? (i := 98) rfl))) (mvT hZ (hw _ (List.mem_of_getElem? (i := 99) rfl))) (mvT hZ (hw _ (List.mem_of_getElem? (i := 100) rfl))) (mvT hZ (hw _ (List.mem_of_getElem? (i := 101) rfl))) (mvT hZ (hw _ (List.mem_of_getElem? (i := 102) rfl))) (mvT hZ (hw _ (List.mem_of_getElem? (i := 103) rfl))) (by decide) (backOf (W := 1) (rm17 l Z a0 hw [] xs cs bv 1 (1 : Int32) gb h0 n0 Z0 old hcs hc0 E_xs F_value_xs F_coder_xs A_bv rfl) hZ (hw _ (List.mem_of_getElem? (i := 104) rfl)) (hw _ (List.mem_of_getElem? (i := 4) rfl)) (by decide) (by decide)) q1a q1b q1c (g := (mkF m 2 #[.val (.ref aa), .val (.ref xs), .unset, .unset] [(.ref xs), (.ref aa)])) rfl (by rw [hml]; rfl) (Steps.refl _) (argsL := []) (rest := [(.ref aa)]) (lenOf pd_16_0_1 rfl) rfl (by show 2 * 0 + _ ≤ _; exact Nat.le_of_eq rfl) (hb hby d16_2) (fun _ _ => ⟨rfl, e0, (by decide : 0 + 0 ≤ _), (by decide : 0 + 0 ≤ _)⟩)
  dsimp only [Pt.U, Pt.locs, Pt.cells, Pt.slots] at X1 l1 y1 z1 st1 hQ1
  subst l1 y1 z1
  obtain ⟨rfl, N1q, K1q⟩ := hQ1
  have N1 := Fr.app N0 N1q
  refine Go.step (fun t k => st1.trans k) ?_
  show Go _ _ _ _ _ _ _ (T1.setTop (mkF m 7 #[.val (.ref aa), .val (.ref xs), .unset, .unset] [(.int (1 : Int32)), (.ref aa)]))
  obtain ⟨cq2, q2, q2'⟩ := E_aa.cell
  obtain ⟨_, _, ⟨T2, L2, k2, n2⟩, -, X2, ⟨Lc2, hQ2, l2, y2, z2⟩, st2⟩ := X1.privateBack hx (y := (⟨"com/example/vestwright/vestwright/io/Records", "reserve", "(I)I"⟩ : MethodName)) hown (mvT hZ (hw _ (List.mem_of_getElem? (i := 110) rfl))) (mvT hZ (hw _ (List.mem_of_getElem? (i := 111) rfl))) (own_selP hZ (hw _ (List.mem_of_getElem? (i := 46) rfl)) (hw _ (List.mem_of_getElem? (i := 111) rfl)) (hw _ (List.mem_of_getElem? (i := 112) rfl)) (by decide)) (Cond.privateMethod_at (mvP hZ (hw _ (List.mem_of_getElem? (i := 112) rfl)) (args := #[]))) (mvT hZ (hw _ (List.mem_of_getElem? (i := 113) rfl))) (by decide) (backOf (W := 0) (rm19 l Z a0 hw [] aa (1 : Int32) bt bs be bf bn bx tu fv rv ku 1 kf gs ge_ h0 n0 Z0 F_text_aa F_starts_aa F_ends_aa F_firstFields_aa F_lines_aa F_faults_aa F_textUsed_aa F_fields_aa F_records_aa E_aa g_aa g_bs g_be T_bt A_bs A_be ne_bt_bs ne_bt_be ne_bs_be ne_aa_bt ne_aa_bs ne_aa_be hku rfl hkf hf256 hsum) hZ (hw _ (List.mem_of_getElem? (i := 113) rfl)) (hw _ (List.mem_of_getElem? (i := 47) rfl)) (by decide) (by decide)) (g := (mkF m 7 #[.val (.ref aa), .val (.ref xs), .unset, .unset] [(.int (1 : Int32)), (.ref aa)])) rfl (by rw [hml]; rfl) (Steps.refl _) (a := aa) (by rw [K1q]; exact q2) q2' (argsL := [(.int (1 : Int32))]) (rest := []) (lenOf pd_16_1_1 rfl) rfl (by show 2 * 0 + _ ≤ _; exact Nat.le_of_eq rfl) (hb hby d16_7) (fun _ _ => ⟨rfl, K1q, (by decide : 0 + 0 ≤ _), (by decide : 0 + 0 ≤ _)⟩)
  dsimp only [Pt.U, Pt.locs, Pt.cells, Pt.slots] at X2 l2 y2 z2 st2 hQ2
  subst l2 y2 z2
  obtain ⟨rfl, N2q, K2q, o2_F_text_aa, o2_F_starts_aa, o2_F_ends_aa, o2_F_firstFields_aa, o2_F_lines_aa, o2_F_faults_aa, o2_F_textUsed_aa, o2_F_fields_aa, o2_F_records_aa, o2_A_bs, o2_A_be⟩ := hQ2
  have N2 := Fr.app N1 N2q
  have ne_xs_aa : xs ≠ aa := (ne_exa E_xs E_aa (by decide))
  have ne_bv_aa : bv ≠ aa := (Ne.symm (own_neA E_aa (hw _ (List.mem_of_getElem? (i := 46) rfl)) A_bv))
  replace old := Old.keep old K2q (allS g_aa (allS g_bs (allS g_be all0)))
  replace E_aa := E_aa.keep K2q
  replace E_xs := E_xs.keep K2q
  replace F_value_xs := F_value_xs.keep K2q (ninS ne_xs_aa (ninS ne_xs_bs (ninS ne_xs_be nin0)))
  replace F_coder_xs := F_coder_xs.keep K2q (ninS ne_xs_aa (ninS ne_xs_bs (ninS ne_xs_be nin0)))
  replace A_bv := A_bv.keep K2q (ninS ne_bv_aa (ninS ne_bv_bs (ninS ne_bv_be nin0)))
  replace T_bt := T_bt.keep K2q (ninS (Ne.symm ne_aa_bt) (ninS ne_bt_bs (ninS ne_bt_be nin0)))
  have Z2 := Nat.le_trans Z0 K2q.1
  have K2' := K0.trans K2q (allS (Or.inl (List.mem_of_getElem? (i := 0) rfl)) (allS (Or.inl (List.mem_of_getElem? (i := 2) rfl)) (allS (Or.inl (List.mem_of_getElem? (i := 3) rfl)) all0)))
  have F_text_aa := o2_F_text_aa
  have F_starts_aa := o2_F_starts_aa
  have F_ends_aa := o2_F_ends_aa
  have F_firstFields_aa := o2_F_firstFields_aa
  have F_lines_aa := o2_F_lines_aa
  have F_faults_aa := o2_F_faults_aa
  have F_textUsed_aa := o2_F_textUsed_aa
  have F_fields_aa := o2_F_fields_aa
  have F_records_aa := o2_F_records_aa
  have A_bs := o2_A_bs
  have A_be := o2_A_be
  refine Go.step (fun t k => st2.trans k) ?_
  show Go _ _ _ _ _ _ _ (T2.setTop (mkF m 10 #[.val (.ref aa), .val (.ref xs), .unset, .unset] [(.int tu)]))
  refine Go.step (fun t k => XS.istoreN X2.here hx rfl (hb hby d16_10) rfl (l' := #[.val (.ref aa), .val (.ref xs), .val (.int tu), .unset]) rfl k) ?_
  show Go _ _ _ _ _ _ _ (T2.setTop (mkF m 11 #[.val (.ref aa), .val (.ref xs), .val (.int tu), .unset] []))
  refine Go.step (fun t k => XS.iconst X2.here hx rfl (hb hby d16_11) k) ?_
  show Go _ _ _ _ _ _ _ (T2.setTop (mkF m 12 #[.val (.ref aa), .val (.ref xs), .val (.int tu), .unset] [(.int (0 : Int32))]))
  refine Go.step (fun t k => XS.istoreN X2.here hx rfl (hb hby d16_12) rfl (l' := #[.val (.ref aa), .val (.ref xs), .val (.int tu), .val (.int (0 : Int32))]) rfl k) ?_
  show Go _ _ _ _ _ _ _ (T2.setTop (mkF m 13 #[.val (.ref aa), .val (.ref xs), .val (.int tu), .val (.int (0 : Int32))] []))
  refine Go.step (fun t k => XS.iloadN X2.here hx rfl (hb hby d16_13) rfl k) ?_
  show Go _ _ _ _ _ _ _ (T2.setTop (mkF m 14 #[.val (.ref aa), .val (.ref xs), .val (.int tu), .val (.int (0 : Int32))] [(.int (0 : Int32))]))
  refine Go.step (fun t k => XS.aloadN X2.here hx rfl (hb hby d16_14) rfl rfl k) ?_
  show Go _ _ _ _ _ _ _ (T2.setTop (mkF m 15 #[.val (.ref aa), .val (.ref xs), .val (.int tu), .val (.int (0 : Int32))] [(.ref xs), (.int (0 : Int32))]))
  obtain ⟨cq3, kq3, q3a, q3b, q3c⟩ := isOf hZ rfl E_xs
  obtain ⟨_, _, ⟨T3, L3, k3, n3⟩, -, X3, ⟨Lc3, hQ3, l3, y3, z3⟩, st3⟩ := X2.interfaceBack hx (xi := (⟨"java/lang/CharSequence", "length", "()I"⟩ : MethodName)) (y := (⟨"java/lang/String", "length", "()I"⟩ : MethodName)) hown (mvT hZ (hw _ (List.mem_of_getElem? (i := 96) rfl))) (mvT hZ (hw _ (List.mem_of_getElem? (i := 97) rfl))) (mvT hZ (hw _ (List.mem_of_getElem? (i := 98) rfl))) (mvT hZ (hw _ (List.mem_of_getElem? (i := 99) rfl))) (mvT hZ (hw _ (List.mem_of_getElem? (i := 100) rfl))) (mvT hZ (hw _ (List.mem_of_getElem? (i := 101) rfl))) (mvT hZ (hw _ (List.mem_of_getElem? (i := 102) rfl))) (mvT hZ (hw _ (List.mem_of_getElem? (i := 103) rfl))) (by decide) (backOf (W := 1) (rm17 l Z a0 hw [] xs cs bv 1 (1 : Int32) gb T2.heap n0 Z2 old hcs hc0 E_xs F_value_xs F_coder_xs A_bv rfl) hZ (hw _ (List.mem_of_getElem? (i := 104) rfl)) (hw _ (List.mem_of_getElem? (i := 4) rfl)) (by decide) (by decide)) q3a q3b q3c (g := (mkF m 15 #[.val (.ref aa), .val (.ref xs), .val (.int tu), .val (.int (0 : Int32))] [(.ref xs), (.int (0 : Int32))])) rfl (by rw [hml]; rfl) (Steps.refl _) (argsL := []) (rest := [(.int (0 : Int32))]) (lenOf pd_16_0_1 rfl) rfl (by show 2 * 0 + _ ≤ _; exact Nat.le_of_eq rfl) (hb hby d16_15) (fun _ _ => ⟨rfl, rfl, (by decide : 0 + 0 ≤ _), (by decide : 0 + 0 ≤ _)⟩)
  dsimp only [Pt.U, Pt.locs, Pt.cells, Pt.slots] at X3 l3 y3 z3 st3 hQ3
  subst l3 y3 z3
  obtain ⟨rfl, N3q, K3q⟩ := hQ3
  have N3 := Fr.app N2 N3q
  refine Go.step (fun t k => st3.trans k) ?_
  show Go _ _ _ _ _ _ _ (T3.setTop (mkF m 20 #[.val (.ref aa), .val (.ref xs), .val (.int tu), .val (.int (0 : Int32))] [(.int (1 : Int32)), (.int (0 : Int32))]))
  refine Go.step (fun t k => XS.icmpNo X3.here hx rfl (hb hby d16_20) rfl (tlt (by decide : (0 : Int32) < (1 : Int32))).2.1 k) ?_
  show Go _ _ _ _ _ _ _ (T3.setTop (mkF m 23 #[.val (.ref aa), .val (.ref xs), .val (.int tu), .val (.int (0 : Int32))] []))
  refine Go.step (fun t k => XS.aloadN X3.here hx rfl (hb hby d16_23) rfl rfl k) ?_
  show Go _ _ _ _ _ _ _ (T3.setTop (mkF m 24 #[.val (.ref aa), .val (.ref xs), .val (.int tu), .val (.int (0 : Int32))] [(.ref aa)]))
  obtain ⟨T4, X4, e4, st4⟩ := getF X3 hx hZ hown (host := "") (Or.inl (hw _ (List.mem_of_getElem? (i := 52) rfl))) Via.refl K3q F_text_aa (g := (mkF m 24 #[.val (.ref aa), .val (.ref xs), .val (.int tu), .val (.int (0 : Int32))] [(.ref aa)])) rfl rfl (hb hby d16_24)
  refine Go.step st4 ?_
  show Go _ _ _ _ _ _ _ (T4.setTop (mkF m 27 #[.val (.ref aa), .val (.ref xs), .val (.int tu), .val (.int (0 : Int32))] [(.ref bt)]))
  refine Go.step (fun t k => XS.iloadN X4.here hx rfl (hb hby d16_27) rfl k) ?_
  show Go _ _ _ _ _ _ _ (T4.setTop (mkF m 28 #[.val (.ref aa), .val (.ref xs), .val (.int tu), .val (.int (0 : Int32))] [(.int tu), (.ref bt)]))
  refine Go.step (fun t k => XS.iloadN X4.here hx rfl (hb hby d16_28) rfl k) ?_
  show Go _ _ _ _ _ _ _ (T4.setTop (mkF m 29 #[.val (.ref aa), .val (.ref xs), .val (.int tu), .val (.int (0 : Int32))] [(.int (0 : Int32)), (.int tu), (.ref bt)]))
  refine Go.step (fun t k => XS.iadd X4.here hx rfl (hb hby d16_29) rfl k) ?_
  show Go _ _ _ _ _ _ _ (T4.setTop (mkF m 30 #[.val (.ref aa), .val (.ref xs), .val (.int tu), .val (.int (0 : Int32))] [(.int (tu + (0 : Int32))), (.ref bt)]))
  refine Go.step (fun t k => XS.aloadN X4.here hx rfl (hb hby d16_30) rfl rfl k) ?_
  show Go _ _ _ _ _ _ _ (T4.setTop (mkF m 31 #[.val (.ref aa), .val (.ref xs), .val (.int tu), .val (.int (0 : Int32))] [(.ref xs), (.int (tu + (0 : Int32))), (.ref bt)]))
  refine Go.step (fun t k => XS.iloadN X4.here hx rfl (hb hby d16_31) rfl k) ?_
  show Go _ _ _ _ _ _ _ (T4.setTop (mkF m 32 #[.val (.ref aa), .val (.ref xs), .val (.int tu), .val (.int (0 : Int32))] [(.int (0 : Int32)), (.ref xs), (.int (tu + (0 : Int32))), (.ref bt)]))
  obtain ⟨cq5, kq5, q5a, q5b, q5c⟩ := isOf hZ e4 E_xs
  obtain ⟨_, _, ⟨T5, L5, k5, n5⟩, -, X5, ⟨Lc5, hQ5, l5, y5, z5⟩, st5⟩ := X4.interfaceBack hx (xi := (⟨"java/lang/CharSequence", "charAt", "(I)C"⟩ : MethodName)) (y := (⟨"java/lang/String", "charAt", "(I)C"⟩ : MethodName)) hown (mvT hZ (hw _ (List.mem_of_getElem? (i := 116) rfl))) (mvT hZ (hw _ (List.mem_of_getElem? (i := 117) rfl))) (mvT hZ (hw _ (List.mem_of_getElem? (i := 118) rfl))) (mvT hZ (hw _ (List.mem_of_getElem? (i := 119) rfl))) (mvT hZ (hw _ (List.mem_of_getElem? (i := 120) rfl))) (mvT hZ (hw _ (List.mem_of_getElem? (i := 121) rfl))) (mvT hZ (hw _ (List.mem_of_getElem? (i := 122) rfl))) (mvT hZ (hw _ (List.mem_of_getElem? (i := 103) rfl))) (by decide) (backOf (W := 2) (rm20 l Z a0 hw [] xs (0 : Int32) cs fm bv 1 (1 : Int32) gb 0 T2.heap n0 Z2 old hcs hc0 hfs hfr E_xs F_value_xs F_coder_xs A_bv rfl rfl (by decide)) hZ (hw _ (List.mem_of_getElem? (i := 123) rfl)) (hw _ (List.mem_of_getElem? (i := 4) rfl)) (by decide) (by decide)) q5a q5b q5c (g := (mkF m 32 #[.val (.ref aa), .val (.ref xs), .val (.int tu), .val (.int (0 : Int32))] [(.int (0 : Int32)), (.ref xs), (.int (tu + (0 : Int32))), (.ref bt)])) rfl (by rw [hml]; rfl) (Steps.refl _) (argsL := [(.int (0 : Int32))]) (rest := [(.int (tu + (0 : Int32))), (.ref bt)]) (lenOf pd_16_2_1 rfl) rfl (by show 2 * 0 + _ ≤ _; exact Nat.le_of_eq rfl) (hb hby d16_32) (fun _ _ => ⟨rfl, e4, (by decide : 0 + 0 ≤ _), (by decide : 0 + 0 ≤ _)⟩)
  dsimp only [Pt.U, Pt.locs, Pt.cells, Pt.slots] at X5 l5 y5 z5 st5 hQ5
  subst l5 y5 z5
  obtain ⟨z_5, rfl, N5q, K5q⟩ := hQ5
  have N5 := Fr.app N3 N5q
  refine Go.step (fun t k => st5.trans k) ?_
  show Go _ _ _ _ _ _ _ (T5.setTop (mkF m 37 #[.val (.ref aa), .val (.ref xs), .val (.int tu), .val (.int (0 : Int32))] [(.int z_5), (.int (tu + (0 : Int32))), (.ref bt)]))
  obtain ⟨T6, h6, X6, e6, W6, Tx6, st6⟩ := own_stT X5 hx hZ K5q T_bt (ku + 0) (own_add hku rfl (by omega)) (by omega) (f := (mkF m 37 #[.val (.ref aa), .val (.ref xs), .val (.int tu), .val (.int (0 : Int32))] [(.int z_5), (.int (tu + (0 : Int32))), (.ref bt)])) rfl rfl (hb hby d16_37)
  replace old := Old.wr old W6 g_bt
  replace E_aa := E_aa.wr W6
  replace E_xs := E_xs.wr W6
  replace F_value_xs := F_value_xs.other W6 (Or.inl ne_xs_bt)
  replace F_coder_xs := F_coder_xs.other W6 (Or.inl ne_xs_bt)
  replace A_bv := A_bv.other W6 ne_bv_bt
  replace F_text_aa := F_text_aa.other W6 (Or.inl ne_aa_bt)
  replace F_starts_aa := F_starts_aa.other W6 (Or.inl ne_aa_bt)
  replace F_ends_aa := F_ends_aa.other W6 (Or.inl ne_aa_bt)
  replace F_firstFields_aa := F_firstFields_aa.other W6 (Or.inl ne_aa_bt)
  replace F_lines_aa := F_lines_aa.other W6 (Or.inl ne_aa_bt)
  replace F_faults_aa := F_faults_aa.other W6 (Or.inl ne_aa_bt)
  replace F_textUsed_aa := F_textUsed_aa.other W6 (Or.inl ne_aa_bt)
  replace F_fields_aa := F_fields_aa.other W6 (Or.inl ne_aa_bt)
  replace F_records_aa := F_records_aa.other W6 (Or.inl ne_aa_bt)
  replace A_bs := A_bs.other W6 (Ne.symm ne_bt_bs)
  replace A_be := A_be.other W6 (Ne.symm ne_bt_be)
  have Z6 := Nat.le_trans Z2 (Keep.of_wr W6).1
  have N6 := Fr.snoc X6 N5 g_bt
  have K6 := K2'.wr W6 (Or.inl (List.mem_of_getElem? (i := 1) rfl))
  have T_bt := Tx6
  refine Go.step st6 ?_
  show Go _ _ _ _ _ _ _ (T6.setTop (mkF m 38 #[.val (.ref aa), .val (.ref xs), .val (.int tu), .val (.int (0 : Int32))] []))
  refine Go.step (fun t k => XS.iinc X6.here hx rfl (hb hby d16_38) rfl (l' := #[.val (.ref aa), .val (.ref xs), .val (.int tu), .val (.int (1 : Int32))]) rfl k) ?_
  show Go _ _ _ _ _ _ _ (T6.setTop (mkF m 41 #[.val (.ref aa), .val (.ref xs), .val (.int tu), .val (.int (1 : Int32))] []))
  refine Go.step (fun t k => XS.goto X6.here hx rfl (pc0 := 41) (pc' := 13) rfl (hb hby d16_41) (by decide) (by decide) k) ?_
  show Go _ _ _ _ _ _ _ (T6.setTop (mkF m 13 #[.val (.ref aa), .val (.ref xs), .val (.int tu), .val (.int (1 : Int32))] []))
  refine Go.step (fun t k => XS.iloadN X6.here hx rfl (hb hby d16_13) rfl k) ?_
  show Go _ _ _ _ _ _ _ (T6.setTop (mkF m 14 #[.val (.ref aa), .val (.ref xs), .val (.int tu), .val (.int (1 : Int32))] [(.int (1 : Int32))]))
  refine Go.step (fun t k => XS.aloadN X6.here hx rfl (hb hby d16_14) rfl rfl k) ?_
  show Go _ _ _ _ _ _ _ (T6.setTop (mkF m 15 #[.val (.ref aa), .val (.ref xs), .val (.int tu), .val (.int (1 : Int32))] [(.ref xs), (.int (1 : Int32))]))
  obtain ⟨cq7, kq7, q7a, q7b, q7c⟩ := isOf hZ e6 E_xs
  obtain ⟨_, _, ⟨T7, L7, k7, n7⟩, -, X7, ⟨Lc7, hQ7, l7, y7, z7⟩, st7⟩ := X6.interfaceBack hx (xi := (⟨"java/lang/CharSequence", "length", "()I"⟩ : MethodName)) (y := (⟨"java/lang/String", "length", "()I"⟩ : MethodName)) hown (mvT hZ (hw _ (List.mem_of_getElem? (i := 96) rfl))) (mvT hZ (hw _ (List.mem_of_getElem? (i := 97) rfl))) (mvT hZ (hw _ (List.mem_of_getElem? (i := 98) rfl))) (mvT hZ (hw _ (List.mem_of_getElem? (i := 99) rfl))) (mvT hZ (hw _ (List.mem_of_getElem? (i := 100) rfl))) (mvT hZ (hw _ (List.mem_of_getElem? (i := 101) rfl))) (mvT hZ (hw _ (List.mem_of_getElem? (i := 102) rfl))) (mvT hZ (hw _ (List.mem_of_getElem? (i := 103) rfl))) (by decide) (backOf (W := 1) (rm17 l Z a0 hw [] xs cs bv 1 (1 : Int32) gb h6 n0 Z6 old hcs hc0 E_xs F_value_xs F_coder_xs A_bv rfl) hZ (hw _ (List.mem_of_getElem? (i := 104) rfl)) (hw _ (List.mem_of_getElem? (i := 4) rfl)) (by decide) (by decide)) q7a q7b q7c (g := (mkF m 15 #[.val (.ref aa), .val (.ref xs), .val (.int tu), .val (.int (1 : Int32))] [(.ref xs), (.int (1 : Int32))])) rfl (by rw [hml]; rfl) (Steps.refl _) (argsL := []) (rest := [(.int (1 : Int32))]) (lenOf pd_16_0_1 rfl) rfl (by show 2 * 0 + _ ≤ _; exact Nat.le_of_eq rfl) (hb hby d16_15) (fun _ _ => ⟨rfl, e6, (by decide : 0 + 0 ≤ _), (by decide : 0 + 0 ≤ _)⟩)
  dsimp only [Pt.U, Pt.locs, Pt.cells, Pt.slots] at X7 l7 y7 z7 st7 hQ7
  subst l7 y7 z7
  obtain ⟨rfl, N7q, K7q⟩ := hQ7
  have N7 := Fr.app N6 N7q
  refine Go.step (fun t k => st7.trans k) ?_
  show Go _ _ _ _ _ _ _ (T7.setTop (mkF m 20 #[.val (.ref aa), .val (.ref xs), .val (.int tu), .val (.int (1 : Int32))] [(.int (1 : Int32)), (.int (1 : Int32))]))
  refine Go.step (fun t k => XS.icmpYes X7.here hx rfl (pc0 := 20) (pc' := 44) rfl (hb hby d16_20) rfl (flt (by decide : ¬ (1 : Int32) < (1 : Int32))).2.1 (by decide) (by decide) k) ?_
  show Go _ _ _ _ _ _ _ (T7.setTop (mkF m 44 #[.val (.ref aa), .val (.ref xs), .val (.int tu), .val (.int (1 : Int32))] []))
  refine Go.retV X7 Bd.notSynchronized hx Bd.returns (hb hby d16_44) (by decide) (by decide) ?_
  rw [K7q]
  exact ⟨rfl, N7, K6, F_text_aa, F_starts_aa, F_ends_aa, F_firstFields_aa, F_lines_aa, F_faults_aa, F_textUsed_aa, F_fields_aa, F_records_aa, T_bt, A_bs, A_be⟩
theorem d5_0 : decode jdk_52_method_21_code 0 = .ok (.iconst 0, 1) := by decide +kernel
theorem d5_1 : decode jdk_52_method_21_code 1 = .ok (.istore 5, 2) := by decide +kernel
theorem d5_3 : decode jdk_52_method_21_code 3 = .ok (.iload 5, 2) := by decide +kernel
theorem d5_5 : decode jdk_52_method_21_code 5 = .ok (.iload 4, 2) := by decide +kernel
theorem d5_7 : decode jdk_52_method_21_code 7 = .ok (.if_icmp .ge 37, 3) := by decide +kernel
theorem d5_10 : decode jdk_52_method_21_code 10 = .ok (.aload_n 0, 1) := by decide +kernel
theorem d5_11 : decode jdk_52_method_21_code 11 = .ok (.iload_n 1, 1) := by decide +kernel
theorem d5_12 : decode jdk_52_method_21_code 12 = .ok (.caload, 1) := by decide +kernel
theorem d5_13 : decode jdk_52_method_21_code 13 = .ok (.istore 6, 2) := by decide +kernel
theorem d5_15 : decode jdk_52_method_21_code 15 = .ok (.iload 6, 2) := by decide +kernel
theorem d5_17 : decode jdk_52_method_21_code 17 = .ok (.sipush 255, 3) := by decide +kernel
theorem d5_20 : decode jdk_52_method_21_code 20 = .ok (.if_icmp .le 6, 3) := by decide +kernel
theorem d5_26 : decode jdk_52_method_21_code 26 = .ok (.aload_n 2, 1) := by decide +kernel
theorem d5_27 : decode jdk_52_method_21_code 27 = .ok (.iload_n 3, 1) := by decide +kernel
theorem d5_28 : decode jdk_52_method_21_code 28 = .ok (.iload 6, 2) := by decide +kernel
theorem d5_30 : decode jdk_52_method_21_code 30 = .ok (.i2b, 1) := by decide +kernel
theorem d5_31 : decode jdk_52_method_21_code 31 = .ok (.bastore, 1) := by decide +kernel
theorem d5_32 : decode jdk_52_method_21_code 32 = .ok (.iinc 1 1, 3) := by decide +kernel
theorem d5_35 : decode jdk_52_method_21_code 35 = .ok (.iinc 3 1, 3) := by decide +kernel
theorem d5_38 : decode jdk_52_method_21_code 38 = .ok (.iinc 5 1, 3) := by decide +kernel
theorem d5_41 : decode jdk_52_method_21_code 41 = .ok (.goto (-38), 3) := by decide +kernel
theorem d5_44 : decode jdk_52_method_21_code 44 = .ok (.iload 4, 2) := by decide +kernel
theorem d5_46 : decode jdk_52_method_21_code 46 = .ok (.ireturn, 1) := by decide +kernel
theorem pn_5 : plainName "java/lang/StringUTF16" = true := by first | (simp [plainName, overriddenIn]; done) | decide +kernel
theorem ef_5 (m : MethodId) (x0 : Addr) (x1 : Addr) : entryFrame m #[(.ref x0), (.int (0 : Int32)), (.ref x1), (.int (0 : Int32)), (.int (2 : Int32))] 7 = mkF m 0 #[.val (.ref x0), .val (.int (0 : Int32)), .val (.ref x1), .val (.int (0 : Int32)), .val (.int (2 : Int32)), .unset, .unset] [] := by first | (simp [entryFrame, mkF, argsToLocals, Value.category]; done) | rfl
def Q5 (Z : State) (ch : Addr) (bd : Addr) (gc : Nat → Int32) (h0 : Heap) (n0 : Nat) (v : Option Value) (h : Heap) (L : List Loc) : Prop := v = some (.int (2 : Int32)) ∧ Fr n0 L ∧ Keep h0 h [bd] ∧ AryI Z h bd .byte 2 (up (up (fun _ => (0 : Int32)) 0 (nar .byte ((gc 0).toInt8.toInt32))) 1 (nar .byte ((gc 1).toInt8.toInt32)))
set_option maxRecDepth 65536 in
set_option maxHeartbeats 40000000 in
theorem rm5 (l : Launch) (Z : State) (a0 : Array Value) (hw : ∀ d ∈ tables_1, d.before a0 Z = true) (ws : List Jvm.Cond) (ch : Addr) (bd : Addr) (gc : Nat → Int32) (h0 : Heap) (n0 : Nat) (Z0 : n0 ≤ h0.size) (A_ch : AryI Z h0 ch .char 2 gc) (A_bd : AryI Z h0 bd .byte 2 (fun _ => (0 : Int32))) (g_bd : n0 ≤ bd) (ne_ch_bd : ch ≠ bd) (hg0 : (¬ (255 : Int32) < (gc 0))) (hg1 : (¬ (255 : Int32) < (gc 1))) :
    MetFree l (⟨"java/lang/StringUTF16", "compress", "([CI[BII)I"⟩ : MethodName) (head1 (Jvm.Cond.code (⟨"java/lang/StringUTF16", "compress", "([CI[BII)I"⟩ : MethodName) jdk_52_method_21_code 7 (some .int) :: ws) ({ frames := 0, cells := 0, slots := 0, locals := 0 } : Room)) (fun a U => a = #[(.ref ch), (.int (0 : Int32)), (.ref bd), (.int (0 : Int32)), (.int (2 : Int32))] ∧ Z.Warmed39 U.vm ∧ U.heap = h0) (fun _ _ _ _ _ => True) (fun _ U o U' => ∃ v L, o = .returned v ∧ Q5 Z ch bd gc h0 n0 v U'.heap L ∧ FrameEnd U o U' L ({ frames := 0, cells := 0, slots := 0, locals := 0 } : Room).cells ({ frames := 0, cells := 0, slots := 0, locals := 0 } : Room).slots) := by
  refine MetFree.of_bodySF (plainFor_of_name pn_5) hisR ?_
  intro p e s m args below meth c s₁ Bd hml0 hP hK
  obtain ⟨rfl, hZ, hh⟩ := hP
  have hx := Bd.exec
  have hby := Bd.bytes
  have hml : c.maxLocals = 7 := hml0
  have hown : s.vm.findClass "java/lang/StringUTF16" = some m.cls := findClass_of_methodNamed Bd.named
  have hnm := (name_of_methodNamed Bd.named Bd.method).1
  have X0 : Stand p l e ({ frames := 0, cells := 0, slots := 0, locals := 0 } : Room) s m #[(.ref ch), (.int (0 : Int32)), (.ref bd), (.int (0 : Int32)), (.int (2 : Int32))] below meth c s₁ [] 0 0 := Stand.of_body Bd
  have e0 : s₁.heap = h0 := by rw [← hh, Bd.state]; rfl
  have N0 := Fr.nil n0
  have K0 := Keep.refl h0 ([bd] : List Addr)
  show Go p e below s (Q5 Z ch bd gc h0 n0) ({ frames := 0, cells := 0, slots := 0, locals := 0 } : Room).cells ({ frames := 0, cells := 0, slots := 0, locals := 0 } : Room).slots (s₁.setTop (entryFrame m #[(.ref ch), (.int (0 : Int32)), (.ref bd), (.int (0 : Int32)), (.int (2 : Int32))] 7))
  rw [ef_5]
  show Go _ _ _ _ _ _ _ (s₁.setTop (mkF m 0 #[.val (.ref ch), .val (.int (0 : Int32)), .val (.ref bd), .val (.int (0 : Int32)), .val (.int (2 : Int32)), .unset, .unset] []))
  refine Go.step (fun t k => XS.iconst X0.here hx rfl (hb hby d5_0) k) ?_
  show Go _ _ _ _ _ _ _ (s₁.setTop (mkF m 1 #[.val (.ref ch), .val (.int (0 : Int32)), .val (.ref bd), .val (.int (0 : Int32)), .val (.int (2 : Int32)), .unset, .unset] [(.int (0 : Int32))]))
  refine Go.step (fun t k => XS.istore X0.here hx rfl (hb hby d5_1) rfl (l' := #[.val (.ref ch), .val (.int (0 : Int32)), .val (.ref bd), .val (.int (0 : Int32)), .val (.int (2 : Int32)), .val (.int (0 : Int32)), .unset]) rfl k) ?_
  show Go _ _ _ _ _ _ _ (s₁.setTop (mkF m 3 #[.val (.ref ch), .val (.int (0 : Int32)), .val (.ref bd), .val (.int (0 : Int32)), .val (.int (2 : Int32)), .val (.int (0 : Int32)), .unset] []))
  refine Go.step (fun t k => XS.iload X0.here hx rfl (hb hby d5_3) rfl k) ?_
  show Go _ _ _ _ _ _ _ (s₁.setTop (mkF m 5 #[.val (.ref ch), .val (.int (0 : Int32)), .val (.ref bd), .val (.int (0 : Int32)), .val (.int (2 : Int32)), .val (.int (0 : Int32)), .unset] [(.int (0 : Int32))]))
  refine Go.step (fun t k => XS.iload X0.here hx rfl (hb hby d5_5) rfl k) ?_
  show Go _ _ _ _ _ _ _ (s₁.setTop (mkF m 7 #[.val (.ref ch), .val (.int (0 : Int32)), .val (.ref bd), .val (.int (0 : Int32)), .val (.int (2 : Int32)), .val (.int (0 : Int32)), .unset] [(.int (2 : Int32)), (.int (0 : Int32))]))
  refine Go.step (fun t k => XS.icmpNo X0.here hx rfl (hb hby d5_7) rfl (tlt (by decide : (0 : Int32) < (2 : Int32))).2.1 k) ?_
  show Go _ _ _ _ _ _ _ (s₁.setTop (mkF m 10 #[.val (.ref ch), .val (.int (0 : Int32)), .val (.ref bd), .val (.int (0 : Int32)), .val (.int (2 : Int32)), .val (.int (0 : Int32)), .unset] []))
  refine Go.step (fun t k => XS.aloadN X0.here hx rfl (hb hby d5_10) rfl rfl k) ?_
  show Go _ _ _ _ _ _ _ (s₁.setTop (mkF m 11 #[.val (.ref ch), .val (.int (0 : Int32)), .val (.ref bd), .val (.int (0 : Int32)), .val (.int (2 : Int32)), .val (.int (0 : Int32)), .unset] [(.ref ch)]))
  refine Go.step (fun t k => XS.iloadN X0.here hx rfl (hb hby d5_11) rfl k) ?_
  show Go _ _ _ _ _ _ _ (s₁.setTop (mkF m 12 #[.val (.ref ch), .val (.int (0 : Int32)), .val (.ref bd), .val (.int (0 : Int32)), .val (.int (2 : Int32)), .val (.int (0 : Int32)), .unset] [(.int (0 : Int32)), (.ref ch)]))
  refine Go.step (own_ld X0 hx hZ e0 A_ch (j := (0 : Int32)) 0 rfl (by decide) (v := (.int (gc 0))) rfl (Or.inr (Or.inr (Or.inl ⟨rfl, rfl⟩))) (f := (mkF m 12 #[.val (.ref ch), .val (.int (0 : Int32)), .val (.ref bd), .val (.int (0 : Int32)), .val (.int (2 : Int32)), .val (.int (0 : Int32)), .unset] [(.int (0 : Int32)), (.ref ch)])) rfl rfl (hb hby d5_12)) ?_
  show Go _ _ _ _ _ _ _ (s₁.setTop (mkF m 13 #[.val (.ref ch), .val (.int (0 : Int32)), .val (.ref bd), .val (.int (0 : Int32)), .val (.int (2 : Int32)), .val (.int (0 : Int32)), .unset] [(.int (gc 0))]))
  refine Go.step (fun t k => XS.istore X0.here hx rfl (hb hby d5_13) rfl (l' := #[.val (.ref ch), .val (.int (0 : Int32)), .val (.ref bd), .val (.int (0 : Int32)), .val (.int (2 : Int32)), .val (.int (0 : Int32)), .val (.int (gc 0))]) rfl k) ?_
  show Go _ _ _ _ _ _ _ (s₁.setTop (mkF m 15 #[.val (.ref ch), .val (.int (0 : Int32)), .val (.ref bd), .val (.int (0 : Int32)), .val (.int (2 : Int32)), .val (.int (0 : Int32)), .val (.int (gc 0))] []))
  refine Go.step (fun t k => XS.iload X0.here hx rfl (hb hby d5_15) rfl k) ?_
  show Go _ _ _ _ _ _ _ (s₁.setTop (mkF m 17 #[.val (.ref ch), .val (.int (0 : Int32)), .val (.ref bd), .val (.int (0 : Int32)), .val (.int (2 : Int32)), .val (.int (0 : Int32)), .val (.int (gc 0))] [(.int (gc 0))]))
  refine Go.step (fun t k => XS.sipush X0.here hx rfl (hb hby d5_17) k) ?_
  show Go _ _ _ _ _ _ _ (s₁.setTop (mkF m 20 #[.val (.ref ch), .val (.int (0 : Int32)), .val (.ref bd), .val (.int (0 : Int32)), .val (.int (2 : Int32)), .val (.int (0 : Int32)), .val (.int (gc 0))] [(.int (255 : Int32)), (.int (gc 0))]))
  refine Go.step (fun t k => XS.icmpYes X0.here hx rfl (pc0 := 20) (pc' := 26) rfl (hb hby d5_20) rfl (flt (hg0 : ¬ (255 : Int32) < (gc 0))).2.2.2 (by decide) (by decide) k) ?_
  show Go _ _ _ _ _ _ _ (s₁.setTop (mkF m 26 #[.val (.ref ch), .val (.int (0 : Int32)), .val (.ref bd), .val (.int (0 : Int32)), .val (.int (2 : Int32)), .val (.int (0 : Int32)), .val (.int (gc 0))] []))
  refine Go.step (fun t k => XS.aloadN X0.here hx rfl (hb hby d5_26) rfl rfl k) ?_
  show Go _ _ _ _ _ _ _ (s₁.setTop (mkF m 27 #[.val (.ref ch), .val (.int (0 : Int32)), .val (.ref bd), .val (.int (0 : Int32)), .val (.int (2 : Int32)), .val (.int (0 : Int32)), .val (.int (gc 0))] [(.ref bd)]))
  refine Go.step (fun t k => XS.iloadN X0.here hx rfl (hb hby d5_27) rfl k) ?_
  show Go _ _ _ _ _ _ _ (s₁.setTop (mkF m 28 #[.val (.ref ch), .val (.int (0 : Int32)), .val (.ref bd), .val (.int (0 : Int32)), .val (.int (2 : Int32)), .val (.int (0 : Int32)), .val (.int (gc 0))] [(.int (0 : Int32)), (.ref bd)]))
  refine Go.step (fun t k => XS.iload X0.here hx rfl (hb hby d5_28) rfl k) ?_
  show Go _ _ _ _ _ _ _ (s₁.setTop (mkF m 30 #[.val (.ref ch), .val (.int (0 : Int32)), .val (.ref bd), .val (.int (0 : Int32)), .val (.int (2 : Int32)), .val (.int (0 : Int32)), .val (.int (gc 0))] [(.int (gc 0)), (.int (0 : Int32)), (.ref bd)]))
  refine Go.step (fun t k => XS.i2b X0.here hx rfl (hb hby d5_30) rfl k) ?_
  show Go _ _ _ _ _ _ _ (s₁.setTop (mkF m 31 #[.val (.ref ch), .val (.int (0 : Int32)), .val (.ref bd), .val (.int (0 : Int32)), .val (.int (2 : Int32)), .val (.int (0 : Int32)), .val (.int (gc 0))] [(.int ((gc 0).toInt8.toInt32)), (.int (0 : Int32)), (.ref bd)]))
  obtain ⟨T2, h2, X2, e2, W2, st2⟩ := own_stB X0 hx hZ e0 A_bd 0 rfl (by decide) (f := (mkF m 31 #[.val (.ref ch), .val (.int (0 : Int32)), .val (.ref bd), .val (.int (0 : Int32)), .val (.int (2 : Int32)), .val (.int (0 : Int32)), .val (.int (gc 0))] [(.int ((gc 0).toInt8.toInt32)), (.int (0 : Int32)), (.ref bd)])) rfl rfl (hb hby d5_31)
  replace A_ch := A_ch.other W2 ne_ch_bd
  have Z2 := Nat.le_trans Z0 (Keep.of_wr W2).1
  have N2 := Fr.snoc X2 N0 g_bd
  have K2 := K0.wr W2 (Or.inl (List.mem_of_getElem? (i := 0) rfl))
  replace A_bd := A_bd.setI W2
  refine Go.step st2 ?_
  show Go _ _ _ _ _ _ _ (T2.setTop (mkF m 32 #[.val (.ref ch), .val (.int (0 : Int32)), .val (.ref bd), .val (.int (0 : Int32)), .val (.int (2 : Int32)), .val (.int (0 : Int32)), .val (.int (gc 0))] []))
  refine Go.step (fun t k => XS.iinc X2.here hx rfl (hb hby d5_32) rfl (l' := #[.val (.ref ch), .val (.int (1 : Int32)), .val (.ref bd), .val (.int (0 : Int32)), .val (.int (2 : Int32)), .val (.int (0 : Int32)), .val (.int (gc 0))]) rfl k) ?_
  show Go _ _ _ _ _ _ _ (T2.setTop (mkF m 35 #[.val (.ref ch), .val (.int (1 : Int32)), .val (.ref bd), .val (.int (0 : Int32)), .val (.int (2 : Int32)), .val (.int (0 : Int32)), .val (.int (gc 0))] []))
  refine Go.step (fun t k => XS.iinc X2.here hx rfl (hb hby d5_35) rfl (l' := #[.val (.ref ch), .val (.int (1 : Int32)), .val (.ref bd), .val (.int (1 : Int32)), .val (.int (2 : Int32)), .val (.int (0 : Int32)), .val (.int (gc 0))]) rfl k) ?_
  show Go _ _ _ _ _ _ _ (T2.setTop (mkF m 38 #[.val (.ref ch), .val (.int (1 : Int32)), .val (.ref bd), .val (.int (1 : Int32)), .val (.int (2 : Int32)), .val (.int (0 : Int32)), .val (.int (gc 0))] []))
  refine Go.step (fun t k => XS.iinc X2.here hx rfl (hb hby d5_38) rfl (l' := #[.val (.ref ch), .val (.int (1 : Int32)), .val (.ref bd), .val (.int (1 : Int32)), .val (.int (2 : Int32)), .val (.int (1 : Int32)), .val (.int (gc 0))]) rfl k) ?_
  show Go _ _ _ _ _ _ _ (T2.setTop (mkF m 41 #[.val (.ref ch), .val (.int (1 : Int32)), .val (.ref bd), .val (.int (1 : Int32)), .val (.int (2 : Int32)), .val (.int (1 : Int32)), .val (.int (gc 0))] []))
  refine Go.step (fun t k => XS.goto X2.here hx rfl (pc0 := 41) (pc' := 3) rfl (hb hby d5_41) (by decide) (by decide) k) ?_
  show Go _ _ _ _ _ _ _ (T2.setTop (mkF m 3 #[.val (.ref ch), .val (.int (1 : Int32)), .val (.ref bd), .val (.int (1 : Int32)), .val (.int (2 : Int32)), .val (.int (1 : Int32)), .val (.int (gc 0))] []))
  refine Go.step (fun t k => XS.iload X2.here hx rfl (hb hby d5_3) rfl k) ?_
  show Go _ _ _ _ _ _ _ (T2.setTop (mkF m 5 #[.val (.ref ch), .val (.int (1 : Int32)), .val (.ref bd), .val (.int (1 : Int32)), .val (.int (2 : Int32)), .val (.int (1 : Int32)), .val (.int (gc 0))] [(.int (1 : Int32))]))
  refine Go.step (fun t k => XS.iload X2.here hx rfl (hb hby d5_5) rfl k) ?_
  show Go _ _ _ _ _ _ _ (T2.setTop (mkF m 7 #[.val (.ref ch), .val (.int (1 : Int32)), .val (.ref bd), .val (.int (1 : Int32)), .val (.int (2 : Int32)), .val (.int (1 : Int32)), .val (.int (gc 0))] [(.int (2 : Int32)), (.int (1 : Int32))]))
  refine Go.step (fun t k => XS.icmpNo X2.here hx rfl (hb hby d5_7) rfl (tlt (by decide : (1 : Int32) < (2 : Int32))).2.1 k) ?_
  show Go _ _ _ _ _ _ _ (T2.setTop (mkF m 10 #[.val (.ref ch), .val (.int (1 : Int32)), .val (.ref bd), .val (.int (1 : Int32)), .val (.int (2 : Int32)), .val (.int (1 : Int32)), .val (.int (gc 0))] []))
  refine Go.step (fun t k => XS.aloadN X2.here hx rfl (hb hby d5_10) rfl rfl k) ?_
  show Go _ _ _ _ _ _ _ (T2.setTop (mkF m 11 #[.val (.ref ch), .val (.int (1 : Int32)), .val (.ref bd), .val (.int (1 : Int32)), .val (.int (2 : Int32)), .val (.int (1 : Int32)), .val (.int (gc 0))] [(.ref ch)]))
  refine Go.step (fun t k => XS.iloadN X2.here hx rfl (hb hby d5_11) rfl k) ?_
  show Go _ _ _ _ _ _ _ (T2.setTop (mkF m 12 #[.val (.ref ch), .val (.int (1 : Int32)), .val (.ref bd), .val (.int (1 : Int32)), .val (.int (2 : Int32)), .val (.int (1 : Int32)), .val (.int (gc 0))] [(.int (1 : Int32)), (.ref ch)]))
  refine Go.step (own_ld X2 hx hZ e2 A_ch (j := (1 : Int32)) 1 rfl (by decide) (v := (.int (gc 1))) rfl (Or.inr (Or.inr (Or.inl ⟨rfl, rfl⟩))) (f := (mkF m 12 #[.val (.ref ch), .val (.int (1 : Int32)), .val (.ref bd), .val (.int (1 : Int32)), .val (.int (2 : Int32)), .val (.int (1 : Int32)), .val (.int (gc 0))] [(.int (1 : Int32)), (.ref ch)])) rfl rfl (hb hby d5_12)) ?_
  show Go _ _ _ _ _ _ _ (T2.setTop (mkF m 13 #[.val (.ref ch), .val (.int (1 : Int32)), .val (.ref bd), .val (.int (1 : Int32)), .val (.int (2 : Int32)), .val (.int (1 : Int32)), .val (.int (gc 0))] [(.int (gc 1))]))
  refine Go.step (fun t k => XS.istore X2.here hx rfl (hb hby d5_13) rfl (l' := #[.val (.ref ch), .val (.int (1 : Int32)), .val (.ref bd), .val (.int (1 : Int32)), .val (.int (2 : Int32)), .val (.int (1 : Int32)), .val (.int (gc 1))]) rfl k) ?_
  show Go _ _ _ _ _ _ _ (T2.setTop (mkF m 15 #[.val (.ref ch), .val (.int (1 : Int32)), .val (.ref bd), .val (.int (1 : Int32)), .val (.int (2 : Int32)), .val (.int (1 : Int32)), .val (.int (gc 1))] []))
  refine Go.step (fun t k => XS.iload X2.here hx rfl (hb hby d5_15) rfl k) ?_
  show Go _ _ _ _ _ _ _ (T2.setTop (mkF m 17 #[.val (.ref ch), .val (.int (1 : Int32)), .val (.ref bd), .val (.int (1 : Int32)), .val (.int (2 : Int32)), .val (.int (1 : Int32)), .val (.int (gc 1))] [(.int (gc 1))]))
  refine Go.step (fun t k => XS.sipush X2.here hx rfl (hb hby d5_17) k) ?_
  show Go _ _ _ _ _ _ _ (T2.setTop (mkF m 20 #[.val (.ref ch), .val (.int (1 : Int32)), .val (.ref bd), .val (.int (1 : Int32)), .val (.int (2 : Int32)), .val (.int (1 : Int32)), .val (.int (gc 1))] [(.int (255 : Int32)), (.int (gc 1))]))
  refine Go.step (fun t k => XS.icmpYes X2.here hx rfl (pc0 := 20) (pc' := 26) rfl (hb hby d5_20) rfl (flt (hg1 : ¬ (255 : Int32) < (gc 1))).2.2.2 (by decide) (by decide) k) ?_
  show Go _ _ _ _ _ _ _ (T2.setTop (mkF m 26 #[.val (.ref ch), .val (.int (1 : Int32)), .val (.ref bd), .val (.int (1 : Int32)), .val (.int (2 : Int32)), .val (.int (1 : Int32)), .val (.int (gc 1))] []))
  refine Go.step (fun t k => XS.aloadN X2.here hx rfl (hb hby d5_26) rfl rfl k) ?_
  show Go _ _ _ _ _ _ _ (T2.setTop (mkF m 27 #[.val (.ref ch), .val (.int (1 : Int32)), .val (.ref bd), .val (.int (1 : Int32)), .val (.int (2 : Int32)), .val (.int (1 : Int32)), .val (.int (gc 1))] [(.ref bd)]))
  refine Go.step (fun t k => XS.iloadN X2.here hx rfl (hb hby d5_27) rfl k) ?_
  show Go _ _ _ _ _ _ _ (T2.setTop (mkF m 28 #[.val (.ref ch), .val (.int (1 : Int32)), .val (.ref bd), .val (.int (1 : Int32)), .val (.int (2 : Int32)), .val (.int (1 : Int32)), .val (.int (gc 1))] [(.int (1 : Int32)), (.ref bd)]))
  refine Go.step (fun t k => XS.iload X2.here hx rfl (hb hby d5_28) rfl k) ?_
  show Go _ _ _ _ _ _ _ (T2.setTop (mkF m 30 #[.val (.ref ch), .val (.int (1 : Int32)), .val (.ref bd), .val (.int (1 : Int32)), .val (.int (2 : Int32)), .val (.int (1 : Int32)), .val (.int (gc 1))] [(.int (gc 1)), (.int (1 : Int32)), (.ref bd)]))
  refine Go.step (fun t k => XS.i2b X2.here hx rfl (hb hby d5_30) rfl k) ?_
  show Go _ _ _ _ _ _ _ (T2.setTop (mkF m 31 #[.val (.ref ch), .val (.int (1 : Int32)), .val (.ref bd), .val (.int (1 : Int32)), .val (.int (2 : Int32)), .val (.int (1 : Int32)), .val (.int (gc 1))] [(.int ((gc 1).toInt8.toInt32)), (.int (1 : Int32)), (.ref bd)]))
  obtain ⟨T4, h4, X4, e4, W4, st4⟩ := own_stB X2 hx hZ e2 A_bd 1 rfl (by decide) (f := (mkF m 31 #[.val (.ref ch), .val (.int (1 : Int32)), .val (.ref bd), .val (.int (1 : Int32)), .val (.int (2 : Int32)), .val (.int (1 : Int32)), .val (.int (gc 1))] [(.int ((gc 1).toInt8.toInt32)), (.int (1 : Int32)), (.ref bd)])) rfl rfl (hb hby d5_31)
  replace A_ch := A_ch.other W4 ne_ch_bd
  have Z4 := Nat.le_trans Z2 (Keep.of_wr W4).1
  have N4 := Fr.snoc X4 N2 g_bd
  have K4 := K2.wr W4 (Or.inl (List.mem_of_getElem? (i := 0) rfl))
  replace A_bd := A_bd.setI W4
  refine Go.step st4 ?_
  show Go _ _ _ _ _ _ _ (T4.setTop (mkF m 32 #[.val (.ref ch), .val (.int (1 : Int32)), .val (.ref bd), .val (.int (1 : Int32)), .val (.int (2 : Int32)), .val (.int (1 : Int32)), .val (.int (gc 1))] []))
  refine Go.step (fun t k => XS.iinc X4.here hx rfl (hb hby d5_32) rfl (l' := #[.val (.ref ch), .val (.int (2 : Int32)), .val (.ref bd), .val (.int (1 : Int32)), .val (.int (2 : Int32)), .val (.int (1 : Int32)), .val (.int (gc 1))]) rfl k) ?_
  show Go _ _ _ _ _ _ _ (T4.setTop (mkF m 35 #[.val (.ref ch), .val (.int (2 : Int32)), .val (.ref bd), .val (.int (1 : Int32)), .val (.int (2 : Int32)), .val (.int (1 : Int32)), .val (.int (gc 1))] []))
  refine Go.step (fun t k => XS.iinc X4.here hx rfl (hb hby d5_35) rfl (l' := #[.val (.ref ch), .val (.int (2 : Int32)), .val (.ref bd), .val (.int (2 : Int32)), .val (.int (2 : Int32)), .val (.int (1 : Int32)), .val (.int (gc 1))]) rfl k) ?_
  show Go _ _ _ _ _ _ _ (T4.setTop (mkF m 38 #[.val (.ref ch), .val (.int (2 : Int32)), .val (.ref bd), .val (.int (2 : Int32)), .val (.int (2 : Int32)), .val (.int (1 : Int32)), .val (.int (gc 1))] []))
  refine Go.step (fun t k => XS.iinc X4.here hx rfl (hb hby d5_38) rfl (l' := #[.val (.ref ch), .val (.int (2 : Int32)), .val (.ref bd), .val (.int (2 : Int32)), .val (.int (2 : Int32)), .val (.int (2 : Int32)), .val (.int (gc 1))]) rfl k) ?_
  show Go _ _ _ _ _ _ _ (T4.setTop (mkF m 41 #[.val (.ref ch), .val (.int (2 : Int32)), .val (.ref bd), .val (.int (2 : Int32)), .val (.int (2 : Int32)), .val (.int (2 : Int32)), .val (.int (gc 1))] []))
  refine Go.step (fun t k => XS.goto X4.here hx rfl (pc0 := 41) (pc' := 3) rfl (hb hby d5_41) (by decide) (by decide) k) ?_
  show Go _ _ _ _ _ _ _ (T4.setTop (mkF m 3 #[.val (.ref ch), .val (.int (2 : Int32)), .val (.ref bd), .val (.int (2 : Int32)), .val (.int (2 : Int32)), .val (.int (2 : Int32)), .val (.int (gc 1))] []))
  refine Go.step (fun t k => XS.iload X4.here hx rfl (hb hby d5_3) rfl k) ?_
  show Go _ _ _ _ _ _ _ (T4.setTop (mkF m 5 #[.val (.ref ch), .val (.int (2 : Int32)), .val (.ref bd), .val (.int (2 : Int32)), .val (.int (2 : Int32)), .val (.int (2 : Int32)), .val (.int (gc 1))] [(.int (2 : Int32))]))
  refine Go.step (fun t k => XS.iload X4.here hx rfl (hb hby d5_5) rfl k) ?_
  show Go _ _ _ _ _ _ _ (T4.setTop (mkF m 7 #[.val (.ref ch), .val (.int (2 : Int32)), .val (.ref bd), .val (.int (2 : Int32)), .val (.int (2 : Int32)), .val (.int (2 : Int32)), .val (.int (gc 1))] [(.int (2 : Int32)), (.int (2 : Int32))]))
  refine Go.step (fun t k => XS.icmpYes X4.here hx rfl (pc0 := 7) (pc' := 44) rfl (hb hby d5_7) rfl (flt (by decide : ¬ (2 : Int32) < (2 : Int32))).2.1 (by decide) (by decide) k) ?_
  show Go _ _ _ _ _ _ _ (T4.setTop (mkF m 44 #[.val (.ref ch), .val (.int (2 : Int32)), .val (.ref bd), .val (.int (2 : Int32)), .val (.int (2 : Int32)), .val (.int (2 : Int32)), .val (.int (gc 1))] []))
  refine Go.step (fun t k => XS.iload X4.here hx rfl (hb hby d5_44) rfl k) ?_
  show Go _ _ _ _ _ _ _ (T4.setTop (mkF m 46 #[.val (.ref ch), .val (.int (2 : Int32)), .val (.ref bd), .val (.int (2 : Int32)), .val (.int (2 : Int32)), .val (.int (2 : Int32)), .val (.int (gc 1))] [(.int (2 : Int32))]))
  refine Go.retI X4 Bd.notSynchronized hx Bd.returns (hb hby d5_46) (by decide) (by decide) ?_
  rw [e4]
  exact ⟨rfl, N4, K4, A_bd⟩
theorem d4_0 : decode jdk_52_method_16_code 0 = .ok (.iload_n 2, 1) := by decide +kernel
theorem d4_1 : decode jdk_52_method_16_code 1 = .ok (.newarray .byte, 2) := by decide +kernel
theorem d4_3 : decode jdk_52_method_16_code 3 = .ok (.astore_n 3, 1) := by decide +kernel
theorem d4_4 : decode jdk_52_method_16_code 4 = .ok (.aload_n 0, 1) := by decide +kernel
theorem d4_5 : decode jdk_52_method_16_code 5 = .ok (.iload_n 1, 1) := by decide +kernel
theorem d4_6 : decode jdk_52_method_16_code 6 = .ok (.aload_n 3, 1) := by decide +kernel
theorem d4_7 : decode jdk_52_method_16_code 7 = .ok (.iconst 0, 1) := by decide +kernel
theorem d4_8 : decode jdk_52_method_16_code 8 = .ok (.iload_n 2, 1) := by decide +kernel
theorem d4_9 : decode jdk_52_method_16_code 9 = .ok (.invokestatic 115, 3) := by decide +kernel
theorem d4_12 : decode jdk_52_method_16_code 12 = .ok (.istore 4, 2) := by decide +kernel
theorem d4_14 : decode jdk_52_method_16_code 14 = .ok (.iload 4, 2) := by decide +kernel
theorem d4_16 : decode jdk_52_method_16_code 16 = .ok (.iload_n 2, 1) := by decide +kernel
theorem d4_17 : decode jdk_52_method_16_code 17 = .ok (.if_icmp .eq 40, 3) := by decide +kernel
theorem d4_57 : decode jdk_52_method_16_code 57 = .ok (.aload_n 3, 1) := by decide +kernel
theorem d4_58 : decode jdk_52_method_16_code 58 = .ok (.areturn, 1) := by decide +kernel
theorem pn_4 : plainName "java/lang/StringUTF16" = true := by first | (simp [plainName, overriddenIn]; done) | decide +kernel
theorem pd_4_0 : parseMethodDescriptor "([CI[BII)I" = some ⟨[(.array .char), .int, (.array .byte), .int, .int], some .int⟩ := by decide +kernel
theorem ef_4 (m : MethodId) (x0 : Addr) : entryFrame m #[(.ref x0), (.int (0 : Int32)), (.int (2 : Int32))] 6 = mkF m 0 #[.val (.ref x0), .val (.int (0 : Int32)), .val (.int (2 : Int32)), .unset, .unset, .unset] [] := by first | (simp [entryFrame, mkF, argsToLocals, Value.category]; done) | rfl
def Q4 (Z : State) (ch : Addr) (gc : Nat → Int32) (h0 : Heap) (n0 : Nat) (v : Option Value) (h : Heap) (L : List Loc) : Prop := ∃ bd : Addr, v = some (.ref bd) ∧ Fr n0 L ∧ Keep h0 h [] ∧ h0.size ≤ bd ∧ AryI Z h bd .byte 2 (up (up (fun _ => (0 : Int32)) 0 (nar .byte ((gc 0).toInt8.toInt32))) 1 (nar .byte ((gc 1).toInt8.toInt32)))
set_option maxRecDepth 65536 in
set_option maxHeartbeats 40000000 in
theorem rm4 (l : Launch) (Z : State) (a0 : Array Value) (hw : ∀ d ∈ tables_1, d.before a0 Z = true) (ws : List Jvm.Cond) (ch : Addr) (gc : Nat → Int32) (h0 : Heap) (n0 : Nat) (Z0 : n0 ≤ h0.size) (A_ch : AryI Z h0 ch .char 2 gc) (hg0 : (¬ (255 : Int32) < (gc 0))) (hg1 : (¬ (255 : Int32) < (gc 1))) :
    MetFree l (⟨"java/lang/StringUTF16", "compress", "([CII)[B"⟩ : MethodName) (head1 (Jvm.Cond.code (⟨"java/lang/StringUTF16", "compress", "([CII)[B"⟩ : MethodName) jdk_52_method_16_code 6 (some (.array .byte)) :: ws) ({ frames := 1, cells := 1, slots := 2, locals := 18 } : Room)) (fun a U => a = #[(.ref ch), (.int (0 : Int32)), (.int (2 : Int32))] ∧ Z.Warmed39 U.vm ∧ U.heap = h0) (fun _ _ _ _ _ => True) (fun _ U o U' => ∃ v L, o = .returned v ∧ Q4 Z ch gc h0 n0 v U'.heap L ∧ FrameEnd U o U' L ({ frames := 1, cells := 1, slots := 2, locals := 18 } : Room).cells ({ frames := 1, cells := 1, slots := 2, locals := 18 } : Room).slots) := by
  refine MetFree.of_bodySF (plainFor_of_name pn_4) hisR ?_
  intro p e s m args below meth c s₁ Bd hml0 hP hK
  obtain ⟨rfl, hZ, hh⟩ := hP
  have hx := Bd.exec
  have hby := Bd.bytes
  have hml : c.maxLocals = 6 := hml0
  have hown : s.vm.findClass "java/lang/StringUTF16" = some m.cls := findClass_of_methodNamed Bd.named
  have hnm := (name_of_methodNamed Bd.named Bd.method).1
  have X0 : Stand p l e ({ frames := 1, cells := 1, slots := 2, locals := 18 } : Room) s m #[(.ref ch), (.int (0 : Int32)), (.int (2 : Int32))] below meth c s₁ [] 0 0 := Stand.of_body Bd
  have e0 : s₁.heap = h0 := by rw [← hh, Bd.state]; rfl
  have N0 := Fr.nil n0
  have K0 := Keep.refl h0 ([] : List Addr)
  show Go p e below s (Q4 Z ch gc h0 n0) ({ frames := 1, cells := 1, slots := 2, locals := 18 } : Room).cells ({ frames := 1, cells := 1, slots := 2, locals := 18 } : Room).slots (s₁.setTop (entryFrame m #[(.ref ch), (.int (0 : Int32)), (.int (2 : Int32))] 6))
  rw [ef_4]
  show Go _ _ _ _ _ _ _ (s₁.setTop (mkF m 0 #[.val (.ref ch), .val (.int (0 : Int32)), .val (.int (2 : Int32)), .unset, .unset, .unset] []))
  refine Go.step (fun t k => XS.iloadN X0.here hx rfl (hb hby d4_0) rfl k) ?_
  show Go _ _ _ _ _ _ _ (s₁.setTop (mkF m 1 #[.val (.ref ch), .val (.int (0 : Int32)), .val (.int (2 : Int32)), .unset, .unset, .unset] [(.int (2 : Int32))]))
  obtain ⟨T1, h1, k1, X1, e1, E1, A1, st1⟩ := newP X0 hx hZ (hw _ (List.mem_of_getElem? (i := 20) rfl)) e0 (g := (mkF m 1 #[.val (.ref ch), .val (.int (0 : Int32)), .val (.int (2 : Int32)), .unset, .unset, .unset] [(.int (2 : Int32))])) rfl (hb hby d4_1) rfl (by decide) (cap := 2) (by decide) (by decide) (by decide) (by decide)
  obtain ⟨bd, gz1⟩ : ∃ z, z = h0.size := ⟨_, rfl⟩
  have ne_ch_bd : ch ≠ bd := Nat.ne_of_lt (Nat.lt_of_lt_of_le A_ch.lt (Nat.le_of_eq gz1.symm))
  have g_bd : n0 ≤ bd := Nat.le_trans Z0 (Nat.le_of_eq gz1.symm)
  have sz_bd : h0.size ≤ bd := Nat.le_trans K0.1 (Nat.le_of_eq gz1.symm)
  rw [← gz1] at A1 st1
  replace A_ch := A_ch.ext E1
  have Z1 := Nat.le_trans Z0 E1.1
  have K1 := K0.ext E1
  have A_bd : AryI Z h1 bd .byte 2 (fun _ => (0 : Int32)) := Ary.new A1 rfl
  refine Go.step st1 ?_
  show Go _ _ _ _ _ _ _ (T1.setTop (mkF m 3 #[.val (.ref ch), .val (.int (0 : Int32)), .val (.int (2 : Int32)), .unset, .unset, .unset] [(.ref bd)]))
  refine Go.step (fun t k => XS.astoreN X1.here hx rfl (hb hby d4_3) rfl rfl (l' := #[.val (.ref ch), .val (.int (0 : Int32)), .val (.int (2 : Int32)), .val (.ref bd), .unset, .unset]) rfl k) ?_
  show Go _ _ _ _ _ _ _ (T1.setTop (mkF m 4 #[.val (.ref ch), .val (.int (0 : Int32)), .val (.int (2 : Int32)), .val (.ref bd), .unset, .unset] []))
  refine Go.step (fun t k => XS.aloadN X1.here hx rfl (hb hby d4_4) rfl rfl k) ?_
  show Go _ _ _ _ _ _ _ (T1.setTop (mkF m 5 #[.val (.ref ch), .val (.int (0 : Int32)), .val (.int (2 : Int32)), .val (.ref bd), .unset, .unset] [(.ref ch)]))
  refine Go.step (fun t k => XS.iloadN X1.here hx rfl (hb hby d4_5) rfl k) ?_
  show Go _ _ _ _ _ _ _ (T1.setTop (mkF m 6 #[.val (.ref ch), .val (.int (0 : Int32)), .val (.int (2 : Int32)), .val (.ref bd), .unset, .unset] [(.int (0 : Int32)), (.ref ch)]))
  refine Go.step (fun t k => XS.aloadN X1.here hx rfl (hb hby d4_6) rfl rfl k) ?_
  show Go _ _ _ _ _ _ _ (T1.setTop (mkF m 7 #[.val (.ref ch), .val (.int (0 : Int32)), .val (.int (2 : Int32)), .val (.ref bd), .unset, .unset] [(.ref bd), (.int (0 : Int32)), (.ref ch)]))
  refine Go.step (fun t k => XS.iconst X1.here hx rfl (hb hby d4_7) k) ?_
  show Go _ _ _ _ _ _ _ (T1.setTop (mkF m 8 #[.val (.ref ch), .val (.int (0 : Int32)), .val (.int (2 : Int32)), .val (.ref bd), .unset, .unset] [(.int (0 : Int32)), (.ref bd), (.int (0 : Int32)), (.ref ch)]))
  refine Go.step (fun t k => XS.iloadN X1.here hx rfl (hb hby d4_8) rfl k) ?_
  show Go _ _ _ _ _ _ _ (T1.setTop (mkF m 9 #[.val (.ref ch), .val (.int (0 : Int32)), .val (.int (2 : Int32)), .val (.ref bd), .unset, .unset] [(.int (2 : Int32)), (.int (0 : Int32)), (.ref bd), (.int (0 : Int32)), (.ref ch)]))
  obtain ⟨_, _, ⟨T2, L2, k2, n2⟩, -, X2, ⟨Lc2, hQ2, l2, y2, z2⟩, st2⟩ := Jvm.LawKit.callS X1 hx (y := (⟨"java/lang/StringUTF16", "compress", "([CI[BII)I"⟩ : MethodName)) hown (mvT hZ (hw _ (List.mem_of_getElem? (i := 21) rfl))) (mvT hZ (hw _ (List.mem_of_getElem? (i := 22) rfl))) (mvT hZ (hw _ (List.mem_of_getElem? (i := 18) rfl))) (mvT hZ (hw _ (List.mem_of_getElem? (i := 23) rfl))) (by decide) (backOf (W := 0) (rm5 l Z a0 hw [] ch bd gc h1 n0 Z1 A_ch A_bd g_bd ne_ch_bd hg0 hg1) hZ (hw _ (List.mem_of_getElem? (i := 23) rfl)) (hw _ (List.mem_of_getElem? (i := 18) rfl)) (by decide) (by decide)) (g := (mkF m 9 #[.val (.ref ch), .val (.int (0 : Int32)), .val (.int (2 : Int32)), .val (.ref bd), .unset, .unset] [(.int (2 : Int32)), (.int (0 : Int32)), (.ref bd), (.int (0 : Int32)), (.ref ch)])) rfl (by rw [hml]; rfl) (argsL := [(.ref ch), (.int (0 : Int32)), (.ref bd), (.int (0 : Int32)), (.int (2 : Int32))]) (rest := []) (lenOf pd_4_0 rfl) rfl (by show 2 * 0 + _ ≤ _; exact Nat.le_of_eq rfl) (hb hby d4_9) (fun _ _ => ⟨rfl, e1, (by decide : 1 + 0 ≤ _), (by decide : 2 + 0 ≤ _)⟩)
  dsimp only [Pt.U, Pt.locs, Pt.cells, Pt.slots] at X2 l2 y2 z2 st2 hQ2
  subst l2 y2 z2
  obtain ⟨rfl, N2q, K2q, o2_A_bd⟩ := hQ2
  have N2 := Fr.app N0 N2q
  replace A_ch := A_ch.keep K2q (ninS ne_ch_bd nin0)
  have Z2 := Nat.le_trans Z1 K2q.1
  have K2' := K1.trans K2q (allS (Or.inr sz_bd) all0)
  have A_bd := o2_A_bd
  refine Go.step st2 ?_
  show Go _ _ _ _ _ _ _ (T2.setTop (mkF m 12 #[.val (.ref ch), .val (.int (0 : Int32)), .val (.int (2 : Int32)), .val (.ref bd), .unset, .unset] [(.int (2 : Int32))]))
  refine Go.step (fun t k => XS.istore X2.here hx rfl (hb hby d4_12) rfl (l' := #[.val (.ref ch), .val (.int (0 : Int32)), .val (.int (2 : Int32)), .val (.ref bd), .val (.int (2 : Int32)), .unset]) rfl k) ?_
  show Go _ _ _ _ _ _ _ (T2.setTop (mkF m 14 #[.val (.ref ch), .val (.int (0 : Int32)), .val (.int (2 : Int32)), .val (.ref bd), .val (.int (2 : Int32)), .unset] []))
  refine Go.step (fun t k => XS.iload X2.here hx rfl (hb hby d4_14) rfl k) ?_
  show Go _ _ _ _ _ _ _ (T2.setTop (mkF m 16 #[.val (.ref ch), .val (.int (0 : Int32)), .val (.int (2 : Int32)), .val (.ref bd), .val (.int (2 : Int32)), .unset] [(.int (2 : Int32))]))
  refine Go.step (fun t k => XS.iloadN X2.here hx rfl (hb hby d4_16) rfl k) ?_
  show Go _ _ _ _ _ _ _ (T2.setTop (mkF m 17 #[.val (.ref ch), .val (.int (0 : Int32)), .val (.int (2 : Int32)), .val (.ref bd), .val (.int (2 : Int32)), .unset] [(.int (2 : Int32)), (.int (2 : Int32))]))
  refine Go.step (fun t k => XS.icmpYes X2.here hx rfl (pc0 := 17) (pc' := 57) rfl (hb hby d4_17) rfl (teq (by decide : (2 : Int32) = (2 : Int32))).1 (by decide) (by decide) k) ?_
  show Go _ _ _ _ _ _ _ (T2.setTop (mkF m 57 #[.val (.ref ch), .val (.int (0 : Int32)), .val (.int (2 : Int32)), .val (.ref bd), .val (.int (2 : Int32)), .unset] []))
  refine Go.step (fun t k => XS.aloadN X2.here hx rfl (hb hby d4_57) rfl rfl k) ?_
  show Go _ _ _ _ _ _ _ (T2.setTop (mkF m 58 #[.val (.ref ch), .val (.int (0 : Int32)), .val (.int (2 : Int32)), .val (.ref bd), .val (.int (2 : Int32)), .unset] [(.ref bd)]))
  refine Go.retA X2 Bd.notSynchronized hx Bd.returns rfl rfl rfl (hb hby d4_58) (by decide) (by decide) ?_
  exact ⟨bd, rfl, N2, K2', sz_bd, A_bd⟩
theorem d6_0 : decode jdk_52_method_15_code 0 = .ok (.iload_n 1, 1) := by decide +kernel
theorem d6_1 : decode jdk_52_method_15_code 1 = .ok (.aload_n 0, 1) := by decide +kernel
theorem d6_2 : decode jdk_52_method_15_code 2 = .ok (.arraylength, 1) := by decide +kernel
theorem d6_3 : decode jdk_52_method_15_code 3 = .ok (.isub, 1) := by decide +kernel
theorem d6_4 : decode jdk_52_method_15_code 4 = .ok (.bipush 31, 2) := by decide +kernel
theorem d6_6 : decode jdk_52_method_15_code 6 = .ok (.iushr, 1) := by decide +kernel
theorem d6_7 : decode jdk_52_method_15_code 7 = .ok (.i2b, 1) := by decide +kernel
theorem d6_8 : decode jdk_52_method_15_code 8 = .ok (.ireturn, 1) := by decide +kernel
theorem pn_6 : plainName "java/lang/StringUTF16" = true := by first | (simp [plainName, overriddenIn]; done) | decide +kernel
theorem ef_6 (m : MethodId) (x0 : Addr) : entryFrame m #[(.ref x0), (.int (2 : Int32))] 2 = mkF m 0 #[.val (.ref x0), .val (.int (2 : Int32))] [] := by first | (simp [entryFrame, mkF, argsToLocals, Value.category]; done) | rfl
def Q6 (Z : State) (bd : Addr) (gb : Nat → Int32) (h0 : Heap) (n0 : Nat) (v : Option Value) (h : Heap) (L : List Loc) : Prop := v = some (.int (0 : Int32)) ∧ Fr n0 L ∧ h = h0
set_option maxRecDepth 65536 in
set_option maxHeartbeats 40000000 in
theorem rm6 (l : Launch) (Z : State) (a0 : Array Value) (hw : ∀ d ∈ tables_1, d.before a0 Z = true) (ws : List Jvm.Cond) (bd : Addr) (gb : Nat → Int32) (h0 : Heap) (n0 : Nat) (Z0 : n0 ≤ h0.size) (A_bd : AryI Z h0 bd .byte 2 gb) :
    MetFree l (⟨"java/lang/StringUTF16", "coderFromArrayLen", "([BI)B"⟩ : MethodName) (head1 (Jvm.Cond.code (⟨"java/lang/StringUTF16", "coderFromArrayLen", "([BI)B"⟩ : MethodName) jdk_52_method_15_code 2 (some .byte) :: ws) ({ frames := 0, cells := 0, slots := 0, locals := 0 } : Room)) (fun a U => a = #[(.ref bd), (.int (2 : Int32))] ∧ Z.Warmed39 U.vm ∧ U.heap = h0) (fun _ _ _ _ _ => True) (fun _ U o U' => ∃ v L, o = .returned v ∧ Q6 Z bd gb h0 n0 v U'.heap L ∧ FrameEnd U o U' L ({ frames := 0, cells := 0, slots := 0, locals := 0 } : Room).cells ({ frames := 0, cells := 0, slots := 0, locals := 0 } : Room).slots) := by
  refine MetFree.of_bodySF (plainFor_of_name pn_6) hisR ?_
  intro p e s m args below meth c s₁ Bd hml0 hP hK
  obtain ⟨rfl, hZ, hh⟩ := hP
  have hx := Bd.exec
  have hby := Bd.bytes
  have hml : c.maxLocals = 2 := hml0
  have hown : s.vm.findClass "java/lang/StringUTF16" = some m.cls := findClass_of_methodNamed Bd.named
  have hnm := (name_of_methodNamed Bd.named Bd.method).1
  have X0 : Stand p l e ({ frames := 0, cells := 0, slots := 0, locals := 0 } : Room) s m #[(.ref bd), (.int (2 : Int32))] below meth c s₁ [] 0 0 := Stand.of_body Bd
  have e0 : s₁.heap = h0 := by rw [← hh, Bd.state]; rfl
  have N0 := Fr.nil n0
  show Go p e below s (Q6 Z bd gb h0 n0) ({ frames := 0, cells := 0, slots := 0, locals := 0 } : Room).cells ({ frames := 0, cells := 0, slots := 0, locals := 0 } : Room).slots (s₁.setTop (entryFrame m #[(.ref bd), (.int (2 : Int32))] 2))
  rw [ef_6]
  show Go _ _ _ _ _ _ _ (s₁.setTop (mkF m 0 #[.val (.ref bd), .val (.int (2 : Int32))] []))
  refine Go.step (fun t k => XS.iloadN X0.here hx rfl (hb hby d6_0) rfl k) ?_
  show Go _ _ _ _ _ _ _ (s₁.setTop (mkF m 1 #[.val (.ref bd), .val (.int (2 : Int32))] [(.int (2 : Int32))]))
  refine Go.step (fun t k => XS.aloadN X0.here hx rfl (hb hby d6_1) rfl rfl k) ?_
  show Go _ _ _ _ _ _ _ (s₁.setTop (mkF m 2 #[.val (.ref bd), .val (.int (2 : Int32))] [(.ref bd), (.int (2 : Int32))]))
  refine Go.step (own_len X0 hx hZ e0 A_bd (z := (2 : Int32)) rfl (f := (mkF m 2 #[.val (.ref bd), .val (.int (2 : Int32))] [(.ref bd), (.int (2 : Int32))])) rfl rfl (hb hby d6_2)) ?_
  show Go _ _ _ _ _ _ _ (s₁.setTop (mkF m 3 #[.val (.ref bd), .val (.int (2 : Int32))] [(.int (2 : Int32)), (.int (2 : Int32))]))
  refine Go.step (fun t k => XS.isub X0.here hx rfl (hb hby d6_3) rfl k) ?_
  show Go _ _ _ _ _ _ _ (s₁.setTop (mkF m 4 #[.val (.ref bd), .val (.int (2 : Int32))] [(.int (0 : Int32))]))
  refine Go.step (fun t k => XS.bipush X0.here hx rfl (hb hby d6_4) k) ?_
  show Go _ _ _ _ _ _ _ (s₁.setTop (mkF m 6 #[.val (.ref bd), .val (.int (2 : Int32))] [(.int (31 : Int32)), (.int (0 : Int32))]))
  refine Go.step (fun t k => XS.iushr X0.here hx rfl (hb hby d6_6) rfl k) ?_
  show Go _ _ _ _ _ _ _ (s₁.setTop (mkF m 7 #[.val (.ref bd), .val (.int (2 : Int32))] [(.int (0 : Int32))]))
  refine Go.step (fun t k => XS.i2b X0.here hx rfl (hb hby d6_7) rfl k) ?_
  show Go _ _ _ _ _ _ _ (s₁.setTop (mkF m 8 #[.val (.ref bd), .val (.int (2 : Int32))] [(.int (0 : Int32))]))
  refine Go.retN X0 Bd.notSynchronized hx (t := .byte) Bd.returns (by simp) (hb hby d6_8) (by decide) (by decide) (0 : Int32) rfl ?_
  rw [e0]
  exact ⟨rfl, N0, rfl⟩
theorem d2_0 : decode jdk_42_method_149_code 0 = .ok (.aload_n 0, 1) := by decide +kernel
theorem d2_1 : decode jdk_42_method_149_code 1 = .ok (.invokespecial 1, 3) := by decide +kernel
theorem d2_4 : decode jdk_42_method_149_code 4 = .ok (.iload_n 3, 1) := by decide +kernel
theorem d2_5 : decode jdk_42_method_149_code 5 = .ok (.ifCond .ne 22, 3) := by decide +kernel
theorem d2_27 : decode jdk_42_method_149_code 27 = .ok (.getstatic 38, 3) := by decide +kernel
theorem d2_30 : decode jdk_42_method_149_code 30 = .ok (.ifCond .eq 28, 3) := by decide +kernel
theorem d2_33 : decode jdk_42_method_149_code 33 = .ok (.aload_n 1, 1) := by decide +kernel
theorem d2_34 : decode jdk_42_method_149_code 34 = .ok (.iload_n 2, 1) := by decide +kernel
theorem d2_35 : decode jdk_42_method_149_code 35 = .ok (.iload_n 3, 1) := by decide +kernel
theorem d2_36 : decode jdk_42_method_149_code 36 = .ok (.invokestatic 177, 3) := by decide +kernel
theorem d2_39 : decode jdk_42_method_149_code 39 = .ok (.astore 5, 2) := by decide +kernel
theorem d2_41 : decode jdk_42_method_149_code 41 = .ok (.aload_n 0, 1) := by decide +kernel
theorem d2_42 : decode jdk_42_method_149_code 42 = .ok (.aload 5, 2) := by decide +kernel
theorem d2_44 : decode jdk_42_method_149_code 44 = .ok (.iload_n 3, 1) := by decide +kernel
theorem d2_45 : decode jdk_42_method_149_code 45 = .ok (.invokestatic 47, 3) := by decide +kernel
theorem d2_48 : decode jdk_42_method_149_code 48 = .ok (.putfield 15, 3) := by decide +kernel
theorem d2_51 : decode jdk_42_method_149_code 51 = .ok (.aload_n 0, 1) := by decide +kernel
theorem d2_52 : decode jdk_42_method_149_code 52 = .ok (.aload 5, 2) := by decide +kernel
theorem d2_54 : decode jdk_42_method_149_code 54 = .ok (.putfield 9, 3) := by decide +kernel
theorem d2_57 : decode jdk_42_method_149_code 57 = .ok (.return_, 1) := by decide +kernel
theorem pn_2_4 : plainName "java/lang/String" = true := by first | (simp [plainName, overriddenIn]; done) | decide +kernel
theorem pd_2_0_4 : parseMethodDescriptor "([CII)[B" = some ⟨[(.array .char), .int, .int], some (.array .byte)⟩ := by decide +kernel
theorem pd_2_1_4 : parseMethodDescriptor "([BI)B" = some ⟨[(.array .byte), .int], some .byte⟩ := by decide +kernel
theorem ef_2_4 (m : MethodId) (x0 : Addr) (x1 : Addr) : entryFrame m #[(.ref x0), (.ref x1), (.int (0 : Int32)), (.int (2 : Int32)), .null] 6 = mkF m 0 #[.val (.ref x0), .val (.ref x1), .val (.int (0 : Int32)), .val (.int (2 : Int32)), .val .null, .unset] [] := by first | (simp [entryFrame, mkF, argsToLocals, Value.category]; done) | rfl
def Q2_4 (Z : State) (aa : Addr) (ch : Addr) (cs : Int32) (gc : Nat → Int32) (h0 : Heap) (n0 : Nat) (v : Option Value) (h : Heap) (L : List Loc) : Prop := ∃ bd : Addr, v = none ∧ Fr n0 L ∧ Keep h0 h [aa] ∧ h0.size ≤ bd ∧ Fld Z h aa "java/lang/String" "value" "[B" (.ref bd) ∧ Fld Z h aa "java/lang/String" "coder" "B" (.int (0 : Int32)) ∧ AryI Z h bd .byte 2 (up (up (fun _ => (0 : Int32)) 0 (nar .byte ((gc 0).toInt8.toInt32))) 1 (nar .byte ((gc 1).toInt8.toInt32)))
set_option maxRecDepth 65536 in
set_option maxHeartbeats 40000000 in
theorem rm2_4 (l : Launch) (Z : State) (a0 : Array Value) (hw : ∀ d ∈ tables_1, d.before a0 Z = true) (ws : List Jvm.Cond) (aa : Addr) (ch : Addr) (cs : Int32) (gc : Nat → Int32) (h0 : Heap) (n0 : Nat) (Z0 : n0 ≤ h0.size) (old : Old Z n0 h0) (hcs : (Sta Z Z.heap "java/lang/String" "COMPACT_STRINGS" "Z" (.int cs))) (hc0 : (¬ cs = (0 : Int32))) (F_value_aa : Fld Z h0 aa "java/lang/String" "value" "[B" .null) (F_coder_aa : Fld Z h0 aa "java/lang/String" "coder" "B" (.int (0 : Int32))) (E_aa : Exa Z h0 aa "java/lang/String") (g_aa : n0 ≤ aa) (A_ch : AryI Z h0 ch .char 2 gc) (hg0 : (¬ (255 : Int32) < (gc 0))) (hg1 : (¬ (255 : Int32) < (gc 1))) :
    MetFree l (⟨"java/lang/String", "<init>", "([CIILjava/lang/Void;)V"⟩ : MethodName) (head1 (Jvm.Cond.code (⟨"java/lang/String", "<init>", "([CIILjava/lang/Void;)V"⟩ : MethodName) jdk_42_method_149_code 6 none :: ws) ({ frames := 2, cells := 1, slots := 2, locals := 35 } : Room)) (fun a U => a = #[(.ref aa), (.ref ch), (.int (0 : Int32)), (.int (2 : Int32)), .null] ∧ Z.Warmed39 U.vm ∧ U.heap = h0) (fun _ _ _ _ _ => True) (fun _ U o U' => ∃ v L, o = .returned v ∧ Q2_4 Z aa ch cs gc h0 n0 v U'.heap L ∧ FrameEnd U o U' L ({ frames := 2, cells := 1, slots := 2, locals := 35 } : Room).cells ({ frames := 2, cells := 1, slots := 2, locals := 35 } : Room).slots) := by
  refine MetFree.of_bodySF (plainFor_of_name pn_2_4) hisR ?_
  intro p e s m args below meth c s₁ Bd hml0 hP hK
  obtain ⟨rfl, hZ, hh⟩ := hP
  have hx := Bd.exec
  have hby := Bd.bytes
  have hml : c.maxLocals = 6 := hml0
  have hown : s.vm.findClass "java/lang/String" = some m.cls := findClass_of_methodNamed Bd.named
  have hnm := (name_of_methodNamed Bd.named Bd.method).1
  have X0 : Stand p l e ({ frames := 2, cells := 1, slots := 2, locals := 35 } : Room) s m #[(.ref aa), (.ref ch), (.int (0 : Int32)), (.int (2 : Int32)), .null] below meth c s₁ [] 0 0 := Stand.of_body Bd
  have e0 : s₁.heap = h0 := by rw [← hh, Bd.state]; rfl
  have N0 := Fr.nil n0
  have K0 := Keep.refl h0 ([aa] : List Addr)
  show Go p e below s (Q2_4 Z aa ch cs gc h0 n0) ({ frames := 2, cells := 1, slots := 2, locals := 35 } : Room).cells ({ frames := 2, cells := 1, slots := 2, locals := 35 } : Room).slots (s₁.setTop (entryFrame m #[(.ref aa), (.ref ch), (.int (0 : Int32)), (.int (2 : Int32)), .null] 6))
  rw [ef_2_4]
  show Go _ _ _ _ _ _ _ (s₁.setTop (mkF m 0 #[.val (.ref aa), .val (.ref ch), .val (.int (0 : Int32)), .val (.int (2 : Int32)), .val .null, .unset] []))
  have S_CS := Sta.ext old.2 hcs
  refine Go.step (fun t k => XS.aloadN X0.here hx rfl (hb hby d2_0) rfl rfl k) ?_
  show Go _ _ _ _ _ _ _ (s₁.setTop (mkF m 1 #[.val (.ref aa), .val (.ref ch), .val (.int (0 : Int32)), .val (.int (2 : Int32)), .val .null, .unset] [(.ref aa)]))
  obtain ⟨T1, X1, e1, st1⟩ := initO X0 hx hZ hown (hw _ (List.mem_of_getElem? (i := 12) rfl)) (hw _ (List.mem_of_getElem? (i := 13) rfl)) (hw _ (List.mem_of_getElem? (i := 14) rfl)) e0 (g := (mkF m 1 #[.val (.ref aa), .val (.ref ch), .val (.int (0 : Int32)), .val (.int (2 : Int32)), .val .null, .unset] [(.ref aa)])) rfl (by rw [hml]; rfl) rfl (hb hby d2_1) (by decide) (W := 0) (by show 2 * 0 + _ ≤ _; exact Nat.le_of_eq rfl) (by decide)
  refine Go.step st1 ?_
  show Go _ _ _ _ _ _ _ (T1.setTop (mkF m 4 #[.val (.ref aa), .val (.ref ch), .val (.int (0 : Int32)), .val (.int (2 : Int32)), .val .null, .unset] []))
  refine Go.step (fun t k => XS.iloadN X1.here hx rfl (hb hby d2_4) rfl k) ?_
  show Go _ _ _ _ _ _ _ (T1.setTop (mkF m 5 #[.val (.ref aa), .val (.ref ch), .val (.int (0 : Int32)), .val (.int (2 : Int32)), .val .null, .unset] [(.int (2 : Int32))]))
  refine Go.step (fun t k => XS.ifYes X1.here hx rfl (pc0 := 5) (pc' := 27) rfl (hb hby d2_5) rfl ((if0 _ _).trans (feq (by decide : ¬ (2 : Int32) = (0 : Int32))).2) (by decide) (by decide) k) ?_
  show Go _ _ _ _ _ _ _ (T1.setTop (mkF m 27 #[.val (.ref aa), .val (.ref ch), .val (.int (0 : Int32)), .val (.int (2 : Int32)), .val .null, .unset] []))
  obtain ⟨T2, X2, e2, st2⟩ := getS2 X1 hx hZ hown (host := "") (Or.inl (hw _ (List.mem_of_getElem? (i := 15) rfl))) Via.refl e1 S_CS (g := (mkF m 27 #[.val (.ref aa), .val (.ref ch), .val (.int (0 : Int32)), .val (.int (2 : Int32)), .val .null, .unset] [])) rfl (hb hby d2_27)
  refine Go.step st2 ?_
  show Go _ _ _ _ _ _ _ (T2.setTop (mkF m 30 #[.val (.ref aa), .val (.ref ch), .val (.int (0 : Int32)), .val (.int (2 : Int32)), .val .null, .unset] [(.int cs)]))
  refine Go.step (fun t k => XS.ifNo X2.here hx rfl (hb hby d2_30) rfl ((if0 _ _).trans (feq (hc0 : ¬ cs = (0 : Int32))).1) k) ?_
  show Go _ _ _ _ _ _ _ (T2.setTop (mkF m 33 #[.val (.ref aa), .val (.ref ch), .val (.int (0 : Int32)), .val (.int (2 : Int32)), .val .null, .unset] []))
  refine Go.step (fun t k => XS.aloadN X2.here hx rfl (hb hby d2_33) rfl rfl k) ?_
  show Go _ _ _ _ _ _ _ (T2.setTop (mkF m 34 #[.val (.ref aa), .val (.ref ch), .val (.int (0 : Int32)), .val (.int (2 : Int32)), .val .null, .unset] [(.ref ch)]))
  refine Go.step (fun t k => XS.iloadN X2.here hx rfl (hb hby d2_34) rfl k) ?_
  show Go _ _ _ _ _ _ _ (T2.setTop (mkF m 35 #[.val (.ref aa), .val (.ref ch), .val (.int (0 : Int32)), .val (.int (2 : Int32)), .val .null, .unset] [(.int (0 : Int32)), (.ref ch)]))
  refine Go.step (fun t k => XS.iloadN X2.here hx rfl (hb hby d2_35) rfl k) ?_
  show Go _ _ _ _ _ _ _ (T2.setTop (mkF m 36 #[.val (.ref aa), .val (.ref ch), .val (.int (0 : Int32)), .val (.int (2 : Int32)), .val .null, .unset] [(.int (2 : Int32)), (.int (0 : Int32)), (.ref ch)]))
  obtain ⟨_, _, ⟨T3, L3, k3, n3⟩, -, X3, ⟨Lc3, hQ3, l3, y3, z3⟩, st3⟩ := Jvm.LawKit.callS X2 hx (y := (⟨"java/lang/StringUTF16", "compress", "([CII)[B"⟩ : MethodName)) hown (mvT hZ (hw _ (List.mem_of_getElem? (i := 16) rfl))) (mvT hZ (hw _ (List.mem_of_getElem? (i := 17) rfl))) (mvT hZ (hw _ (List.mem_of_getElem? (i := 18) rfl))) (mvT hZ (hw _ (List.mem_of_getElem? (i := 19) rfl))) (by decide) (backOf (W := 0) (rm4 l Z a0 hw [] ch gc h0 n0 Z0 A_ch hg0 hg1) hZ (hw _ (List.mem_of_getElem? (i := 19) rfl)) (hw _ (List.mem_of_getElem? (i := 18) rfl)) (by decide) (by decide)) (g := (mkF m 36 #[.val (.ref aa), .val (.ref ch), .val (.int (0 : Int32)), .val (.int (2 : Int32)), .val .null, .unset] [(.int (2 : Int32)), (.int (0 : Int32)), (.ref ch)])) rfl (by rw [hml]; rfl) (argsL := [(.ref ch), (.int (0 : Int32)), (.int (2 : Int32))]) (rest := []) (lenOf pd_2_0_4 rfl) rfl (by show 2 * 0 + _ ≤ _; exact Nat.le_of_eq rfl) (hb hby d2_36) (fun _ _ => ⟨rfl, e2, (by decide : 0 + 1 ≤ _), (by decide : 0 + 2 ≤ _)⟩)
  dsimp only [Pt.U, Pt.locs, Pt.cells, Pt.slots] at X3 l3 y3 z3 st3 hQ3
  subst l3 y3 z3
  obtain ⟨bd, rfl, N3q, K3q, o3_nw_bd, o3_A_bd⟩ := hQ3
  have N3 := Fr.app N0 N3q
  have ne_aa_bd : aa ≠ bd := Nat.ne_of_lt (Nat.lt_of_lt_of_le F_value_aa.lt o3_nw_bd)
  have ne_ch_bd : ch ≠ bd := Nat.ne_of_lt (Nat.lt_of_lt_of_le A_ch.lt o3_nw_bd)
  have g_bd : n0 ≤ bd := Nat.le_trans Z0 o3_nw_bd
  have sz_bd : h0.size ≤ bd := Nat.le_trans K0.1 o3_nw_bd
  replace old := Old.keep old K3q all0
  replace F_value_aa := F_value_aa.keep K3q nin0
  replace F_coder_aa := F_coder_aa.keep K3q nin0
  replace E_aa := E_aa.keep K3q
  replace A_ch := A_ch.keep K3q nin0
  have Z3 := Nat.le_trans Z0 K3q.1
  have K3' := K0.trans K3q all0
  have A_bd := o3_A_bd
  refine Go.step st3 ?_
  show Go _ _ _ _ _ _ _ (T3.setTop (mkF m 39 #[.val (.ref aa), .val (.ref ch), .val (.int (0 : Int32)), .val (.int (2 : Int32)), .val .null, .unset] [(.ref bd)]))
  refine Go.step (fun t k => XS.astore X3.here hx rfl (hb hby d2_39) rfl rfl (l' := #[.val (.ref aa), .val (.ref ch), .val (.int (0 : Int32)), .val (.int (2 : Int32)), .val .null, .val (.ref bd)]) rfl k) ?_
  show Go _ _ _ _ _ _ _ (T3.setTop (mkF m 41 #[.val (.ref aa), .val (.ref ch), .val (.int (0 : Int32)), .val (.int (2 : Int32)), .val .null, .val (.ref bd)] []))
  refine Go.step (fun t k => XS.aloadN X3.here hx rfl (hb hby d2_41) rfl rfl k) ?_
  show Go _ _ _ _ _ _ _ (T3.setTop (mkF m 42 #[.val (.ref aa), .val (.ref ch), .val (.int (0 : Int32)), .val (.int (2 : Int32)), .val .null, .val (.ref bd)] [(.ref aa)]))
  refine Go.step (fun t k => XS.aload X3.here hx rfl (hb hby d2_42) rfl rfl k) ?_
  show Go _ _ _ _ _ _ _ (T3.setTop (mkF m 44 #[.val (.ref aa), .val (.ref ch), .val (.int (0 : Int32)), .val (.int (2 : Int32)), .val .null, .val (.ref bd)] [(.ref bd), (.ref aa)]))
  refine Go.step (fun t k => XS.iloadN X3.here hx rfl (hb hby d2_44) rfl k) ?_
  show Go _ _ _ _ _ _ _ (T3.setTop (mkF m 45 #[.val (.ref aa), .val (.ref ch), .val (.int (0 : Int32)), .val (.int (2 : Int32)), .val .null, .val (.ref bd)] [(.int (2 : Int32)), (.ref bd), (.ref aa)]))
  obtain ⟨_, _, ⟨T4, L4, k4, n4⟩, -, X4, ⟨Lc4, hQ4, l4, y4, z4⟩, st4⟩ := Jvm.LawKit.callS X3 hx (y := (⟨"java/lang/StringUTF16", "coderFromArrayLen", "([BI)B"⟩ : MethodName)) hown (mvT hZ (hw _ (List.mem_of_getElem? (i := 24) rfl))) (mvT hZ (hw _ (List.mem_of_getElem? (i := 25) rfl))) (mvT hZ (hw _ (List.mem_of_getElem? (i := 18) rfl))) (mvT hZ (hw _ (List.mem_of_getElem? (i := 26) rfl))) (by decide) (backOf (W := 1) (rm6 l Z a0 hw [] bd (up (up (fun _ => (0 : Int32)) 0 (nar .byte ((gc 0).toInt8.toInt32))) 1 (nar .byte ((gc 1).toInt8.toInt32))) T3.heap n0 Z3 A_bd) hZ (hw _ (List.mem_of_getElem? (i := 26) rfl)) (hw _ (List.mem_of_getElem? (i := 18) rfl)) (by decide) (by decide)) (g := (mkF m 45 #[.val (.ref aa), .val (.ref ch), .val (.int (0 : Int32)), .val (.int (2 : Int32)), .val .null, .val (.ref bd)] [(.int (2 : Int32)), (.ref bd), (.ref aa)])) rfl (by rw [hml]; rfl) (argsL := [(.ref bd), (.int (2 : Int32))]) (rest := [(.ref aa)]) (lenOf pd_2_1_4 rfl) rfl (by show 2 * 0 + _ ≤ _; exact Nat.le_of_eq rfl) (hb hby d2_45) (fun _ _ => ⟨rfl, rfl, (by decide : 1 + 0 ≤ _), (by decide : 2 + 0 ≤ _)⟩)
  dsimp only [Pt.U, Pt.locs, Pt.cells, Pt.slots] at X4 l4 y4 z4 st4 hQ4
  subst l4 y4 z4
  obtain ⟨rfl, N4q, K4q⟩ := hQ4
  have N4 := Fr.app N3 N4q
  refine Go.step st4 ?_
  show Go _ _ _ _ _ _ _ (T4.setTop (mkF m 48 #[.val (.ref aa), .val (.ref ch), .val (.int (0 : Int32)), .val (.int (2 : Int32)), .val .null, .val (.ref bd)] [(.int (0 : Int32)), (.ref aa)]))
  obtain ⟨T5, h5, X5, e5, W5, st5⟩ := putFN X4 hx hZ hown (hw _ (List.mem_of_getElem? (i := 27) rfl)) Via.refl K4q F_coder_aa E_aa (Or.inr ⟨(hw _ (List.mem_of_getElem? (i := 28) rfl)), rfl, hnm⟩) (hw _ (List.mem_of_getElem? (i := 3) rfl)) (ty := .byte) (v' := (.int (0 : Int32))) (by decide) rfl rfl (g := (mkF m 48 #[.val (.ref aa), .val (.ref ch), .val (.int (0 : Int32)), .val (.int (2 : Int32)), .val .null, .val (.ref bd)] [(.int (0 : Int32)), (.ref aa)])) rfl rfl (hb hby d2_48)
  have ne_ch_aa : ch ≠ aa := (Ne.symm (own_neA E_aa (hw _ (List.mem_of_getElem? (i := 3) rfl)) A_ch))
  replace old := Old.wr old W5 g_aa
  replace F_value_aa := F_value_aa.other W5 (Or.inr (slot_ne (Or.inr (hw _ (List.mem_of_getElem? (i := 30) rfl))) (Or.inr (hw _ (List.mem_of_getElem? (i := 28) rfl))) (by decide) (t := (.array .byte)) (t' := .byte) (by decide) (by decide)))
  replace E_aa := E_aa.wr W5
  replace A_ch := A_ch.other W5 ne_ch_aa
  replace A_bd := A_bd.other W5 (Ne.symm ne_aa_bd)
  have Z5 := Nat.le_trans Z3 (Keep.of_wr W5).1
  have N5 := Fr.snoc X5 N4 g_aa
  have K5 := K3'.wr W5 (Or.inl (List.mem_of_getElem? (i := 0) rfl))
  replace F_coder_aa := F_coder_aa.same W5
  refine Go.step st5 ?_
  show Go _ _ _ _ _ _ _ (T5.setTop (mkF m 51 #[.val (.ref aa), .val (.ref ch), .val (.int (0 : Int32)), .val (.int (2 : Int32)), .val .null, .val (.ref bd)] []))
  refine Go.step (fun t k => XS.aloadN X5.here hx rfl (hb hby d2_51) rfl rfl k) ?_
  show Go _ _ _ _ _ _ _ (T5.setTop (mkF m 52 #[.val (.ref aa), .val (.ref ch), .val (.int (0 : Int32)), .val (.int (2 : Int32)), .val .null, .val (.ref bd)] [(.ref aa)]))
  refine Go.step (fun t k => XS.aload X5.here hx rfl (hb hby d2_52) rfl rfl k) ?_
  show Go _ _ _ _ _ _ _ (T5.setTop (mkF m 54 #[.val (.ref aa), .val (.ref ch), .val (.int (0 : Int32)), .val (.int (2 : Int32)), .val .null, .val (.ref bd)] [(.ref bd), (.ref aa)]))
  obtain ⟨T6, h6, X6, e6, W6, st6⟩ := putF X5 hx hZ hown (host := "") (Or.inl (hw _ (List.mem_of_getElem? (i := 29) rfl))) Via.refl e5 F_value_aa E_aa (Or.inr ⟨(hw _ (List.mem_of_getElem? (i := 30) rfl)), rfl, hnm⟩) (hw _ (List.mem_of_getElem? (i := 3) rfl)) (ty := (.array .byte)) (by decide) rfl rfl (g := (mkF m 54 #[.val (.ref aa), .val (.ref ch), .val (.int (0 : Int32)), .val (.int (2 : Int32)), .val .null, .val (.ref bd)] [(.ref bd), (.ref aa)])) rfl rfl (hb hby d2_54)
  replace old := Old.wr old W6 g_aa
  replace F_coder_aa := F_coder_aa.other W6 (Or.inr (slot_ne (Or.inr (hw _ (List.mem_of_getElem? (i := 28) rfl))) (Or.inr (hw _ (List.mem_of_getElem? (i := 30) rfl))) (by decide) (t := .byte) (t' := (.array .byte)) (by decide) (by decide)))
  replace E_aa := E_aa.wr W6
  replace A_ch := A_ch.other W6 ne_ch_aa
  replace A_bd := A_bd.other W6 (Ne.symm ne_aa_bd)
  have Z6 := Nat.le_trans Z5 (Keep.of_wr W6).1
  have N6 := Fr.snoc X6 N5 g_aa
  have K6 := K5.wr W6 (Or.inl (List.mem_of_getElem? (i := 0) rfl))
  replace F_value_aa := F_value_aa.same W6
  refine Go.step st6 ?_
  show Go _ _ _ _ _ _ _ (T6.setTop (mkF m 57 #[.val (.ref aa), .val (.ref ch), .val (.int (0 : Int32)), .val (.int (2 : Int32)), .val .null, .val (.ref bd)] []))
  refine Go.retV X6 Bd.notSynchronized hx Bd.returns (hb hby d2_57) (by decide) (by decide) ?_
  rw [e6]
  exact ⟨bd, rfl, N6, K6, sz_bd, F_value_aa, F_coder_aa, A_bd⟩
theorem d1_0 : decode jdk_42_method_3_code 0 = .ok (.aload_n 0, 1) := by decide +kernel
theorem d1_1 : decode jdk_42_method_3_code 1 = .ok (.aload_n 1, 1) := by decide +kernel
theorem d1_2 : decode jdk_42_method_3_code 2 = .ok (.iconst 0, 1) := by decide +kernel
theorem d1_3 : decode jdk_42_method_3_code 3 = .ok (.aload_n 1, 1) := by decide +kernel
theorem d1_4 : decode jdk_42_method_3_code 4 = .ok (.arraylength, 1) := by decide +kernel
theorem d1_5 : decode jdk_42_method_3_code 5 = .ok (.aconst_null, 1) := by decide +kernel
theorem d1_6 : decode jdk_42_method_3_code 6 = .ok (.invokespecial 27, 3) := by decide +kernel
theorem d1_9 : decode jdk_42_method_3_code 9 = .ok (.return_, 1) := by decide +kernel
theorem pn_1_1 : plainName "java/lang/String" = true := by first | (simp [plainName, overriddenIn]; done) | decide +kernel
theorem pd_1_0_1 : parseMethodDescriptor "([CIILjava/lang/Void;)V" = some ⟨[(.array .char), .int, .int, (.object "java/lang/Void")], none⟩ := by decide +kernel
theorem ef_1_1 (m : MethodId) (x0 : Addr) (x1 : Addr) : entryFrame m #[(.ref x0), (.ref x1)] 2 = mkF m 0 #[.val (.ref x0), .val (.ref x1)] [] := by first | (simp [entryFrame, mkF, argsToLocals, Value.category]; done) | rfl
def Q1_1 (Z : State) (aa : Addr) (ch : Addr) (cs : Int32) (gc : Nat → Int32) (h0 : Heap) (n0 : Nat) (v : Option Value) (h : Heap) (L : List Loc) : Prop := ∃ bd : Addr, v = none ∧ Fr n0 L ∧ Keep h0 h [aa] ∧ h0.size ≤ bd ∧ Fld Z h aa "java/lang/String" "value" "[B" (.ref bd) ∧ Fld Z h aa "java/lang/String" "coder" "B" (.int (0 : Int32)) ∧ AryI Z h bd .byte 2 (up (up (fun _ => (0 : Int32)) 0 (nar .byte ((gc 0).toInt8.toInt32))) 1 (nar .byte ((gc 1).toInt8.toInt32)))
set_option maxRecDepth 65536 in
set_option maxHeartbeats 40000000 in
theorem rm1_1 (l : Launch) (Z : State) (a0 : Array Value) (hw : ∀ d ∈ tables_1, d.before a0 Z = true) (ws : List Jvm.Cond) (aa : Addr) (ch : Addr) (cs : Int32) (gc : Nat → Int32) (h0 : Heap) (n0 : Nat) (Z0 : n0 ≤ h0.size) (old : Old Z n0 h0) (hcs : (Sta Z Z.heap "java/lang/String" "COMPACT_STRINGS" "Z" (.int cs))) (hc0 : (¬ cs = (0 : Int32))) (F_value_aa : Fld Z h0 aa "java/lang/String" "value" "[B" .null) (F_coder_aa : Fld Z h0 aa "java/lang/String" "coder" "B" (.int (0 : Int32))) (E_aa : Exa Z h0 aa "java/lang/String") (g_aa : n0 ≤ aa) (A_ch : AryI Z h0 ch .char 2 gc) (hg0 : (¬ (255 : Int32) < (gc 0))) (hg1 : (¬ (255 : Int32) < (gc 1))) :
    MetFree l (⟨"java/lang/String", "<init>", "([C)V"⟩ : MethodName) (head1 (Jvm.Cond.code (⟨"java/lang/String", "<init>", "([C)V"⟩ : MethodName) jdk_42_method_3_code 2 none :: ws) ({ frames := 3, cells := 1, slots := 2, locals := 52 } : Room)) (fun a U => a = #[(.ref aa), (.ref ch)] ∧ Z.Warmed39 U.vm ∧ U.heap = h0) (fun _ _ _ _ _ => True) (fun _ U o U' => ∃ v L, o = .returned v ∧ Q1_1 Z aa ch cs gc h0 n0 v U'.heap L ∧ FrameEnd U o U' L ({ frames := 3, cells := 1, slots := 2, locals := 52 } : Room).cells ({ frames := 3, cells := 1, slots := 2, locals := 52 } : Room).slots) := by
  refine MetFree.of_bodySF (plainFor_of_name pn_1_1) hisR ?_
  intro p e s m args below meth c s₁ Bd hml0 hP hK
  obtain ⟨rfl, hZ, hh⟩ := hP
  have hx := Bd.exec
  have hby := Bd.bytes
  have hml : c.maxLocals = 2 := hml0
  have hown : s.vm.findClass "java/lang/String" = some m.cls := findClass_of_methodNamed Bd.named
  have hnm := (name_of_methodNamed Bd.named Bd.method).1
  have X0 : Stand p l e ({ frames := 3, cells := 1, slots := 2, locals := 52 } : Room) s m #[(.ref aa), (.ref ch)] below meth c s₁ [] 0 0 := Stand.of_body Bd
  have e0 : s₁.heap = h0 := by rw [← hh, Bd.state]; rfl
  have N0 := Fr.nil n0
  have K0 := Keep.refl h0 ([aa] : List Addr)
  show Go p e below s (Q1_1 Z aa ch cs gc h0 n0) ({ frames := 3, cells := 1, slots := 2, locals := 52 } : Room).cells ({ frames := 3, cells := 1, slots := 2, locals := 52 } : Room).slots (s₁.setTop (entryFrame m #[(.ref aa), (.ref ch)] 2))
  rw [ef_1_1]
  show Go _ _ _ _ _ _ _ (s₁.setTop (mkF m 0 #[.val (.ref aa), .val (.ref ch)] []))
  refine Go.step (fun t k => XS.aloadN X0.here hx rfl (hb hby d1_0) rfl rfl k) ?_
  show Go _ _ _ _ _ _ _ (s₁.setTop (mkF m 1 #[.val (.ref aa), .val (.ref ch)] [(.ref aa)]))
  refine Go.step (fun t k => XS.aloadN X0.here hx rfl (hb hby d1_1) rfl rfl k) ?_
  show Go _ _ _ _ _ _ _ (s₁.setTop (mkF m 2 #[.val (.ref aa), .val (.ref ch)] [(.ref ch), (.ref aa)]))
  refine Go.step (fun t k => XS.iconst X0.here hx rfl (hb hby d1_2) k) ?_
  show Go _ _ _ _ _ _ _ (s₁.setTop (mkF m 3 #[.val (.ref aa), .val (.ref ch)] [(.int (0 : Int32)), (.ref ch), (.ref aa)]))
  refine Go.step (fun t k => XS.aloadN X0.here hx rfl (hb hby d1_3) rfl rfl k) ?_
  show Go _ _ _ _ _ _ _ (s₁.setTop (mkF m 4 #[.val (.ref aa), .val (.ref ch)] [(.ref ch), (.int (0 : Int32)), (.ref ch), (.ref aa)]))
  refine Go.step (own_len X0 hx hZ e0 A_ch (z := (2 : Int32)) rfl (f := (mkF m 4 #[.val (.ref aa), .val (.ref ch)] [(.ref ch), (.int (0 : Int32)), (.ref ch), (.ref aa)])) rfl rfl (hb hby d1_4)) ?_
  show Go _ _ _ _ _ _ _ (s₁.setTop (mkF m 5 #[.val (.ref aa), .val (.ref ch)] [(.int (2 : Int32)), (.int (0 : Int32)), (.ref ch), (.ref aa)]))
  refine Go.step (fun t k => XS.aconstNull X0.here hx rfl (hb hby d1_5) k) ?_
  show Go _ _ _ _ _ _ _ (s₁.setTop (mkF m 6 #[.val (.ref aa), .val (.ref ch)] [.null, (.int (2 : Int32)), (.int (0 : Int32)), (.ref ch), (.ref aa)]))
  obtain ⟨_, _, ⟨T2, L2, k2, n2⟩, -, X2, ⟨Lc2, hQ2, l2, y2, z2⟩, st2⟩ := X0.specialBack hx (y := (⟨"java/lang/String", "<init>", "([CIILjava/lang/Void;)V"⟩ : MethodName)) rfl hown (mvT hZ (hw _ (List.mem_of_getElem? (i := 8) rfl))) (mvT hZ (hw _ (List.mem_of_getElem? (i := 9) rfl))) (mvT hZ (hw _ (List.mem_of_getElem? (i := 11) rfl))) (by decide) (backOf (W := 0) (rm2_4 l Z a0 hw [] aa ch cs gc h0 n0 Z0 old hcs hc0 F_value_aa F_coder_aa E_aa g_aa A_ch hg0 hg1) hZ (hw _ (List.mem_of_getElem? (i := 11) rfl)) (hw _ (List.mem_of_getElem? (i := 4) rfl)) (by decide) (by decide)) (g := (mkF m 6 #[.val (.ref aa), .val (.ref ch)] [.null, (.int (2 : Int32)), (.int (0 : Int32)), (.ref ch), (.ref aa)])) rfl (by rw [hml]; rfl) (Steps.refl _) (a := aa) (argsL := [(.ref ch), (.int (0 : Int32)), (.int (2 : Int32)), .null]) (rest := []) (lenOf pd_1_0_1 rfl) rfl (by show 2 * 0 + _ ≤ _; exact Nat.le_of_eq rfl) (hb hby d1_6) (fun _ _ => ⟨rfl, e0, (by decide : 0 + 1 ≤ _), (by decide : 0 + 2 ≤ _)⟩)
  dsimp only [Pt.U, Pt.locs, Pt.cells, Pt.slots] at X2 l2 y2 z2 st2 hQ2
  subst l2 y2 z2
  obtain ⟨bd, rfl, N2q, K2q, o2_nw_bd, o2_F_value_aa, o2_F_coder_aa, o2_A_bd⟩ := hQ2
  have N2 := Fr.app N0 N2q
  have ne_aa_bd : aa ≠ bd := Nat.ne_of_lt (Nat.lt_of_lt_of_le F_value_aa.lt o2_nw_bd)
  have ne_ch_bd : ch ≠ bd := Nat.ne_of_lt (Nat.lt_of_lt_of_le A_ch.lt o2_nw_bd)
  have g_bd : n0 ≤ bd := Nat.le_trans Z0 o2_nw_bd
  have sz_bd : h0.size ≤ bd := Nat.le_trans K0.1 o2_nw_bd
  have ne_ch_aa : ch ≠ aa := (Ne.symm (own_neA E_aa (hw _ (List.mem_of_getElem? (i := 3) rfl)) A_ch))
  replace old := Old.keep old K2q (allS g_aa all0)
  replace E_aa := E_aa.keep K2q
  replace A_ch := A_ch.keep K2q (ninS ne_ch_aa nin0)
  have Z2 := Nat.le_trans Z0 K2q.1
  have K2' := K0.trans K2q (allS (Or.inl (List.mem_of_getElem? (i := 0) rfl)) all0)
  have F_value_aa := o2_F_value_aa
  have F_coder_aa := o2_F_coder_aa
  have A_bd := o2_A_bd
  refine Go.step (fun t k => st2.trans k) ?_
  show Go _ _ _ _ _ _ _ (T2.setTop (mkF m 9 #[.val (.ref aa), .val (.ref ch)] []))
  refine Go.retV X2 Bd.notSynchronized hx Bd.returns (hb hby d1_9) (by decide) (by decide) ?_
  exact ⟨bd, rfl, N2, K2', sz_bd, F_value_aa, F_coder_aa, A_bd⟩
theorem d14_0 : decode prog_63_method_12_code 0 = .ok (.aload_n 0, 1) := by decide +kernel
theorem d14_1 : decode prog_63_method_12_code 1 = .ok (.getfield 39, 3) := by decide +kernel
theorem d14_4 : decode prog_63_method_12_code 4 = .ok (.ireturn, 1) := by decide +kernel
theorem pn_14 : plainName "com/example/vestwright/vestwright/io/Records" = true := by first | (simp [plainName, overriddenIn]; done) | decide +kernel
theorem ef_14 (m : MethodId) (x0 : Addr) : entryFrame m #[(.ref x0)] 1 = mkF m 0 #[.val (.ref x0)] [] := by first | (simp [entryFrame, mkF, argsToLocals, Value.category]; done) | rfl
def Q14 (Z : State) (aa : Addr) (rv : Int32) (h0 : Heap) (n0 : Nat) (v : Option Value) (h : Heap) (L : List Loc) : Prop := v = some (.int rv) ∧ Fr n0 L ∧ h = h0
set_option maxRecDepth 65536 in
set_option maxHeartbeats 40000000 in
theorem rm14 (l : Launch) (Z : State) (a0 : Array Value) (hw : ∀ d ∈ tables_1, d.before a0 Z = true) (ws : List Jvm.Cond) (aa : Addr) (rv : Int32) (h0 : Heap) (n0 : Nat) (Z0 : n0 ≤ h0.size) (F_records_aa : Fld Z h0 aa "com/example/vestwright/vestwright/io/Records" "records" "I" (.int rv)) :
    MetFree l (⟨"com/example/vestwright/vestwright/io/Records", "size", "()I"⟩ : MethodName) (head1 (Jvm.Cond.code (⟨"com/example/vestwright/vestwright/io/Records", "size", "()I"⟩ : MethodName) prog_63_method_12_code 1 (some .int) :: ws) ({ frames := 0, cells := 0, slots := 0, locals := 0 } : Room)) (fun a U => a = #[(.ref aa)] ∧ Z.Warmed39 U.vm ∧ U.heap = h0) (fun _ _ _ _ _ => True) (fun _ U o U' => ∃ v L, o = .returned v ∧ Q14 Z aa rv h0 n0 v U'.heap L ∧ FrameEnd U o U' L ({ frames := 0, cells := 0, slots := 0, locals := 0 } : Room).cells ({ frames := 0, cells := 0, slots := 0, locals := 0 } : Room).slots) := by
  refine MetFree.of_bodySF (plainFor_of_name pn_14) hisR ?_
  intro p e s m args below meth c s₁ Bd hml0 hP hK
  obtain ⟨rfl, hZ, hh⟩ := hP
  have hx := Bd.exec
  have hby := Bd.bytes
  have hml : c.maxLocals = 1 := hml0
  have hown : s.vm.findClass "com/example/vestwright/vestwright/io/Records" = some m.cls := findClass_of_methodNamed Bd.named
  have hnm := (name_of_methodNamed Bd.named Bd.method).1
  have X0 : Stand p l e ({ frames := 0, cells := 0, slots := 0, locals := 0 } : Room) s m #[(.ref aa)] below meth c s₁ [] 0 0 := Stand.of_body Bd
  have e0 : s₁.heap = h0 := by rw [← hh, Bd.state]; rfl
  have N0 := Fr.nil n0
  show Go p e below s (Q14 Z aa rv h0 n0) ({ frames := 0, cells := 0, slots := 0, locals := 0 } : Room).cells ({ frames := 0, cells := 0, slots := 0, locals := 0 } : Room).slots (s₁.setTop (entryFrame m #[(.ref aa)] 1))
  rw [ef_14]
  show Go _ _ _ _ _ _ _ (s₁.setTop (mkF m 0 #[.val (.ref aa)] []))
  refine Go.step (fun t k => XS.aloadN X0.here hx rfl (hb hby d14_0) rfl rfl k) ?_
  show Go _ _ _ _ _ _ _ (s₁.setTop (mkF m 1 #[.val (.ref aa)] [(.ref aa)]))
  obtain ⟨T1, X1, e1, st1⟩ := getF X0 hx hZ hown (host := "") (Or.inl (hw _ (List.mem_of_getElem? (i := 72) rfl))) Via.refl e0 F_records_aa (g := (mkF m 1 #[.val (.ref aa)] [(.ref aa)])) rfl rfl (hb hby d14_1)
  refine Go.step st1 ?_
  show Go _ _ _ _ _ _ _ (T1.setTop (mkF m 4 #[.val (.ref aa)] [(.int rv)]))
  refine Go.retI X1 Bd.notSynchronized hx Bd.returns (hb hby d14_4) (by decide) (by decide) ?_
  rw [e1]
  exact ⟨rfl, N0, rfl⟩
theorem d15_0 : decode prog_63_method_16_code 0 = .ok (.aload_n 0, 1) := by decide +kernel
theorem d15_1 : decode prog_63_method_16_code 1 = .ok (.getfield 20, 3) := by decide +kernel
theorem d15_4 : decode prog_63_method_16_code 4 = .ok (.iload_n 1, 1) := by decide +kernel
theorem d15_5 : decode prog_63_method_16_code 5 = .ok (.iconst 1, 1) := by decide +kernel
theorem d15_6 : decode prog_63_method_16_code 6 = .ok (.iadd, 1) := by decide +kernel
theorem d15_7 : decode prog_63_method_16_code 7 = .ok (.iaload, 1) := by decide +kernel
theorem d15_8 : decode prog_63_method_16_code 8 = .ok (.aload_n 0, 1) := by decide +kernel
theorem d15_9 : decode prog_63_method_16_code 9 = .ok (.getfield 20, 3) := by decide +kernel
theorem d15_12 : decode prog_63_method_16_code 12 = .ok (.iload_n 1, 1) := by decide +kernel
theorem d15_13 : decode prog_63_method_16_code 13 = .ok (.iaload, 1) := by decide +kernel
theorem d15_14 : decode prog_63_method_16_code 14 = .ok (.isub, 1) := by decide +kernel
theorem d15_15 : decode prog_63_method_16_code 15 = .ok (.ireturn, 1) := by decide +kernel
theorem pn_15 : plainName "com/example/vestwright/vestwright/io/Records" = true := by first | (simp [plainName, overriddenIn]; done) | decide +kernel
theorem ef_15 (m : MethodId) (x0 : Addr) (x1 : Int32) : entryFrame m #[(.ref x0), (.int x1)] 2 = mkF m 0 #[.val (.ref x0), .val (.int x1)] [] := by first | (simp [entryFrame, mkF, argsToLocals, Value.category]; done) | rfl
def Q15 (Z : State) (aa : Addr) (ri : Int32) (bf : Addr) (gf : Nat → Int32) (ki : Nat) (h0 : Heap) (n0 : Nat) (v : Option Value) (h : Heap) (L : List Loc) : Prop := v = some (.int ((gf (ki + 1)) - (gf ki))) ∧ Fr n0 L ∧ h = h0
set_option maxRecDepth 65536 in
set_option maxHeartbeats 40000000 in
theorem rm15 (l : Launch) (Z : State) (a0 : Array Value) (hw : ∀ d ∈ tables_1, d.before a0 Z = true) (ws : List Jvm.Cond) (aa : Addr) (ri : Int32) (bf : Addr) (gf : Nat → Int32) (ki : Nat) (h0 : Heap) (n0 : Nat) (Z0 : n0 ≤ h0.size) (F_firstFields_aa : Fld Z h0 aa "com/example/vestwright/vestwright/io/Records" "firstFields" "[I" (.ref bf)) (A_bf : AryI Z h0 bf .int 64 gf) (hri : (ri.toInt = (ki : Int))) (hki : (ki < 63)) :
    MetFree l (⟨"com/example/vestwright/vestwright/io/Records", "width", "(I)I"⟩ : MethodName) (head1 (Jvm.Cond.code (⟨"com/example/vestwright/vestwright/io/Records", "width", "(I)I"⟩ : MethodName) prog_63_method_16_code 2 (some .int) :: ws) ({ frames := 0, cells := 0, slots := 0, locals := 0 } : Room)) (fun a U => a = #[(.ref aa), (.int ri)] ∧ Z.Warmed39 U.vm ∧ U.heap = h0) (fun _ _ _ _ _ => True) (fun _ U o U' => ∃ v L, o = .returned v ∧ Q15 Z aa ri bf gf ki h0 n0 v U'.heap L ∧ FrameEnd U o U' L ({ frames := 0, cells := 0, slots := 0, locals := 0 } : Room).cells ({ frames := 0, cells := 0, slots := 0, locals := 0 } : Room).slots) := by
  refine MetFree.of_bodySF (plainFor_of_name pn_15) hisR ?_
  intro p e s m args below meth c s₁ Bd hml0 hP hK
  obtain ⟨rfl, hZ, hh⟩ := hP
  have hx := Bd.exec
  have hby := Bd.bytes
  have hml : c.maxLocals = 2 := hml0
  have hown : s.vm.findClass "com/example/vestwright/vestwright/io/Records" = some m.cls := findClass_of_methodNamed Bd.named
  have hnm := (name_of_methodNamed Bd.named Bd.method).1
  have X0 : Stand p l e ({ frames := 0, cells := 0, slots := 0, locals := 0 } : Room) s m #[(.ref aa), (.int ri)] below meth c s₁ [] 0 0 := Stand.of_body Bd
  have e0 : s₁.heap = h0 := by rw [← hh, Bd.state]; rfl
  have N0 := Fr.nil n0
  show Go p e below s (Q15 Z aa ri bf gf ki h0 n0) ({ frames := 0, cells := 0, slots := 0, locals := 0 } : Room).cells ({ frames := 0, cells := 0, slots := 0, locals := 0 } : Room).slots (s₁.setTop (entryFrame m #[(.ref aa), (.int ri)] 2))
  rw [ef_15]
  show Go _ _ _ _ _ _ _ (s₁.setTop (mkF m 0 #[.val (.ref aa), .val (.int ri)] []))
  refine Go.step (fun t k => XS.aloadN X0.here hx rfl (hb hby d15_0) rfl rfl k) ?_
  show Go _ _ _ _ _ _ _ (s₁.setTop (mkF m 1 #[.val (.ref aa), .val (.int ri)] [(.ref aa)]))
  obtain ⟨T1, X1, e1, st1⟩ := getF X0 hx hZ hown (host := "") (Or.inl (hw _ (List.mem_of_getElem? (i := 59) rfl))) Via.refl e0 F_firstFields_aa (g := (mkF m 1 #[.val (.ref aa), .val (.int ri)] [(.ref aa)])) rfl rfl (hb hby d15_1)
  refine Go.step st1 ?_
  show Go _ _ _ _ _ _ _ (T1.setTop (mkF m 4 #[.val (.ref aa), .val (.int ri)] [(.ref bf)]))
  refine Go.step (fun t k => XS.iloadN X1.here hx rfl (hb hby d15_4) rfl k) ?_
  show Go _ _ _ _ _ _ _ (T1.setTop (mkF m 5 #[.val (.ref aa), .val (.int ri)] [(.int ri), (.ref bf)]))
  refine Go.step (fun t k => XS.iconst X1.here hx rfl (hb hby d15_5) k) ?_
  show Go _ _ _ _ _ _ _ (T1.setTop (mkF m 6 #[.val (.ref aa), .val (.int ri)] [(.int (1 : Int32)), (.int ri), (.ref bf)]))
  refine Go.step (fun t k => XS.iadd X1.here hx rfl (hb hby d15_6) rfl k) ?_
  show Go _ _ _ _ _ _ _ (T1.setTop (mkF m 7 #[.val (.ref aa), .val (.int ri)] [(.int (ri + (1 : Int32))), (.ref bf)]))
  refine Go.step (own_ld X1 hx hZ e1 A_bf (j := (ri + (1 : Int32))) (ki + 1) (own_inc hri (by omega)) (by omega) (v := (.int (gf (ki + 1)))) rfl (Or.inl ⟨rfl, rfl⟩) (f := (mkF m 7 #[.val (.ref aa), .val (.int ri)] [(.int (ri + (1 : Int32))), (.ref bf)])) rfl rfl (hb hby d15_7)) ?_
  show Go _ _ _ _ _ _ _ (T1.setTop (mkF m 8 #[.val (.ref aa), .val (.int ri)] [(.int (gf (ki + 1)))]))
  refine Go.step (fun t k => XS.aloadN X1.here hx rfl (hb hby d15_8) rfl rfl k) ?_
  show Go _ _ _ _ _ _ _ (T1.setTop (mkF m 9 #[.val (.ref aa), .val (.int ri)] [(.ref aa), (.int (gf (ki + 1)))]))
  obtain ⟨T3, X3, e3, st3⟩ := getF X1 hx hZ hown (host := "") (Or.inl (hw _ (List.mem_of_getElem? (i := 59) rfl))) Via.refl e1 F_firstFields_aa (g := (mkF m 9 #[.val (.ref aa), .val (.int ri)] [(.ref aa), (.int (gf (ki + 1)))])) rfl rfl (hb hby d15_9)
  refine Go.step st3 ?_
  show Go _ _ _ _ _ _ _ (T3.setTop (mkF m 12 #[.val (.ref aa), .val (.int ri)] [(.ref bf), (.int (gf (ki + 1)))]))
  refine Go.step (fun t k => XS.iloadN X3.here hx rfl (hb hby d15_12) rfl k) ?_
  show Go _ _ _ _ _ _ _ (T3.setTop (mkF m 13 #[.val (.ref aa), .val (.int ri)] [(.int ri), (.ref bf), (.int (gf (ki + 1)))]))
  refine Go.step (own_ld X3 hx hZ e3 A_bf (j := ri) ki hri (by omega) (v := (.int (gf ki))) rfl (Or.inl ⟨rfl, rfl⟩) (f := (mkF m 13 #[.val (.ref aa), .val (.int ri)] [(.int ri), (.ref bf), (.int (gf (ki + 1)))])) rfl rfl (hb hby d15_13)) ?_
  show Go _ _ _ _ _ _ _ (T3.setTop (mkF m 14 #[.val (.ref aa), .val (.int ri)] [(.int (gf ki)), (.int (gf (ki + 1)))]))
  refine Go.step (fun t k => XS.isub X3.here hx rfl (hb hby d15_14) rfl k) ?_
  show Go _ _ _ _ _ _ _ (T3.setTop (mkF m 15 #[.val (.ref aa), .val (.int ri)] [(.int ((gf (ki + 1)) - (gf ki)))]))
  refine Go.retI X3 Bd.notSynchronized hx Bd.returns (hb hby d15_15) (by decide) (by decide) ?_
  rw [e3]
  exact ⟨rfl, N0, rfl⟩
theorem pn_0 : plainName "com/example/vestwright/vestwright/io/RecordsEndRecordPinLaw" = true := by first | (simp [plainName, overriddenIn]; done) | decide +kernel
theorem pd_0_0 : parseMethodDescriptor "([C)V" = some ⟨[(.array .char)], none⟩ := by decide +kernel
theorem pd_0_1 : parseMethodDescriptor "(C)Ljava/lang/String;" = some ⟨[.char], some (.object "java/lang/String")⟩ := by decide +kernel
theorem pd_0_2 : parseMethodDescriptor "()V" = some ⟨[], none⟩ := by decide +kernel
theorem pd_0_3 : parseMethodDescriptor "(I)V" = some ⟨[.int], none⟩ := by decide +kernel
theorem pd_0_4 : parseMethodDescriptor "()I" = some ⟨[], some .int⟩ := by decide +kernel
theorem pd_0_5 : parseMethodDescriptor "(I)I" = some ⟨[.int], some .int⟩ := by decide +kernel
theorem pd_0_6 : parseMethodDescriptor "(Ljava/lang/CharSequence;)V" = some ⟨[(.object "java/lang/CharSequence")], none⟩ := by decide +kernel
theorem ef_0 (m : MethodId) (x0 : Int32) (x1 : Int32) : entryFrame m #[(.int x0), (.int x1)] maxLocals = mkF m 0 #[.val (.int x0), .val (.int x1), .unset, .unset, .unset, .unset, .unset, .unset, .unset, .unset, .unset] [] := by first | (simp [entryFrame, mkF, argsToLocals, Value.category, maxLocals]; done) | rfl
def Q0 (Z : State) (pa : Int32) (pb : Int32) (cs : Int32) (fm : Value) (h0 : Heap) (n0 : Nat) (v : Option Value) (h : Heap) (L : List Loc) : Prop := v = some (.int (1 : Int32)) ∧ Fr n0 L
set_option maxRecDepth 65536 in
set_option maxHeartbeats 40000000 in
theorem rm0 (l : Launch) (Z : State) (a0 : Array Value) (hw : ∀ d ∈ tables_1, d.before a0 Z = true) (ws : List Jvm.Cond) (pa : Int32) (pb : Int32) (cs : Int32) (fm : Value) (h0 : Heap) (n0 : Nat) (Z0 : n0 ≤ h0.size) (old : Old Z n0 h0) (hcs : (Sta Z Z.heap "java/lang/String" "COMPACT_STRINGS" "Z" (.int cs))) (hc0 : (¬ cs = (0 : Int32))) (hfs : (Sta Z Z.heap "jdk/internal/util/Preconditions" "SIOOBE_FORMATTER" "Ljava/util/function/BiFunction;" fm)) (hfr : (fm.isRef = true)) :
    MetFree l x (head1 (Jvm.Cond.code x code maxLocals ret :: ws) room_1) (fun a U => a = #[(.int pa), (.int pb)] ∧ Z.Warmed39 U.vm ∧ U.heap = h0) (fun _ _ _ _ _ => True) (fun _ U o U' => ∃ v L, o = .returned v ∧ Q0 Z pa pb cs fm h0 n0 v U'.heap L ∧ FrameEnd U o U' L 32 9728) := by
  refine MetFree.of_bodySF (plainFor_of_name pn_0) hisR ?_
  intro p e s m args below meth c s₁ Bd hml0 hP hK
  obtain ⟨rfl, hZ, hh⟩ := hP
  have hx := Bd.exec
  have hby := Bd.bytes
  have hml : c.maxLocals = 11 := hml0
  have hown : s.vm.findClass "com/example/vestwright/vestwright/io/RecordsEndRecordPinLaw" = some m.cls := findClass_of_methodNamed Bd.named
  have hnm := (name_of_methodNamed Bd.named Bd.method).1
  have X0 : Stand p l e room_1 s m #[(.int pa), (.int pb)] below meth c s₁ [] 0 0 := Stand.of_body Bd
  have e0 : s₁.heap = h0 := by rw [← hh, Bd.state]; rfl
  have N0 := Fr.nil n0
  show Go p e below s (Q0 Z pa pb cs fm h0 n0) 32 9728 (s₁.setTop (entryFrame m #[(.int pa), (.int pb)] maxLocals))
  rw [ef_0]
  show Go _ _ _ _ _ _ _ (s₁.setTop (mkF m 0 #[.val (.int pa), .val (.int pb), .unset, .unset, .unset, .unset, .unset, .unset, .unset, .unset, .unset] []))
  refine Go.step (fun t k => XS.iloadN X0.here hx rfl (hb hby at_0) rfl k) ?_
  show Go _ _ _ _ _ _ _ (s₁.setTop (mkF m 1 #[.val (.int pa), .val (.int pb), .unset, .unset, .unset, .unset, .unset, .unset, .unset, .unset, .unset] [(.int pa)]))
  refine Go.step (fun t k => X0.ldcInt hx hown (mvT hZ (hw _ (List.mem_of_getElem? (i := 0) rfl))) (g := (mkF m 1 #[.val (.int pa), .val (.int pb), .unset, .unset, .unset, .unset, .unset, .unset, .unset, .unset, .unset] [(.int pa)])) rfl (hb hby at_1) _ k) ?_
  show Go _ _ _ _ _ _ _ (s₁.setTop (mkF m 3 #[.val (.int pa), .val (.int pb), .unset, .unset, .unset, .unset, .unset, .unset, .unset, .unset, .unset] [(.int (2147483647 : Int32)), (.int pa)]))
  refine Go.step (fun t k => XS.iand X0.here hx rfl (hb hby at_3) rfl k) ?_
  show Go _ _ _ _ _ _ _ (s₁.setTop (mkF m 4 #[.val (.int pa), .val (.int pb), .unset, .unset, .unset, .unset, .unset, .unset, .unset, .unset, .unset] [(.int (pa &&& (2147483647 : Int32)))]))
  refine Go.step (fun t k => XS.iconst X0.here hx rfl (hb hby at_4) k) ?_
  show Go _ _ _ _ _ _ _ (s₁.setTop (mkF m 5 #[.val (.int pa), .val (.int pb), .unset, .unset, .unset, .unset, .unset, .unset, .unset, .unset, .unset] [(.int (3 : Int32)), (.int (pa &&& (2147483647 : Int32)))]))
  refine Go.step (fun t k => iremM X0 hx rfl (hb hby at_5) rfl (by decide) k) ?_
  show Go _ _ _ _ _ _ _ (s₁.setTop (mkF m 6 #[.val (.int pa), .val (.int pb), .unset, .unset, .unset, .unset, .unset, .unset, .unset, .unset, .unset] [(.int ((pa &&& (2147483647 : Int32)) % (3 : Int32)))]))
  refine Go.step (fun t k => XS.istoreN X0.here hx rfl (hb hby at_6) rfl (l' := #[.val (.int pa), .val (.int pb), .val (.int ((pa &&& (2147483647 : Int32)) % (3 : Int32))), .unset, .unset, .unset, .unset, .unset, .unset, .unset, .unset]) rfl k) ?_
  show Go _ _ _ _ _ _ _ (s₁.setTop (mkF m 7 #[.val (.int pa), .val (.int pb), .val (.int ((pa &&& (2147483647 : Int32)) % (3 : Int32))), .unset, .unset, .unset, .unset, .unset, .unset, .unset, .unset] []))
  generalize hva : ((pa &&& (2147483647 : Int32)) % (3 : Int32)) = va
  show Go _ _ _ _ _ _ _ (s₁.setTop (mkF m 7 #[.val (.int pa), .val (.int pb), .val (.int va), .unset, .unset, .unset, .unset, .unset, .unset, .unset, .unset] []))
  refine Go.step (fun t k => XS.iloadN X0.here hx rfl (hb hby at_7) rfl k) ?_
  show Go _ _ _ _ _ _ _ (s₁.setTop (mkF m 8 #[.val (.int pa), .val (.int pb), .val (.int va), .unset, .unset, .unset, .unset, .unset, .unset, .unset, .unset] [(.int pb)]))
  refine Go.step (fun t k => X0.ldcInt hx hown (mvT hZ (hw _ (List.mem_of_getElem? (i := 0) rfl))) (g := (mkF m 8 #[.val (.int pa), .val (.int pb), .val (.int va), .unset, .unset, .unset, .unset, .unset, .unset, .unset, .unset] [(.int pb)])) rfl (hb hby at_8) _ k) ?_
  show Go _ _ _ _ _ _ _ (s₁.setTop (mkF m 10 #[.val (.int pa), .val (.int pb), .val (.int va), .unset, .unset, .unset, .unset, .unset, .unset, .unset, .unset] [(.int (2147483647 : Int32)), (.int pb)]))
  refine Go.step (fun t k => XS.iand X0.here hx rfl (hb hby at_10) rfl k) ?_
  show Go _ _ _ _ _ _ _ (s₁.setTop (mkF m 11 #[.val (.int pa), .val (.int pb), .val (.int va), .unset, .unset, .unset, .unset, .unset, .unset, .unset, .unset] [(.int (pb &&& (2147483647 : Int32)))]))
  refine Go.step (fun t k => XS.iconst X0.here hx rfl (hb hby at_11) k) ?_
  show Go _ _ _ _ _ _ _ (s₁.setTop (mkF m 12 #[.val (.int pa), .val (.int pb), .val (.int va), .unset, .unset, .unset, .unset, .unset, .unset, .unset, .unset] [(.int (3 : Int32)), (.int (pb &&& (2147483647 : Int32)))]))
  refine Go.step (fun t k => iremM X0 hx rfl (hb hby at_12) rfl (by decide) k) ?_
  show Go _ _ _ _ _ _ _ (s₁.setTop (mkF m 13 #[.val (.int pa), .val (.int pb), .val (.int va), .unset, .unset, .unset, .unset, .unset, .unset, .unset, .unset] [(.int ((pb &&& (2147483647 : Int32)) % (3 : Int32)))]))
  refine Go.step (fun t k => XS.istoreN X0.here hx rfl (hb hby at_13) rfl (l' := #[.val (.int pa), .val (.int pb), .val (.int va), .val (.int ((pb &&& (2147483647 : Int32)) % (3 : Int32))), .unset, .unset, .unset, .unset, .unset, .unset, .unset]) rfl k) ?_
  show Go _ _ _ _ _ _ _ (s₁.setTop (mkF m 14 #[.val (.int pa), .val (.int pb), .val (.int va), .val (.int ((pb &&& (2147483647 : Int32)) % (3 : Int32))), .unset, .unset, .unset, .unset, .unset, .unset, .unset] []))
  generalize hvb : ((pb &&& (2147483647 : Int32)) % (3 : Int32)) = vb
  show Go _ _ _ _ _ _ _ (s₁.setTop (mkF m 14 #[.val (.int pa), .val (.int pb), .val (.int va), .val (.int vb), .unset, .unset, .unset, .unset, .unset, .unset, .unset] []))
  refine Go.step (fun t k => XS.iloadN X0.here hx rfl (hb hby at_14) rfl k) ?_
  show Go _ _ _ _ _ _ _ (s₁.setTop (mkF m 15 #[.val (.int pa), .val (.int pb), .val (.int va), .val (.int vb), .unset, .unset, .unset, .unset, .unset, .unset, .unset] [(.int pa)]))
  refine Go.step (fun t k => XS.bipush X0.here hx rfl (hb hby at_15) k) ?_
  show Go _ _ _ _ _ _ _ (s₁.setTop (mkF m 17 #[.val (.int pa), .val (.int pb), .val (.int va), .val (.int vb), .unset, .unset, .unset, .unset, .unset, .unset, .unset] [(.int (8 : Int32)), (.int pa)]))
  refine Go.step (fun t k => XS.iushr X0.here hx rfl (hb hby at_17) rfl k) ?_
  show Go _ _ _ _ _ _ _ (s₁.setTop (mkF m 18 #[.val (.int pa), .val (.int pb), .val (.int va), .val (.int vb), .unset, .unset, .unset, .unset, .unset, .unset, .unset] [(.int ((pa.toUInt32 >>> ((8 : Int32) &&& 31).toUInt32).toInt32))]))
  refine Go.step (fun t k => XS.sipush X0.here hx rfl (hb hby at_18) k) ?_
  show Go _ _ _ _ _ _ _ (s₁.setTop (mkF m 21 #[.val (.int pa), .val (.int pb), .val (.int va), .val (.int vb), .unset, .unset, .unset, .unset, .unset, .unset, .unset] [(.int (255 : Int32)), (.int ((pa.toUInt32 >>> ((8 : Int32) &&& 31).toUInt32).toInt32))]))
  refine Go.step (fun t k => XS.iand X0.here hx rfl (hb hby at_21) rfl k) ?_
  show Go _ _ _ _ _ _ _ (s₁.setTop (mkF m 22 #[.val (.int pa), .val (.int pb), .val (.int va), .val (.int vb), .unset, .unset, .unset, .unset, .unset, .unset, .unset] [(.int (((pa.toUInt32 >>> ((8 : Int32) &&& 31).toUInt32).toInt32) &&& (255 : Int32)))]))
  refine Go.step (fun t k => XS.i2c X0.here hx rfl (hb hby at_22) rfl k) ?_
  show Go _ _ _ _ _ _ _ (s₁.setTop (mkF m 23 #[.val (.int pa), .val (.int pb), .val (.int va), .val (.int vb), .unset, .unset, .unset, .unset, .unset, .unset, .unset] [(.int ((((pa.toUInt32 >>> ((8 : Int32) &&& 31).toUInt32).toInt32) &&& (255 : Int32)).toUInt32.toUInt16.toUInt32.toInt32))]))
  refine Go.step (fun t k => XS.istore X0.here hx rfl (hb hby at_23) rfl (l' := #[.val (.int pa), .val (.int pb), .val (.int va), .val (.int vb), .val (.int ((((pa.toUInt32 >>> ((8 : Int32) &&& 31).toUInt32).toInt32) &&& (255 : Int32)).toUInt32.toUInt16.toUInt32.toInt32)), .unset, .unset, .unset, .unset, .unset, .unset]) rfl k) ?_
  show Go _ _ _ _ _ _ _ (s₁.setTop (mkF m 25 #[.val (.int pa), .val (.int pb), .val (.int va), .val (.int vb), .val (.int ((((pa.toUInt32 >>> ((8 : Int32) &&& 31).toUInt32).toInt32) &&& (255 : Int32)).toUInt32.toUInt16.toUInt32.toInt32)), .unset, .unset, .unset, .unset, .unset, .unset] []))
  generalize hv4 : ((((pa.toUInt32 >>> ((8 : Int32) &&& 31).toUInt32).toInt32) &&& (255 : Int32)).toUInt32.toUInt16.toUInt32.toInt32) = v4
  show Go _ _ _ _ _ _ _ (s₁.setTop (mkF m 25 #[.val (.int pa), .val (.int pb), .val (.int va), .val (.int vb), .val (.int v4), .unset, .unset, .unset, .unset, .unset, .unset] []))
  refine Go.step (fun t k => XS.iloadN X0.here hx rfl (hb hby at_25) rfl k) ?_
  show Go _ _ _ _ _ _ _ (s₁.setTop (mkF m 26 #[.val (.int pa), .val (.int pb), .val (.int va), .val (.int vb), .val (.int v4), .unset, .unset, .unset, .unset, .unset, .unset] [(.int pb)]))
  refine Go.step (fun t k => XS.bipush X0.here hx rfl (hb hby at_26) k) ?_
  show Go _ _ _ _ _ _ _ (s₁.setTop (mkF m 28 #[.val (.int pa), .val (.int pb), .val (.int va), .val (.int vb), .val (.int v4), .unset, .unset, .unset, .unset, .unset, .unset] [(.int (8 : Int32)), (.int pb)]))
  refine Go.step (fun t k => XS.iushr X0.here hx rfl (hb hby at_28) rfl k) ?_
  show Go _ _ _ _ _ _ _ (s₁.setTop (mkF m 29 #[.val (.int pa), .val (.int pb), .val (.int va), .val (.int vb), .val (.int v4), .unset, .unset, .unset, .unset, .unset, .unset] [(.int ((pb.toUInt32 >>> ((8 : Int32) &&& 31).toUInt32).toInt32))]))
  refine Go.step (fun t k => XS.sipush X0.here hx rfl (hb hby at_29) k) ?_
  show Go _ _ _ _ _ _ _ (s₁.setTop (mkF m 32 #[.val (.int pa), .val (.int pb), .val (.int va), .val (.int vb), .val (.int v4), .unset, .unset, .unset, .unset, .unset, .unset] [(.int (255 : Int32)), (.int ((pb.toUInt32 >>> ((8 : Int32) &&& 31).toUInt32).toInt32))]))
  refine Go.step (fun t k => XS.iand X0.here hx rfl (hb hby at_32) rfl k) ?_
  show Go _ _ _ _ _ _ _ (s₁.setTop (mkF m 33 #[.val (.int pa), .val (.int pb), .val (.int va), .val (.int vb), .val (.int v4), .unset, .unset, .unset, .unset, .unset, .unset] [(.int (((pb.toUInt32 >>> ((8 : Int32) &&& 31).toUInt32).toInt32) &&& (255 : Int32)))]))
  refine Go.step (fun t k => XS.i2c X0.here hx rfl (hb hby at_33) rfl k) ?_
  show Go _ _ _ _ _ _ _ (s₁.setTop (mkF m 34 #[.val (.int pa), .val (.int pb), .val (.int va), .val (.int vb), .val (.int v4), .unset, .unset, .unset, .unset, .unset, .unset] [(.int ((((pb.toUInt32 >>> ((8 : Int32) &&& 31).toUInt32).toInt32) &&& (255 : Int32)).toUInt32.toUInt16.toUInt32.toInt32))]))
  refine Go.step (fun t k => XS.istore X0.here hx rfl (hb hby at_34) rfl (l' := #[.val (.int pa), .val (.int pb), .val (.int va), .val (.int vb), .val (.int v4), .val (.int ((((pb.toUInt32 >>> ((8 : Int32) &&& 31).toUInt32).toInt32) &&& (255 : Int32)).toUInt32.toUInt16.toUInt32.toInt32)), .unset, .unset, .unset, .unset, .unset]) rfl k) ?_
  show Go _ _ _ _ _ _ _ (s₁.setTop (mkF m 36 #[.val (.int pa), .val (.int pb), .val (.int va), .val (.int vb), .val (.int v4), .val (.int ((((pb.toUInt32 >>> ((8 : Int32) &&& 31).toUInt32).toInt32) &&& (255 : Int32)).toUInt32.toUInt16.toUInt32.toInt32)), .unset, .unset, .unset, .unset, .unset] []))
  generalize hv5 : ((((pb.toUInt32 >>> ((8 : Int32) &&& 31).toUInt32).toInt32) &&& (255 : Int32)).toUInt32.toUInt16.toUInt32.toInt32) = v5
  show Go _ _ _ _ _ _ _ (s₁.setTop (mkF m 36 #[.val (.int pa), .val (.int pb), .val (.int va), .val (.int vb), .val (.int v4), .val (.int v5), .unset, .unset, .unset, .unset, .unset] []))
  refine Go.step (fun t k => XS.iconst X0.here hx rfl (hb hby at_36) k) ?_
  show Go _ _ _ _ _ _ _ (s₁.setTop (mkF m 37 #[.val (.int pa), .val (.int pb), .val (.int va), .val (.int vb), .val (.int v4), .val (.int v5), .unset, .unset, .unset, .unset, .unset] [(.int (2 : Int32))]))
  obtain ⟨T1, h1, k1, X1, e1, E1, A1, st1⟩ := newP X0 hx hZ (hw _ (List.mem_of_getElem? (i := 1) rfl)) e0 (g := (mkF m 37 #[.val (.int pa), .val (.int pb), .val (.int va), .val (.int vb), .val (.int v4), .val (.int v5), .unset, .unset, .unset, .unset, .unset] [(.int (2 : Int32))])) rfl (hb hby at_37) rfl (by decide) (cap := 2) (by decide) (by decide) (by decide) (by decide)
  obtain ⟨ch, gz1⟩ : ∃ z, z = h0.size := ⟨_, rfl⟩
  have g_ch : n0 ≤ ch := Nat.le_trans Z0 (Nat.le_of_eq gz1.symm)
  rw [← gz1] at A1 st1
  replace old := Old.ext old E1
  have Z1 := Nat.le_trans Z0 E1.1
  have A_ch : AryI Z h1 ch .char 2 (fun _ => (0 : Int32)) := Ary.new A1 rfl
  refine Go.step st1 ?_
  show Go _ _ _ _ _ _ _ (T1.setTop (mkF m 39 #[.val (.int pa), .val (.int pb), .val (.int va), .val (.int vb), .val (.int v4), .val (.int v5), .unset, .unset, .unset, .unset, .unset] [(.ref ch)]))
  refine Go.step (fun t k => XS.dup X1.here hx rfl (hb hby at_39) rfl rfl k) ?_
  show Go _ _ _ _ _ _ _ (T1.setTop (mkF m 40 #[.val (.int pa), .val (.int pb), .val (.int va), .val (.int vb), .val (.int v4), .val (.int v5), .unset, .unset, .unset, .unset, .unset] [(.ref ch), (.ref ch)]))
  refine Go.step (fun t k => XS.iconst X1.here hx rfl (hb hby at_40) k) ?_
  show Go _ _ _ _ _ _ _ (T1.setTop (mkF m 41 #[.val (.int pa), .val (.int pb), .val (.int va), .val (.int vb), .val (.int v4), .val (.int v5), .unset, .unset, .unset, .unset, .unset] [(.int (0 : Int32)), (.ref ch), (.ref ch)]))
  refine Go.step (fun t k => XS.iload X1.here hx rfl (hb hby at_41) rfl k) ?_
  show Go _ _ _ _ _ _ _ (T1.setTop (mkF m 43 #[.val (.int pa), .val (.int pb), .val (.int va), .val (.int vb), .val (.int v4), .val (.int v5), .unset, .unset, .unset, .unset, .unset] [(.int v4), (.int (0 : Int32)), (.ref ch), (.ref ch)]))
  obtain ⟨T2, h2, X2, e2, W2, st2⟩ := own_stC X1 hx hZ e1 A_ch 0 rfl (by decide) (f := (mkF m 43 #[.val (.int pa), .val (.int pb), .val (.int va), .val (.int vb), .val (.int v4), .val (.int v5), .unset, .unset, .unset, .unset, .unset] [(.int v4), (.int (0 : Int32)), (.ref ch), (.ref ch)])) rfl rfl (hb hby at_43)
  replace old := Old.wr old W2 g_ch
  have Z2 := Nat.le_trans Z1 (Keep.of_wr W2).1
  have N2 := Fr.snoc X2 N0 g_ch
  replace A_ch := A_ch.setI W2
  refine Go.step st2 ?_
  show Go _ _ _ _ _ _ _ (T2.setTop (mkF m 44 #[.val (.int pa), .val (.int pb), .val (.int va), .val (.int vb), .val (.int v4), .val (.int v5), .unset, .unset, .unset, .unset, .unset] [(.ref ch)]))
  refine Go.step (fun t k => XS.dup X2.here hx rfl (hb hby at_44) rfl rfl k) ?_
  show Go _ _ _ _ _ _ _ (T2.setTop (mkF m 45 #[.val (.int pa), .val (.int pb), .val (.int va), .val (.int vb), .val (.int v4), .val (.int v5), .unset, .unset, .unset, .unset, .unset] [(.ref ch), (.ref ch)]))
  refine Go.step (fun t k => XS.iconst X2.here hx rfl (hb hby at_45) k) ?_
  show Go _ _ _ _ _ _ _ (T2.setTop (mkF m 46 #[.val (.int pa), .val (.int pb), .val (.int va), .val (.int vb), .val (.int v4), .val (.int v5), .unset, .unset, .unset, .unset, .unset] [(.int (1 : Int32)), (.ref ch), (.ref ch)]))
  refine Go.step (fun t k => XS.iload X2.here hx rfl (hb hby at_46) rfl k) ?_
  show Go _ _ _ _ _ _ _ (T2.setTop (mkF m 48 #[.val (.int pa), .val (.int pb), .val (.int va), .val (.int vb), .val (.int v4), .val (.int v5), .unset, .unset, .unset, .unset, .unset] [(.int v5), (.int (1 : Int32)), (.ref ch), (.ref ch)]))
  obtain ⟨T3, h3, X3, e3, W3, st3⟩ := own_stC X2 hx hZ e2 A_ch 1 rfl (by decide) (f := (mkF m 48 #[.val (.int pa), .val (.int pb), .val (.int va), .val (.int vb), .val (.int v4), .val (.int v5), .unset, .unset, .unset, .unset, .unset] [(.int v5), (.int (1 : Int32)), (.ref ch), (.ref ch)])) rfl rfl (hb hby at_48)
  replace old := Old.wr old W3 g_ch
  have Z3 := Nat.le_trans Z2 (Keep.of_wr W3).1
  have N3 := Fr.snoc X3 N2 g_ch
  replace A_ch := A_ch.setI W3
  refine Go.step st3 ?_
  show Go _ _ _ _ _ _ _ (T3.setTop (mkF m 49 #[.val (.int pa), .val (.int pb), .val (.int va), .val (.int vb), .val (.int v4), .val (.int v5), .unset, .unset, .unset, .unset, .unset] [(.ref ch)]))
  refine Go.step (fun t k => XS.astore X3.here hx rfl (hb hby at_49) rfl rfl (l' := #[.val (.int pa), .val (.int pb), .val (.int va), .val (.int vb), .val (.int v4), .val (.int v5), .val (.ref ch), .unset, .unset, .unset, .unset]) rfl k) ?_
  show Go _ _ _ _ _ _ _ (T3.setTop (mkF m 51 #[.val (.int pa), .val (.int pb), .val (.int va), .val (.int vb), .val (.int v4), .val (.int v5), .val (.ref ch), .unset, .unset, .unset, .unset] []))
  obtain ⟨T4, h4, X4, e4, E4, A4, D4, -, st4⟩ := newO X3 hx hZ hown (hw _ (List.mem_of_getElem? (i := 2) rfl)) (hw _ (List.mem_of_getElem? (i := 3) rfl)) (hw _ (List.mem_of_getElem? (i := 4) rfl)) e3 (g := (mkF m 51 #[.val (.int pa), .val (.int pb), .val (.int va), .val (.int vb), .val (.int v4), .val (.int v5), .val (.ref ch), .unset, .unset, .unset, .unset] [])) rfl (hb hby at_51) (by decide) (by decide)
  obtain ⟨xl, gz4⟩ : ∃ z, z = h3.size := ⟨_, rfl⟩
  have ne_ch_xl : ch ≠ xl := Nat.ne_of_lt (Nat.lt_of_lt_of_le A_ch.lt (Nat.le_of_eq gz4.symm))
  have g_xl : n0 ≤ xl := Nat.le_trans Z3 (Nat.le_of_eq gz4.symm)
  rw [← gz4] at A4 D4 st4
  replace old := Old.ext old E4
  replace A_ch := A_ch.ext E4
  have Z4 := Nat.le_trans Z3 E4.1
  have E_xl := A4
  have F_coder_xl : Fld Z h4 xl "java/lang/String" "coder" "B" (.int (0 : Int32)) := D4 (Or.inr (hw _ (List.mem_of_getElem? (i := 28) rfl))) (ty := .byte) (by decide)
  have F_value_xl : Fld Z h4 xl "java/lang/String" "value" "[B" .null := D4 (Or.inr (hw _ (List.mem_of_getElem? (i := 30) rfl))) (ty := (.array .byte)) (by decide)
  refine Go.step st4 ?_
  show Go _ _ _ _ _ _ _ (T4.setTop (mkF m 54 #[.val (.int pa), .val (.int pb), .val (.int va), .val (.int vb), .val (.int v4), .val (.int v5), .val (.ref ch), .unset, .unset, .unset, .unset] [(.ref xl)]))
  refine Go.step (fun t k => XS.dup X4.here hx rfl (hb hby at_54) rfl rfl k) ?_
  show Go _ _ _ _ _ _ _ (T4.setTop (mkF m 55 #[.val (.int pa), .val (.int pb), .val (.int va), .val (.int vb), .val (.int v4), .val (.int v5), .val (.ref ch), .unset, .unset, .unset, .unset] [(.ref xl), (.ref xl)]))
  refine Go.step (fun t k => XS.aload X4.here hx rfl (hb hby at_55) rfl rfl k) ?_
  show Go _ _ _ _ _ _ _ (T4.setTop (mkF m 57 #[.val (.int pa), .val (.int pb), .val (.int va), .val (.int vb), .val (.int v4), .val (.int v5), .val (.ref ch), .unset, .unset, .unset, .unset] [(.ref ch), (.ref xl), (.ref xl)]))
  obtain ⟨_, _, ⟨T5, L5, k5, n5⟩, -, X5, ⟨Lc5, hQ5, l5, y5, z5⟩, st5⟩ := X4.specialBack hx (y := (⟨"java/lang/String", "<init>", "([C)V"⟩ : MethodName)) rfl hown (mvT hZ (hw _ (List.mem_of_getElem? (i := 5) rfl))) (mvT hZ (hw _ (List.mem_of_getElem? (i := 6) rfl))) (mvT hZ (hw _ (List.mem_of_getElem? (i := 7) rfl))) (by decide) (backOf (W := 1) (rm1_1 l Z a0 hw [] xl ch cs (up (up (fun _ => (0 : Int32)) 0 (nar .char v4)) 1 (nar .char v5)) h4 n0 Z4 old hcs hc0 F_value_xl F_coder_xl E_xl g_xl A_ch (own_c3 (own_ch hv4)) (own_c3 (own_ch hv5))) hZ (hw _ (List.mem_of_getElem? (i := 7) rfl)) (hw _ (List.mem_of_getElem? (i := 4) rfl)) (by decide) (by decide)) (g := (mkF m 57 #[.val (.int pa), .val (.int pb), .val (.int va), .val (.int vb), .val (.int v4), .val (.int v5), .val (.ref ch), .unset, .unset, .unset, .unset] [(.ref ch), (.ref xl), (.ref xl)])) rfl (by rw [hml]; rfl) (Steps.refl _) (a := xl) (argsL := [(.ref ch)]) (rest := [(.ref xl)]) (lenOf pd_0_0 rfl) rfl (by show 2 * 0 + _ ≤ _; exact Nat.le_of_eq rfl) (hb hby at_57) (fun _ _ => ⟨rfl, e4, (by decide : 2 + 1 ≤ _), (by decide : 6 + 2 ≤ _)⟩)
  dsimp only [Pt.U, Pt.locs, Pt.cells, Pt.slots] at X5 l5 y5 z5 st5 hQ5
  subst l5 y5 z5
  obtain ⟨bd, rfl, N5q, K5q, o5_nw_bd, o5_F_value_xl, o5_F_coder_xl, o5_A_bd⟩ := hQ5
  have N5 := Fr.app N3 N5q
  have ne_ch_bd : ch ≠ bd := Nat.ne_of_lt (Nat.lt_of_lt_of_le A_ch.lt o5_nw_bd)
  have ne_xl_bd : xl ≠ bd := Nat.ne_of_lt (Nat.lt_of_lt_of_le E_xl.lt o5_nw_bd)
  have g_bd : n0 ≤ bd := Nat.le_trans Z4 o5_nw_bd
  replace old := Old.keep old K5q (allS g_xl all0)
  replace A_ch := A_ch.keep K5q (ninS ne_ch_xl nin0)
  replace E_xl := E_xl.keep K5q
  have Z5 := Nat.le_trans Z4 K5q.1
  have F_value_xl := o5_F_value_xl
  have F_coder_xl := o5_F_coder_xl
  have A_bd := o5_A_bd
  refine Go.step (fun t k => st5.trans k) ?_
  show Go _ _ _ _ _ _ _ (T5.setTop (mkF m 60 #[.val (.int pa), .val (.int pb), .val (.int va), .val (.int vb), .val (.int v4), .val (.int v5), .val (.ref ch), .unset, .unset, .unset, .unset] [(.ref xl)]))
  refine Go.step (fun t k => XS.astore X5.here hx rfl (hb hby at_60) rfl rfl (l' := #[.val (.int pa), .val (.int pb), .val (.int va), .val (.int vb), .val (.int v4), .val (.int v5), .val (.ref ch), .val (.ref xl), .unset, .unset, .unset]) rfl k) ?_
  show Go _ _ _ _ _ _ _ (T5.setTop (mkF m 62 #[.val (.int pa), .val (.int pb), .val (.int va), .val (.int vb), .val (.int v4), .val (.int v5), .val (.ref ch), .val (.ref xl), .unset, .unset, .unset] []))
  refine Go.step (fun t k => XS.iload X5.here hx rfl (hb hby at_62) rfl k) ?_
  show Go _ _ _ _ _ _ _ (T5.setTop (mkF m 64 #[.val (.int pa), .val (.int pb), .val (.int va), .val (.int vb), .val (.int v4), .val (.int v5), .val (.ref ch), .val (.ref xl), .unset, .unset, .unset] [(.int v5)]))
  obtain ⟨_, _, ⟨T6, L6, k6, n6⟩, -, X6, ⟨Lc6, hQ6, l6, y6, z6⟩, st6⟩ := Jvm.LawKit.callS X5 hx (y := (⟨"java/lang/String", "valueOf", "(C)Ljava/lang/String;"⟩ : MethodName)) hown (mvT hZ (hw _ (List.mem_of_getElem? (i := 31) rfl))) (mvT hZ (hw _ (List.mem_of_getElem? (i := 32) rfl))) (mvT hZ (hw _ (List.mem_of_getElem? (i := 4) rfl))) (mvT hZ (hw _ (List.mem_of_getElem? (i := 33) rfl))) (by decide) (backOf (W := 0) (rm7 l Z a0 hw [] v5 cs T5.heap n0 Z5 old hcs hc0 (own_c2 (own_ch hv5))) hZ (hw _ (List.mem_of_getElem? (i := 33) rfl)) (hw _ (List.mem_of_getElem? (i := 4) rfl)) (by decide) (by decide)) (g := (mkF m 64 #[.val (.int pa), .val (.int pb), .val (.int va), .val (.int vb), .val (.int v4), .val (.int v5), .val (.ref ch), .val (.ref xl), .unset, .unset, .unset] [(.int v5)])) rfl (by rw [hml]; rfl) (argsL := [(.int v5)]) (rest := []) (lenOf pd_0_1 rfl) rfl (by show 2 * 0 + _ ≤ _; exact Nat.le_of_eq rfl) (hb hby at_64) (fun _ _ => ⟨rfl, rfl, (by decide : 3 + 2 ≤ _), (by decide : 8 + 5 ≤ _)⟩)
  dsimp only [Pt.U, Pt.locs, Pt.cells, Pt.slots] at X6 l6 y6 z6 st6 hQ6
  subst l6 y6 z6
  obtain ⟨xs, bv, rfl, N6q, K6q, o6_nw_xs, o6_nw_bv, o6_E_xs, o6_F_value_xs, o6_F_coder_xs, o6_A_bv, o6_ne_xs_bv⟩ := hQ6
  have N6 := Fr.app N5 N6q
  have ne_ch_xs : ch ≠ xs := Nat.ne_of_lt (Nat.lt_of_lt_of_le A_ch.lt o6_nw_xs)
  have ne_xl_xs : xl ≠ xs := Nat.ne_of_lt (Nat.lt_of_lt_of_le E_xl.lt o6_nw_xs)
  have ne_bd_xs : bd ≠ xs := Nat.ne_of_lt (Nat.lt_of_lt_of_le A_bd.lt o6_nw_xs)
  have g_xs : n0 ≤ xs := Nat.le_trans Z5 o6_nw_xs
  have ne_ch_bv : ch ≠ bv := Nat.ne_of_lt (Nat.lt_of_lt_of_le A_ch.lt o6_nw_bv)
  have ne_xl_bv : xl ≠ bv := Nat.ne_of_lt (Nat.lt_of_lt_of_le E_xl.lt o6_nw_bv)
  have ne_bd_bv : bd ≠ bv := Nat.ne_of_lt (Nat.lt_of_lt_of_le A_bd.lt o6_nw_bv)
  have g_bv : n0 ≤ bv := Nat.le_trans Z5 o6_nw_bv
  replace old := Old.keep old K6q all0
  replace A_ch := A_ch.keep K6q nin0
  replace E_xl := E_xl.keep K6q
  replace F_value_xl := F_value_xl.keep K6q nin0
  replace F_coder_xl := F_coder_xl.keep K6q nin0
  replace A_bd := A_bd.keep K6q nin0
  have Z6 := Nat.le_trans Z5 K6q.1
  have E_xs := o6_E_xs
  have F_value_xs := o6_F_value_xs
  have F_coder_xs := o6_F_coder_xs
  have A_bv := o6_A_bv
  refine Go.step st6 ?_
  show Go _ _ _ _ _ _ _ (T6.setTop (mkF m 67 #[.val (.int pa), .val (.int pb), .val (.int va), .val (.int vb), .val (.int v4), .val (.int v5), .val (.ref ch), .val (.ref xl), .unset, .unset, .unset] [(.ref xs)]))
  refine Go.step (fun t k => XS.astore X6.here hx rfl (hb hby at_67) rfl rfl (l' := #[.val (.int pa), .val (.int pb), .val (.int va), .val (.int vb), .val (.int v4), .val (.int v5), .val (.ref ch), .val (.ref xl), .val (.ref xs), .unset, .unset]) rfl k) ?_
  show Go _ _ _ _ _ _ _ (T6.setTop (mkF m 69 #[.val (.int pa), .val (.int pb), .val (.int va), .val (.int vb), .val (.int v4), .val (.int v5), .val (.ref ch), .val (.ref xl), .val (.ref xs), .unset, .unset] []))
  obtain ⟨T7, h7, X7, e7, E7, A7, D7, -, st7⟩ := newO X6 hx hZ hown (hw _ (List.mem_of_getElem? (i := 45) rfl)) (hw _ (List.mem_of_getElem? (i := 46) rfl)) (hw _ (List.mem_of_getElem? (i := 47) rfl)) rfl (g := (mkF m 69 #[.val (.int pa), .val (.int pb), .val (.int va), .val (.int vb), .val (.int v4), .val (.int v5), .val (.ref ch), .val (.ref xl), .val (.ref xs), .unset, .unset] [])) rfl (hb hby at_69) (by decide) (by decide)
  obtain ⟨ro, gz7⟩ : ∃ z, z = T6.heap.size := ⟨_, rfl⟩
  have ne_ch_ro : ch ≠ ro := Nat.ne_of_lt (Nat.lt_of_lt_of_le A_ch.lt (Nat.le_of_eq gz7.symm))
  have ne_xl_ro : xl ≠ ro := Nat.ne_of_lt (Nat.lt_of_lt_of_le E_xl.lt (Nat.le_of_eq gz7.symm))
  have ne_bd_ro : bd ≠ ro := Nat.ne_of_lt (Nat.lt_of_lt_of_le A_bd.lt (Nat.le_of_eq gz7.symm))
  have ne_xs_ro : xs ≠ ro := Nat.ne_of_lt (Nat.lt_of_lt_of_le E_xs.lt (Nat.le_of_eq gz7.symm))
  have ne_bv_ro : bv ≠ ro := Nat.ne_of_lt (Nat.lt_of_lt_of_le A_bv.lt (Nat.le_of_eq gz7.symm))
  have g_ro : n0 ≤ ro := Nat.le_trans Z6 (Nat.le_of_eq gz7.symm)
  rw [← gz7] at A7 D7 st7
  replace old := Old.ext old E7
  replace A_ch := A_ch.ext E7
  replace E_xl := E_xl.ext E7
  replace F_value_xl := F_value_xl.ext E7
  replace F_coder_xl := F_coder_xl.ext E7
  replace A_bd := A_bd.ext E7
  replace E_xs := E_xs.ext E7
  replace F_value_xs := F_value_xs.ext E7
  replace F_coder_xs := F_coder_xs.ext E7
  replace A_bv := A_bv.ext E7
  have Z7 := Nat.le_trans Z6 E7.1
  have E_ro := A7
  have F_text_ro : Fld Z h7 ro "com/example/vestwright/vestwright/io/Records" "text" "[C" .null := D7 (Or.inl (hw _ (List.mem_of_getElem? (i := 53) rfl))) (ty := (.array .char)) (by decide)
  have F_starts_ro : Fld Z h7 ro "com/example/vestwright/vestwright/io/Records" "starts" "[I" .null := D7 (Or.inl (hw _ (List.mem_of_getElem? (i := 56) rfl))) (ty := (.array .int)) (by decide)
  have F_ends_ro : Fld Z h7 ro "com/example/vestwright/vestwright/io/Records" "ends" "[I" .null := D7 (Or.inl (hw _ (List.mem_of_getElem? (i := 58) rfl))) (ty := (.array .int)) (by decide)
  have F_firstFields_ro : Fld Z h7 ro "com/example/vestwright/vestwright/io/Records" "firstFields" "[I" .null := D7 (Or.inl (hw _ (List.mem_of_getElem? (i := 60) rfl))) (ty := (.array .int)) (by decide)
  have F_lines_ro : Fld Z h7 ro "com/example/vestwright/vestwright/io/Records" "lines" "[I" .null := D7 (Or.inl (hw _ (List.mem_of_getElem? (i := 62) rfl))) (ty := (.array .int)) (by decide)
  have F_faults_ro : Fld Z h7 ro "com/example/vestwright/vestwright/io/Records" "faults" "[Lcom/example/vestwright/vestwright/io/CsvFormatException;" .null := D7 (Or.inl (hw _ (List.mem_of_getElem? (i := 66) rfl))) (ty := (.array (.object "com/example/vestwright/vestwright/io/CsvFormatException"))) (by decide)
  have F_records_ro : Fld Z h7 ro "com/example/vestwright/vestwright/io/Records" "records" "I" (.int (0 : Int32)) := D7 (Or.inl (hw _ (List.mem_of_getElem? (i := 73) rfl))) (ty := .int) (by decide)
  have F_fields_ro : Fld Z h7 ro "com/example/vestwright/vestwright/io/Records" "fields" "I" (.int (0 : Int32)) := D7 (Or.inl (hw _ (List.mem_of_getElem? (i := 75) rfl))) (ty := .int) (by decide)
  have F_textUsed_ro : Fld Z h7 ro "com/example/vestwright/vestwright/io/Records" "textUsed" "I" (.int (0 : Int32)) := D7 (Or.inl (hw _ (List.mem_of_getElem? (i := 115) rfl))) (ty := .int) (by decide)
  refine Go.step st7 ?_
  show Go _ _ _ _ _ _ _ (T7.setTop (mkF m 72 #[.val (.int pa), .val (.int pb), .val (.int va), .val (.int vb), .val (.int v4), .val (.int v5), .val (.ref ch), .val (.ref xl), .val (.ref xs), .unset, .unset] [(.ref ro)]))
  refine Go.step (fun t k => XS.dup X7.here hx rfl (hb hby at_72) rfl rfl k) ?_
  show Go _ _ _ _ _ _ _ (T7.setTop (mkF m 73 #[.val (.int pa), .val (.int pb), .val (.int va), .val (.int vb), .val (.int v4), .val (.int v5), .val (.ref ch), .val (.ref xl), .val (.ref xs), .unset, .unset] [(.ref ro), (.ref ro)]))
  obtain ⟨_, _, ⟨T8, L8, k8, n8⟩, -, X8, ⟨Lc8, hQ8, l8, y8, z8⟩, st8⟩ := X7.specialBack hx (y := (⟨"com/example/vestwright/vestwright/io/Records", "<init>", "()V"⟩ : MethodName)) rfl hown (mvT hZ (hw _ (List.mem_of_getElem? (i := 48) rfl))) (mvT hZ (hw _ (List.mem_of_getElem? (i := 49) rfl))) (mvT hZ (hw _ (List.mem_of_getElem? (i := 50) rfl))) (by decide) (backOf (W := 1) (rm11 l Z a0 hw [] ro h7 n0 Z7 F_text_ro F_starts_ro F_ends_ro F_firstFields_ro F_lines_ro F_faults_ro F_textUsed_ro F_fields_ro F_records_ro E_ro g_ro) hZ (hw _ (List.mem_of_getElem? (i := 50) rfl)) (hw _ (List.mem_of_getElem? (i := 47) rfl)) (by decide) (by decide)) (g := (mkF m 73 #[.val (.int pa), .val (.int pb), .val (.int va), .val (.int vb), .val (.int v4), .val (.int v5), .val (.ref ch), .val (.ref xl), .val (.ref xs), .unset, .unset] [(.ref ro), (.ref ro)])) rfl (by rw [hml]; rfl) (Steps.refl _) (a := ro) (argsL := []) (rest := [(.ref ro)]) (lenOf pd_0_2 rfl) rfl (by show 2 * 0 + _ ≤ _; exact Nat.le_of_eq rfl) (hb hby at_73) (fun _ _ => ⟨rfl, e7, (by decide : 6 + 6 ≤ _), (by decide : 24 + 4800 ≤ _)⟩)
  dsimp only [Pt.U, Pt.locs, Pt.cells, Pt.slots] at X8 l8 y8 z8 st8 hQ8
  subst l8 y8 z8
  obtain ⟨bt, bs, be, bf, bn, bx, rfl, N8q, K8q, o8_F_text_ro, o8_F_starts_ro, o8_F_ends_ro, o8_F_firstFields_ro, o8_F_lines_ro, o8_F_faults_ro, o8_F_textUsed_ro, o8_F_fields_ro, o8_F_records_ro, o8_T_bt, o8_A_bs, o8_A_be, o8_A_bf, o8_A_bn, o8_nw_bt, o8_nw_bs, o8_nw_be, o8_nw_bf, o8_nw_bn, o8_ne_bt_bs, o8_ne_bt_be, o8_ne_bt_bf, o8_ne_bt_bn, o8_ne_bs_be, o8_ne_bs_bf, o8_ne_bs_bn, o8_ne_be_bf, o8_ne_be_bn, o8_ne_bf_bn, o8_ne_ro_bt, o8_ne_ro_bs, o8_ne_ro_be, o8_ne_ro_bf, o8_ne_ro_bn⟩ := hQ8
  have N8 := Fr.app N6 N8q
  have ne_ch_bt : ch ≠ bt := Nat.ne_of_lt (Nat.lt_of_lt_of_le A_ch.lt o8_nw_bt)
  have ne_xl_bt : xl ≠ bt := Nat.ne_of_lt (Nat.lt_of_lt_of_le E_xl.lt o8_nw_bt)
  have ne_bd_bt : bd ≠ bt := Nat.ne_of_lt (Nat.lt_of_lt_of_le A_bd.lt o8_nw_bt)
  have ne_xs_bt : xs ≠ bt := Nat.ne_of_lt (Nat.lt_of_lt_of_le E_xs.lt o8_nw_bt)
  have ne_bv_bt : bv ≠ bt := Nat.ne_of_lt (Nat.lt_of_lt_of_le A_bv.lt o8_nw_bt)
  have ne_ro_bt : ro ≠ bt := Nat.ne_of_lt (Nat.lt_of_lt_of_le E_ro.lt o8_nw_bt)
  have g_bt : n0 ≤ bt := Nat.le_trans Z7 o8_nw_bt
  have ne_ch_bs : ch ≠ bs := Nat.ne_of_lt (Nat.lt_of_lt_of_le A_ch.lt o8_nw_bs)
  have ne_xl_bs : xl ≠ bs := Nat.ne_of_lt (Nat.lt_of_lt_of_le E_xl.lt o8_nw_bs)
  have ne_bd_bs : bd ≠ bs := Nat.ne_of_lt (Nat.lt_of_lt_of_le A_bd.lt o8_nw_bs)
  have ne_xs_bs : xs ≠ bs := Nat.ne_of_lt (Nat.lt_of_lt_of_le E_xs.lt o8_nw_bs)
  have ne_bv_bs : bv ≠ bs := Nat.ne_of_lt (Nat.lt_of_lt_of_le A_bv.lt o8_nw_bs)
  have ne_ro_bs : ro ≠ bs := Nat.ne_of_lt (Nat.lt_of_lt_of_le E_ro.lt o8_nw_bs)
  have g_bs : n0 ≤ bs := Nat.le_trans Z7 o8_nw_bs
  have ne_ch_be : ch ≠ be := Nat.ne_of_lt (Nat.lt_of_lt_of_le A_ch.lt o8_nw_be)
  have ne_xl_be : xl ≠ be := Nat.ne_of_lt (Nat.lt_of_lt_of_le E_xl.lt o8_nw_be)
  have ne_bd_be : bd ≠ be := Nat.ne_of_lt (Nat.lt_of_lt_of_le A_bd.lt o8_nw_be)
  have ne_xs_be : xs ≠ be := Nat.ne_of_lt (Nat.lt_of_lt_of_le E_xs.lt o8_nw_be)
  have ne_bv_be : bv ≠ be := Nat.ne_of_lt (Nat.lt_of_lt_of_le A_bv.lt o8_nw_be)
  have ne_ro_be : ro ≠ be := Nat.ne_of_lt (Nat.lt_of_lt_of_le E_ro.lt o8_nw_be)
  have g_be : n0 ≤ be := Nat.le_trans Z7 o8_nw_be
  have ne_ch_bf : ch ≠ bf := Nat.ne_of_lt (Nat.lt_of_lt_of_le A_ch.lt o8_nw_bf)
  have ne_xl_bf : xl ≠ bf := Nat.ne_of_lt (Nat.lt_of_lt_of_le E_xl.lt o8_nw_bf)
  have ne_bd_bf : bd ≠ bf := Nat.ne_of_lt (Nat.lt_of_lt_of_le A_bd.lt o8_nw_bf)
  have ne_xs_bf : xs ≠ bf := Nat.ne_of_lt (Nat.lt_of_lt_of_le E_xs.lt o8_nw_bf)
  have ne_bv_bf : bv ≠ bf := Nat.ne_of_lt (Nat.lt_of_lt_of_le A_bv.lt o8_nw_bf)
  have ne_ro_bf : ro ≠ bf := Nat.ne_of_lt (Nat.lt_of_lt_of_le E_ro.lt o8_nw_bf)
  have g_bf : n0 ≤ bf := Nat.le_trans Z7 o8_nw_bf
  have ne_ch_bn : ch ≠ bn := Nat.ne_of_lt (Nat.lt_of_lt_of_le A_ch.lt o8_nw_bn)
  have ne_xl_bn : xl ≠ bn := Nat.ne_of_lt (Nat.lt_of_lt_of_le E_xl.lt o8_nw_bn)
  have ne_bd_bn : bd ≠ bn := Nat.ne_of_lt (Nat.lt_of_lt_of_le A_bd.lt o8_nw_bn)
  have ne_xs_bn : xs ≠ bn := Nat.ne_of_lt (Nat.lt_of_lt_of_le E_xs.lt o8_nw_bn)
  have ne_bv_bn : bv ≠ bn := Nat.ne_of_lt (Nat.lt_of_lt_of_le A_bv.lt o8_nw_bn)
  have ne_ro_bn : ro ≠ bn := Nat.ne_of_lt (Nat.lt_of_lt_of_le E_ro.lt o8_nw_bn)
  have g_bn : n0 ≤ bn := Nat.le_trans Z7 o8_nw_bn
  replace old := Old.keep old K8q (allS g_ro all0)
  replace A_ch := A_ch.keep K8q (ninS ne_ch_ro nin0)
  replace E_xl := E_xl.keep K8q
  replace F_value_xl := F_value_xl.keep K8q (ninS ne_xl_ro nin0)
  replace F_coder_xl := F_coder_xl.keep K8q (ninS ne_xl_ro nin0)
  replace A_bd := A_bd.keep K8q (ninS ne_bd_ro nin0)
  replace E_xs := E_xs.keep K8q
  replace F_value_xs := F_value_xs.keep K8q (ninS ne_xs_ro nin0)
  replace F_coder_xs := F_coder_xs.keep K8q (ninS ne_xs_ro nin0)
  replace A_bv := A_bv.keep K8q (ninS ne_bv_ro nin0)
  replace E_ro := E_ro.keep K8q
  have Z8 := Nat.le_trans Z7 K8q.1
  have F_text_ro := o8_F_text_ro
  have F_starts_ro := o8_F_starts_ro
  have F_ends_ro := o8_F_ends_ro
  have F_firstFields_ro := o8_F_firstFields_ro
  have F_lines_ro := o8_F_lines_ro
  have F_faults_ro := o8_F_faults_ro
  have F_textUsed_ro := o8_F_textUsed_ro
  have F_fields_ro := o8_F_fields_ro
  have F_records_ro := o8_F_records_ro
  have T_bt := o8_T_bt
  have A_bs := o8_A_bs
  have A_be := o8_A_be
  have A_bf := o8_A_bf
  have A_bn := o8_A_bn
  refine Go.step (fun t k => st8.trans k) ?_
  show Go _ _ _ _ _ _ _ (T8.setTop (mkF m 76 #[.val (.int pa), .val (.int pb), .val (.int va), .val (.int vb), .val (.int v4), .val (.int v5), .val (.ref ch), .val (.ref xl), .val (.ref xs), .unset, .unset] [(.ref ro)]))
  refine Go.step (fun t k => XS.astore X8.here hx rfl (hb hby at_76) rfl rfl (l' := #[.val (.int pa), .val (.int pb), .val (.int va), .val (.int vb), .val (.int v4), .val (.int v5), .val (.ref ch), .val (.ref xl), .val (.ref xs), .val (.ref ro), .unset]) rfl k) ?_
  show Go _ _ _ _ _ _ _ (T8.setTop (mkF m 78 #[.val (.int pa), .val (.int pb), .val (.int va), .val (.int vb), .val (.int v4), .val (.int v5), .val (.ref ch), .val (.ref xl), .val (.ref xs), .val (.ref ro), .unset] []))
  refine Go.step (fun t k => XS.aload X8.here hx rfl (hb hby at_78) rfl rfl k) ?_
  show Go _ _ _ _ _ _ _ (T8.setTop (mkF m 80 #[.val (.int pa), .val (.int pb), .val (.int va), .val (.int vb), .val (.int v4), .val (.int v5), .val (.ref ch), .val (.ref xl), .val (.ref xs), .val (.ref ro), .unset] [(.ref ro)]))
  refine Go.step (fun t k => XS.iconst X8.here hx rfl (hb hby at_80) k) ?_
  show Go _ _ _ _ _ _ _ (T8.setTop (mkF m 81 #[.val (.int pa), .val (.int pb), .val (.int va), .val (.int vb), .val (.int v4), .val (.int v5), .val (.ref ch), .val (.ref xl), .val (.ref xs), .val (.ref ro), .unset] [(.int (1 : Int32)), (.ref ro)]))
  obtain ⟨cq9, kq9, q9a, q9b, q9c⟩ := isOf hZ rfl E_ro
  obtain ⟨_, _, ⟨T9, L9, k9, n9⟩, -, X9, ⟨Lc9, hQ9, l9, y9, z9⟩, st9⟩ := X8.virtualBack hx (y := (⟨"com/example/vestwright/vestwright/io/Records", "startRecord", "(I)V"⟩ : MethodName)) (z := (⟨"com/example/vestwright/vestwright/io/Records", "startRecord", "(I)V"⟩ : MethodName)) hown (mvT hZ (hw _ (List.mem_of_getElem? (i := 67) rfl))) (mvT hZ (hw _ (List.mem_of_getElem? (i := 68) rfl))) (notFace_of_selects (args := #[]) (mvT hZ (hw _ (List.mem_of_getElem? (i := 70) rfl)))) (mvT hZ (hw _ (List.mem_of_getElem? (i := 70) rfl))) (mvT hZ (hw _ (List.mem_of_getElem? (i := 69) rfl))) (by decide) (backOf (W := 0) (rm12 l Z a0 hw [] ro (1 : Int32) bt bs be bf bn bx (0 : Int32) (0 : Int32) (0 : Int32) 0 (fun _ => (0 : Int32)) (fun _ => (0 : Int32)) T8.heap n0 Z8 F_text_ro F_starts_ro F_ends_ro F_firstFields_ro F_lines_ro F_faults_ro F_textUsed_ro F_fields_ro F_records_ro E_ro g_bf g_bn A_bf A_bn o8_ne_bf_bn o8_ne_ro_bf o8_ne_ro_bn rfl (by decide)) hZ (hw _ (List.mem_of_getElem? (i := 71) rfl)) (hw _ (List.mem_of_getElem? (i := 47) rfl)) (by decide) (by decide)) q9a q9c (g := (mkF m 81 #[.val (.int pa), .val (.int pb), .val (.int va), .val (.int vb), .val (.int v4), .val (.int v5), .val (.ref ch), .val (.ref xl), .val (.ref xs), .val (.ref ro), .unset] [(.int (1 : Int32)), (.ref ro)])) rfl (by rw [hml]; rfl) (Steps.refl _) (argsL := [(.int (1 : Int32))]) (rest := []) (lenOf pd_0_3 rfl) rfl (by show 2 * 0 + _ ≤ _; exact Nat.le_of_eq rfl) (hb hby at_81) (fun _ _ => ⟨rfl, rfl, (by decide : 12 + 0 ≤ _), (by decide : 4824 + 0 ≤ _)⟩)
  dsimp only [Pt.U, Pt.locs, Pt.cells, Pt.slots] at X9 l9 y9 z9 st9 hQ9
  subst l9 y9 z9
  obtain ⟨rfl, N9q, K9q, o9_A_bf, o9_A_bn⟩ := hQ9
  have N9 := Fr.app N8 N9q
  replace old := Old.keep old K9q (allS g_bf (allS g_bn all0))
  replace A_ch := A_ch.keep K9q (ninS ne_ch_bf (ninS ne_ch_bn nin0))
  replace E_xl := E_xl.keep K9q
  replace F_value_xl := F_value_xl.keep K9q (ninS ne_xl_bf (ninS ne_xl_bn nin0))
  replace F_coder_xl := F_coder_xl.keep K9q (ninS ne_xl_bf (ninS ne_xl_bn nin0))
  replace A_bd := A_bd.keep K9q (ninS ne_bd_bf (ninS ne_bd_bn nin0))
  replace E_xs := E_xs.keep K9q
  replace F_value_xs := F_value_xs.keep K9q (ninS ne_xs_bf (ninS ne_xs_bn nin0))
  replace F_coder_xs := F_coder_xs.keep K9q (ninS ne_xs_bf (ninS ne_xs_bn nin0))
  replace A_bv := A_bv.keep K9q (ninS ne_bv_bf (ninS ne_bv_bn nin0))
  replace E_ro := E_ro.keep K9q
  replace F_text_ro := F_text_ro.keep K9q (ninS o8_ne_ro_bf (ninS o8_ne_ro_bn nin0))
  replace F_starts_ro := F_starts_ro.keep K9q (ninS o8_ne_ro_bf (ninS o8_ne_ro_bn nin0))
  replace F_ends_ro := F_ends_ro.keep K9q (ninS o8_ne_ro_bf (ninS o8_ne_ro_bn nin0))
  replace F_firstFields_ro := F_firstFields_ro.keep K9q (ninS o8_ne_ro_bf (ninS o8_ne_ro_bn nin0))
  replace F_lines_ro := F_lines_ro.keep K9q (ninS o8_ne_ro_bf (ninS o8_ne_ro_bn nin0))
  replace F_faults_ro := F_faults_ro.keep K9q (ninS o8_ne_ro_bf (ninS o8_ne_ro_bn nin0))
  replace F_textUsed_ro := F_textUsed_ro.keep K9q (ninS o8_ne_ro_bf (ninS o8_ne_ro_bn nin0))
  replace F_fields_ro := F_fields_ro.keep K9q (ninS o8_ne_ro_bf (ninS o8_ne_ro_bn nin0))
  replace F_records_ro := F_records_ro.keep K9q (ninS o8_ne_ro_bf (ninS o8_ne_ro_bn nin0))
  replace T_bt := T_bt.keep K9q (ninS o8_ne_bt_bf (ninS o8_ne_bt_bn nin0))
  replace A_bs := A_bs.keep K9q (ninS o8_ne_bs_bf (ninS o8_ne_bs_bn nin0))
  replace A_be := A_be.keep K9q (ninS o8_ne_be_bf (ninS o8_ne_be_bn nin0))
  have Z9 := Nat.le_trans Z8 K9q.1
  have A_bf := o9_A_bf
  have A_bn := o9_A_bn
  refine Go.step (fun t k => st9.trans k) ?_
  show Go _ _ _ _ _ _ _ (T9.setTop (mkF m 84 #[.val (.int pa), .val (.int pb), .val (.int va), .val (.int vb), .val (.int v4), .val (.int v5), .val (.ref ch), .val (.ref xl), .val (.ref xs), .val (.ref ro), .unset] []))
  have cut1 : ∀ (Tc_cut1 : State) (hc_cut1 : Heap) (lc : List Loc) (tu1 : Int32) (fv1 : Int32) (gs1 : Nat → Int32) (ge1 : Nat → Int32), (Stand p l e room_1 s m #[(.int pa), (.int pb)] below meth c Tc_cut1 lc 12 4824) → (Tc_cut1.heap = hc_cut1) → (Fr n0 lc) → (n0 ≤ hc_cut1.size) → (Old Z n0 hc_cut1) → (AryI Z hc_cut1 ch .char 2 (up (up (fun _ => (0 : Int32)) 0 (nar .char v4)) 1 (nar .char v5))) → (Exa Z hc_cut1 xl "java/lang/String") → (Fld Z hc_cut1 xl "java/lang/String" "value" "[B" (.ref bd)) → (Fld Z hc_cut1 xl "java/lang/String" "coder" "B" (.int (0 : Int32))) → (AryI Z hc_cut1 bd .byte 2 (up (up (fun _ => (0 : Int32)) 0 (nar .byte ((nar .char v4).toInt8.toInt32))) 1 (nar .byte ((nar .char v5).toInt8.toInt32)))) → (Exa Z hc_cut1 xs "java/lang/String") → (Fld Z hc_cut1 xs "java/lang/String" "value" "[B" (.ref bv)) → (Fld Z hc_cut1 xs "java/lang/String" "coder" "B" (.int (0 : Int32))) → (AryI Z hc_cut1 bv .byte 1 (up (fun _ => (0 : Int32)) 0 (nar .byte (v5.toInt8.toInt32)))) → (Exa Z hc_cut1 ro "com/example/vestwright/vestwright/io/Records") → (Fld Z hc_cut1 ro "com/example/vestwright/vestwright/io/Records" "text" "[C" (.ref bt)) → (Fld Z hc_cut1 ro "com/example/vestwright/vestwright/io/Records" "starts" "[I" (.ref bs)) → (Fld Z hc_cut1 ro "com/example/vestwright/vestwright/io/Records" "ends" "[I" (.ref be)) → (Fld Z hc_cut1 ro "com/example/vestwright/vestwright/io/Records" "firstFields" "[I" (.ref bf)) → (Fld Z hc_cut1 ro "com/example/vestwright/vestwright/io/Records" "lines" "[I" (.ref bn)) → (Fld Z hc_cut1 ro "com/example/vestwright/vestwright/io/Records" "faults" "[Lcom/example/vestwright/vestwright/io/CsvFormatException;" (.ref bx)) → (Fld Z hc_cut1 ro "com/example/vestwright/vestwright/io/Records" "textUsed" "I" (.int tu1)) → (Fld Z hc_cut1 ro "com/example/vestwright/vestwright/io/Records" "fields" "I" (.int fv1)) → (Fld Z hc_cut1 ro "com/example/vestwright/vestwright/io/Records" "records" "I" (.int (0 : Int32))) → (Txt Z hc_cut1 bt 4096) → (AryI Z hc_cut1 bs .int 256 gs1) → (AryI Z hc_cut1 be .int 256 ge1) → (AryI Z hc_cut1 bf .int 64 (up (fun _ => (0 : Int32)) 0 (0 : Int32))) → (AryI Z hc_cut1 bn .int 64 (up (fun _ => (0 : Int32)) 0 (1 : Int32))) → (fv1.toInt = ((0 : Int32)).toInt + va.toInt) → (0 ≤ tu1.toInt ∧ tu1.toInt ≤ 3) → Go p e below s (Q0 Z pa pb cs fm h0 n0) 32 9728 (Tc_cut1.setTop (mkF m 108 #[.val (.int pa), .val (.int pb), .val (.int va), .val (.int vb), .val (.int v4), .val (.int v5), .val (.ref ch), .val (.ref xl), .val (.ref xs), .val (.ref ro), .unset] [])) := by
    intro Tc_cut1 hc_cut1 lc tu1 fv1 gs1 ge1 Xc_cut1 ec_cut1 Nc_cut1 Zc_cut1 old A_ch E_xl F_value_xl F_coder_xl A_bd E_xs F_value_xs F_coder_xs A_bv E_ro F_text_ro F_starts_ro F_ends_ro F_firstFields_ro F_lines_ro F_faults_ro F_textUsed_ro F_fields_ro F_records_ro T_bt A_bs A_be A_bf A_bn hf1 ht1
    show Go _ _ _ _ _ _ _ (Tc_cut1.setTop (mkF m 108 #[.val (.int pa), .val (.int pb), .val (.int va), .val (.int vb), .val (.int v4), .val (.int v5), .val (.ref ch), .val (.ref xl), .val (.ref xs), .val (.ref ro), .unset] []))
    refine Go.step (fun t k => XS.aload Xc_cut1.here hx rfl (hb hby at_108) rfl rfl k) ?_
    show Go _ _ _ _ _ _ _ (Tc_cut1.setTop (mkF m 110 #[.val (.int pa), .val (.int pb), .val (.int va), .val (.int vb), .val (.int v4), .val (.int v5), .val (.ref ch), .val (.ref xl), .val (.ref xs), .val (.ref ro), .unset] [(.ref ro)]))
    obtain ⟨cq10, kq10, q10a, q10b, q10c⟩ := isOf hZ ec_cut1 E_ro
    obtain ⟨_, _, ⟨T10, L10, k10, n10⟩, -, X10, ⟨Lc10, hQ10, l10, y10, z10⟩, st10⟩ := Xc_cut1.virtualBack hx (y := (⟨"com/example/vestwright/vestwright/io/Records", "endRecord", "()V"⟩ : MethodName)) (z := (⟨"com/example/vestwright/vestwright/io/Records", "endRecord", "()V"⟩ : MethodName)) hown (mvT hZ (hw _ (List.mem_of_getElem? (i := 76) rfl))) (mvT hZ (hw _ (List.mem_of_getElem? (i := 77) rfl))) (notFace_of_selects (args := #[]) (mvT hZ (hw _ (List.mem_of_getElem? (i := 79) rfl)))) (mvT hZ (hw _ (List.mem_of_getElem? (i := 79) rfl))) (mvT hZ (hw _ (List.mem_of_getElem? (i := 78) rfl))) (by decide) (backOf (W := 0) (rm13 l Z a0 hw [] ro bt bs be bf bn bx tu1 fv1 (0 : Int32) 0 (up (fun _ => (0 : Int32)) 0 (0 : Int32)) hc_cut1 n0 Zc_cut1 F_text_ro F_starts_ro F_ends_ro F_firstFields_ro F_lines_ro F_faults_ro F_textUsed_ro F_fields_ro F_records_ro E_ro g_ro g_bf A_bf o8_ne_ro_bf rfl (by decide)) hZ (hw _ (List.mem_of_getElem? (i := 80) rfl)) (hw _ (List.mem_of_getElem? (i := 47) rfl)) (by decide) (by decide)) q10a q10c (g := (mkF m 110 #[.val (.int pa), .val (.int pb), .val (.int va), .val (.int vb), .val (.int v4), .val (.int v5), .val (.ref ch), .val (.ref xl), .val (.ref xs), .val (.ref ro), .unset] [(.ref ro)])) rfl (by rw [hml]; rfl) (Steps.refl _) (argsL := []) (rest := []) (lenOf pd_0_2 rfl) rfl (by show 2 * 0 + _ ≤ _; exact Nat.le_of_eq rfl) (hb hby at_110) (fun _ _ => ⟨rfl, ec_cut1, (by decide : 12 + 0 ≤ _), (by decide : 4824 + 0 ≤ _)⟩)
    dsimp only [Pt.U, Pt.locs, Pt.cells, Pt.slots] at X10 l10 y10 z10 st10 hQ10
    subst l10 y10 z10
    obtain ⟨rfl, N10q, K10q, o10_F_text_ro, o10_F_starts_ro, o10_F_ends_ro, o10_F_firstFields_ro, o10_F_lines_ro, o10_F_faults_ro, o10_F_textUsed_ro, o10_F_fields_ro, o10_F_records_ro, o10_A_bf⟩ := hQ10
    have N10 := Fr.app Nc_cut1 N10q
    replace old := Old.keep old K10q (allS g_ro (allS g_bf all0))
    replace A_ch := A_ch.keep K10q (ninS ne_ch_ro (ninS ne_ch_bf nin0))
    replace E_xl := E_xl.keep K10q
    replace F_value_xl := F_value_xl.keep K10q (ninS ne_xl_ro (ninS ne_xl_bf nin0))
    replace F_coder_xl := F_coder_xl.keep K10q (ninS ne_xl_ro (ninS ne_xl_bf nin0))
    replace A_bd := A_bd.keep K10q (ninS ne_bd_ro (ninS ne_bd_bf nin0))
    replace E_xs := E_xs.keep K10q
    replace F_value_xs := F_value_xs.keep K10q (ninS ne_xs_ro (ninS ne_xs_bf nin0))
    replace F_coder_xs := F_coder_xs.keep K10q (ninS ne_xs_ro (ninS ne_xs_bf nin0))
    replace A_bv := A_bv.keep K10q (ninS ne_bv_ro (ninS ne_bv_bf nin0))
    replace E_ro := E_ro.keep K10q
    replace T_bt := T_bt.keep K10q (ninS (Ne.symm o8_ne_ro_bt) (ninS o8_ne_bt_bf nin0))
    replace A_bs := A_bs.keep K10q (ninS (Ne.symm o8_ne_ro_bs) (ninS o8_ne_bs_bf nin0))
    replace A_be := A_be.keep K10q (ninS (Ne.symm o8_ne_ro_be) (ninS o8_ne_be_bf nin0))
    replace A_bn := A_bn.keep K10q (ninS (Ne.symm o8_ne_ro_bn) (ninS (Ne.symm o8_ne_bf_bn) nin0))
    have Z10 := Nat.le_trans Zc_cut1 K10q.1
    have F_text_ro := o10_F_text_ro
    have F_starts_ro := o10_F_starts_ro
    have F_ends_ro := o10_F_ends_ro
    have F_firstFields_ro := o10_F_firstFields_ro
    have F_lines_ro := o10_F_lines_ro
    have F_faults_ro := o10_F_faults_ro
    have F_textUsed_ro := o10_F_textUsed_ro
    have F_fields_ro := o10_F_fields_ro
    have F_records_ro := o10_F_records_ro
    have A_bf := o10_A_bf
    refine Go.step (fun t k => st10.trans k) ?_
    show Go _ _ _ _ _ _ _ (T10.setTop (mkF m 113 #[.val (.int pa), .val (.int pb), .val (.int va), .val (.int vb), .val (.int v4), .val (.int v5), .val (.ref ch), .val (.ref xl), .val (.ref xs), .val (.ref ro), .unset] []))
    refine Go.step (fun t k => XS.aload X10.here hx rfl (hb hby at_113) rfl rfl k) ?_
    show Go _ _ _ _ _ _ _ (T10.setTop (mkF m 115 #[.val (.int pa), .val (.int pb), .val (.int va), .val (.int vb), .val (.int v4), .val (.int v5), .val (.ref ch), .val (.ref xl), .val (.ref xs), .val (.ref ro), .unset] [(.ref ro)]))
    obtain ⟨cq11, kq11, q11a, q11b, q11c⟩ := isOf hZ rfl E_ro
    obtain ⟨_, _, ⟨T11, L11, k11, n11⟩, -, X11, ⟨Lc11, hQ11, l11, y11, z11⟩, st11⟩ := X10.virtualBack hx (y := (⟨"com/example/vestwright/vestwright/io/Records", "size", "()I"⟩ : MethodName)) (z := (⟨"com/example/vestwright/vestwright/io/Records", "size", "()I"⟩ : MethodName)) hown (mvT hZ (hw _ (List.mem_of_getElem? (i := 81) rfl))) (mvT hZ (hw _ (List.mem_of_getElem? (i := 82) rfl))) (notFace_of_selects (args := #[]) (mvT hZ (hw _ (List.mem_of_getElem? (i := 84) rfl)))) (mvT hZ (hw _ (List.mem_of_getElem? (i := 84) rfl))) (mvT hZ (hw _ (List.mem_of_getElem? (i := 83) rfl))) (by decide) (backOf (W := 0) (rm14 l Z a0 hw [] ro (1 : Int32) T10.heap n0 Z10 F_records_ro) hZ (hw _ (List.mem_of_getElem? (i := 85) rfl)) (hw _ (List.mem_of_getElem? (i := 47) rfl)) (by decide) (by decide)) q11a q11c (g := (mkF m 115 #[.val (.int pa), .val (.int pb), .val (.int va), .val (.int vb), .val (.int v4), .val (.int v5), .val (.ref ch), .val (.ref xl), .val (.ref xs), .val (.ref ro), .unset] [(.ref ro)])) rfl (by rw [hml]; rfl) (Steps.refl _) (argsL := []) (rest := []) (lenOf pd_0_4 rfl) rfl (by show 2 * 0 + _ ≤ _; exact Nat.le_of_eq rfl) (hb hby at_115) (fun _ _ => ⟨rfl, rfl, (by decide : 12 + 0 ≤ _), (by decide : 4824 + 0 ≤ _)⟩)
    dsimp only [Pt.U, Pt.locs, Pt.cells, Pt.slots] at X11 l11 y11 z11 st11 hQ11
    subst l11 y11 z11
    obtain ⟨rfl, N11q, K11q⟩ := hQ11
    have N11 := Fr.app N10 N11q
    refine Go.step (fun t k => st11.trans k) ?_
    show Go _ _ _ _ _ _ _ (T11.setTop (mkF m 118 #[.val (.int pa), .val (.int pb), .val (.int va), .val (.int vb), .val (.int v4), .val (.int v5), .val (.ref ch), .val (.ref xl), .val (.ref xs), .val (.ref ro), .unset] [(.int (1 : Int32))]))
    refine Go.step (fun t k => XS.iconst X11.here hx rfl (hb hby at_118) k) ?_
    show Go _ _ _ _ _ _ _ (T11.setTop (mkF m 119 #[.val (.int pa), .val (.int pb), .val (.int va), .val (.int vb), .val (.int v4), .val (.int v5), .val (.ref ch), .val (.ref xl), .val (.ref xs), .val (.ref ro), .unset] [(.int (1 : Int32)), (.int (1 : Int32))]))
    refine Go.step (fun t k => XS.icmpNo X11.here hx rfl (hb hby at_119) rfl (teq (by decide : (1 : Int32) = (1 : Int32))).2 k) ?_
    show Go _ _ _ _ _ _ _ (T11.setTop (mkF m 122 #[.val (.int pa), .val (.int pb), .val (.int va), .val (.int vb), .val (.int v4), .val (.int v5), .val (.ref ch), .val (.ref xl), .val (.ref xs), .val (.ref ro), .unset] []))
    refine Go.step (fun t k => XS.aload X11.here hx rfl (hb hby at_122) rfl rfl k) ?_
    show Go _ _ _ _ _ _ _ (T11.setTop (mkF m 124 #[.val (.int pa), .val (.int pb), .val (.int va), .val (.int vb), .val (.int v4), .val (.int v5), .val (.ref ch), .val (.ref xl), .val (.ref xs), .val (.ref ro), .unset] [(.ref ro)]))
    refine Go.step (fun t k => XS.iconst X11.here hx rfl (hb hby at_124) k) ?_
    show Go _ _ _ _ _ _ _ (T11.setTop (mkF m 125 #[.val (.int pa), .val (.int pb), .val (.int va), .val (.int vb), .val (.int v4), .val (.int v5), .val (.ref ch), .val (.ref xl), .val (.ref xs), .val (.ref ro), .unset] [(.int (0 : Int32)), (.ref ro)]))
    obtain ⟨cq12, kq12, q12a, q12b, q12c⟩ := isOf hZ K11q E_ro
    obtain ⟨_, _, ⟨T12, L12, k12, n12⟩, -, X12, ⟨Lc12, hQ12, l12, y12, z12⟩, st12⟩ := X11.virtualBack hx (y := (⟨"com/example/vestwright/vestwright/io/Records", "width", "(I)I"⟩ : MethodName)) (z := (⟨"com/example/vestwright/vestwright/io/Records", "width", "(I)I"⟩ : MethodName)) hown (mvT hZ (hw _ (List.mem_of_getElem? (i := 86) rfl))) (mvT hZ (hw _ (List.mem_of_getElem? (i := 87) rfl))) (notFace_of_selects (args := #[]) (mvT hZ (hw _ (List.mem_of_getElem? (i := 89) rfl)))) (mvT hZ (hw _ (List.mem_of_getElem? (i := 89) rfl))) (mvT hZ (hw _ (List.mem_of_getElem? (i := 88) rfl))) (by decide) (backOf (W := 0) (rm15 l Z a0 hw [] ro (0 : Int32) bf (up (up (fun _ => (0 : Int32)) 0 (0 : Int32)) 1 fv1) 0 T10.heap n0 Z10 F_firstFields_ro A_bf rfl (by decide)) hZ (hw _ (List.mem_of_getElem? (i := 90) rfl)) (hw _ (List.mem_of_getElem? (i := 47) rfl)) (by decide) (by decide)) q12a q12c (g := (mkF m 125 #[.val (.int pa), .val (.int pb), .val (.int va), .val (.int vb), .val (.int v4), .val (.int v5), .val (.ref ch), .val (.ref xl), .val (.ref xs), .val (.ref ro), .unset] [(.int (0 : Int32)), (.ref ro)])) rfl (by rw [hml]; rfl) (Steps.refl _) (argsL := [(.int (0 : Int32))]) (rest := []) (lenOf pd_0_5 rfl) rfl (by show 2 * 0 + _ ≤ _; exact Nat.le_of_eq rfl) (hb hby at_125) (fun _ _ => ⟨rfl, K11q, (by decide : 12 + 0 ≤ _), (by decide : 4824 + 0 ≤ _)⟩)
    dsimp only [Pt.U, Pt.locs, Pt.cells, Pt.slots] at X12 l12 y12 z12 st12 hQ12
    subst l12 y12 z12
    obtain ⟨rfl, N12q, K12q⟩ := hQ12
    have N12 := Fr.app N11 N12q
    refine Go.step (fun t k => st12.trans k) ?_
    show Go _ _ _ _ _ _ _ (T12.setTop (mkF m 128 #[.val (.int pa), .val (.int pb), .val (.int va), .val (.int vb), .val (.int v4), .val (.int v5), .val (.ref ch), .val (.ref xl), .val (.ref xs), .val (.ref ro), .unset] [(.int (fv1 - (0 : Int32)))]))
    refine Go.step (fun t k => XS.iloadN X12.here hx rfl (hb hby at_128) rfl k) ?_
    show Go _ _ _ _ _ _ _ (T12.setTop (mkF m 129 #[.val (.int pa), .val (.int pb), .val (.int va), .val (.int vb), .val (.int v4), .val (.int v5), .val (.ref ch), .val (.ref xl), .val (.ref xs), .val (.ref ro), .unset] [(.int va), (.int (fv1 - (0 : Int32)))]))
    refine Go.step (fun t k => XS.icmpNo X12.here hx rfl (hb hby at_129) rfl (teq (own_w rfl hf1 (own_m3 hva) : (fv1 - (0 : Int32)) = va)).2 k) ?_
    show Go _ _ _ _ _ _ _ (T12.setTop (mkF m 132 #[.val (.int pa), .val (.int pb), .val (.int va), .val (.int vb), .val (.int v4), .val (.int v5), .val (.ref ch), .val (.ref xl), .val (.ref xs), .val (.ref ro), .unset] []))
    refine Go.step (fun t k => XS.iconst X12.here hx rfl (hb hby at_132) k) ?_
    show Go _ _ _ _ _ _ _ (T12.setTop (mkF m 133 #[.val (.int pa), .val (.int pb), .val (.int va), .val (.int vb), .val (.int v4), .val (.int v5), .val (.ref ch), .val (.ref xl), .val (.ref xs), .val (.ref ro), .unset] [(.int (1 : Int32))]))
    refine Go.step (fun t k => XS.goto X12.here hx rfl (pc0 := 133) (pc' := 137) rfl (hb hby at_133) (by decide) (by decide) k) ?_
    show Go _ _ _ _ _ _ _ (T12.setTop (mkF m 137 #[.val (.int pa), .val (.int pb), .val (.int va), .val (.int vb), .val (.int v4), .val (.int v5), .val (.ref ch), .val (.ref xl), .val (.ref xs), .val (.ref ro), .unset] [(.int (1 : Int32))]))
    refine Go.step (fun t k => XS.istore X12.here hx rfl (hb hby at_137) rfl (l' := #[.val (.int pa), .val (.int pb), .val (.int va), .val (.int vb), .val (.int v4), .val (.int v5), .val (.ref ch), .val (.ref xl), .val (.ref xs), .val (.ref ro), .val (.int (1 : Int32))]) rfl k) ?_
    show Go _ _ _ _ _ _ _ (T12.setTop (mkF m 139 #[.val (.int pa), .val (.int pb), .val (.int va), .val (.int vb), .val (.int v4), .val (.int v5), .val (.ref ch), .val (.ref xl), .val (.ref xs), .val (.ref ro), .val (.int (1 : Int32))] []))
    refine Go.step (fun t k => XS.aload X12.here hx rfl (hb hby at_139) rfl rfl k) ?_
    show Go _ _ _ _ _ _ _ (T12.setTop (mkF m 141 #[.val (.int pa), .val (.int pb), .val (.int va), .val (.int vb), .val (.int v4), .val (.int v5), .val (.ref ch), .val (.ref xl), .val (.ref xs), .val (.ref ro), .val (.int (1 : Int32))] [(.ref ro)]))
    refine Go.step (fun t k => XS.iconst X12.here hx rfl (hb hby at_141) k) ?_
    show Go _ _ _ _ _ _ _ (T12.setTop (mkF m 142 #[.val (.int pa), .val (.int pb), .val (.int va), .val (.int vb), .val (.int v4), .val (.int v5), .val (.ref ch), .val (.ref xl), .val (.ref xs), .val (.ref ro), .val (.int (1 : Int32))] [(.int (2 : Int32)), (.ref ro)]))
    obtain ⟨cq13, kq13, q13a, q13b, q13c⟩ := isOf hZ K12q E_ro
    obtain ⟨_, _, ⟨T13, L13, k13, n13⟩, -, X13, ⟨Lc13, hQ13, l13, y13, z13⟩, st13⟩ := X12.virtualBack hx (y := (⟨"com/example/vestwright/vestwright/io/Records", "startRecord", "(I)V"⟩ : MethodName)) (z := (⟨"com/example/vestwright/vestwright/io/Records", "startRecord", "(I)V"⟩ : MethodName)) hown (mvT hZ (hw _ (List.mem_of_getElem? (i := 67) rfl))) (mvT hZ (hw _ (List.mem_of_getElem? (i := 68) rfl))) (notFace_of_selects (args := #[]) (mvT hZ (hw _ (List.mem_of_getElem? (i := 70) rfl)))) (mvT hZ (hw _ (List.mem_of_getElem? (i := 70) rfl))) (mvT hZ (hw _ (List.mem_of_getElem? (i := 69) rfl))) (by decide) (backOf (W := 0) (rm12 l Z a0 hw [] ro (2 : Int32) bt bs be bf bn bx tu1 fv1 (1 : Int32) 1 (up (up (fun _ => (0 : Int32)) 0 (0 : Int32)) 1 fv1) (up (fun _ => (0 : Int32)) 0 (1 : Int32)) T10.heap n0 Z10 F_text_ro F_starts_ro F_ends_ro F_firstFields_ro F_lines_ro F_faults_ro F_textUsed_ro F_fields_ro F_records_ro E_ro g_bf g_bn A_bf A_bn o8_ne_bf_bn o8_ne_ro_bf o8_ne_ro_bn rfl (by decide)) hZ (hw _ (List.mem_of_getElem? (i := 71) rfl)) (hw _ (List.mem_of_getElem? (i := 47) rfl)) (by decide) (by decide)) q13a q13c (g := (mkF m 142 #[.val (.int pa), .val (.int pb), .val (.int va), .val (.int vb), .val (.int v4), .val (.int v5), .val (.ref ch), .val (.ref xl), .val (.ref xs), .val (.ref ro), .val (.int (1 : Int32))] [(.int (2 : Int32)), (.ref ro)])) rfl (by rw [hml]; rfl) (Steps.refl _) (argsL := [(.int (2 : Int32))]) (rest := []) (lenOf pd_0_3 rfl) rfl (by show 2 * 0 + _ ≤ _; exact Nat.le_of_eq rfl) (hb hby at_142) (fun _ _ => ⟨rfl, K12q, (by decide : 12 + 0 ≤ _), (by decide : 4824 + 0 ≤ _)⟩)
    dsimp only [Pt.U, Pt.locs, Pt.cells, Pt.slots] at X13 l13 y13 z13 st13 hQ13
    subst l13 y13 z13
    obtain ⟨rfl, N13q, K13q, o13_A_bf, o13_A_bn⟩ := hQ13
    have N13 := Fr.app N12 N13q
    replace old := Old.keep old K13q (allS g_bf (allS g_bn all0))
    replace A_ch := A_ch.keep K13q (ninS ne_ch_bf (ninS ne_ch_bn nin0))
    replace E_xl := E_xl.keep K13q
    replace F_value_xl := F_value_xl.keep K13q (ninS ne_xl_bf (ninS ne_xl_bn nin0))
    replace F_coder_xl := F_coder_xl.keep K13q (ninS ne_xl_bf (ninS ne_xl_bn nin0))
    replace A_bd := A_bd.keep K13q (ninS ne_bd_bf (ninS ne_bd_bn nin0))
    replace E_xs := E_xs.keep K13q
    replace F_value_xs := F_value_xs.keep K13q (ninS ne_xs_bf (ninS ne_xs_bn nin0))
    replace F_coder_xs := F_coder_xs.keep K13q (ninS ne_xs_bf (ninS ne_xs_bn nin0))
    replace A_bv := A_bv.keep K13q (ninS ne_bv_bf (ninS ne_bv_bn nin0))
    replace E_ro := E_ro.keep K13q
    replace T_bt := T_bt.keep K13q (ninS o8_ne_bt_bf (ninS o8_ne_bt_bn nin0))
    replace A_bs := A_bs.keep K13q (ninS o8_ne_bs_bf (ninS o8_ne_bs_bn nin0))
    replace A_be := A_be.keep K13q (ninS o8_ne_be_bf (ninS o8_ne_be_bn nin0))
    replace F_text_ro := F_text_ro.keep K13q (ninS o8_ne_ro_bf (ninS o8_ne_ro_bn nin0))
    replace F_starts_ro := F_starts_ro.keep K13q (ninS o8_ne_ro_bf (ninS o8_ne_ro_bn nin0))
    replace F_ends_ro := F_ends_ro.keep K13q (ninS o8_ne_ro_bf (ninS o8_ne_ro_bn nin0))
    replace F_firstFields_ro := F_firstFields_ro.keep K13q (ninS o8_ne_ro_bf (ninS o8_ne_ro_bn nin0))
    replace F_lines_ro := F_lines_ro.keep K13q (ninS o8_ne_ro_bf (ninS o8_ne_ro_bn nin0))
    replace F_faults_ro := F_faults_ro.keep K13q (ninS o8_ne_ro_bf (ninS o8_ne_ro_bn nin0))
    replace F_textUsed_ro := F_textUsed_ro.keep K13q (ninS o8_ne_ro_bf (ninS o8_ne_ro_bn nin0))
    replace F_fields_ro := F_fields_ro.keep K13q (ninS o8_ne_ro_bf (ninS o8_ne_ro_bn nin0))
    replace F_records_ro := F_records_ro.keep K13q (ninS o8_ne_ro_bf (ninS o8_ne_ro_bn nin0))
    have Z13 := Nat.le_trans Z10 K13q.1
    have A_bf := o13_A_bf
    have A_bn := o13_A_bn
    refine Go.step (fun t k => st13.trans k) ?_
    show Go _ _ _ _ _ _ _ (T13.setTop (mkF m 145 #[.val (.int pa), .val (.int pb), .val (.int va), .val (.int vb), .val (.int v4), .val (.int v5), .val (.ref ch), .val (.ref xl), .val (.ref xs), .val (.ref ro), .val (.int (1 : Int32))] []))
    have cut2 : ∀ (Tc_cut2 : State) (hc_cut2 : Heap) (lc : List Loc) (tu2 : Int32) (fv2 : Int32) (gs2 : Nat → Int32) (ge2 : Nat → Int32), (Stand p l e room_1 s m #[(.int pa), (.int pb)] below meth c Tc_cut2 lc 12 4824) → (Tc_cut2.heap = hc_cut2) → (Fr n0 lc) → (n0 ≤ hc_cut2.size) → (Old Z n0 hc_cut2) → (AryI Z hc_cut2 ch .char 2 (up (up (fun _ => (0 : Int32)) 0 (nar .char v4)) 1 (nar .char v5))) → (Exa Z hc_cut2 xl "java/lang/String") → (Fld Z hc_cut2 xl "java/lang/String" "value" "[B" (.ref bd)) → (Fld Z hc_cut2 xl "java/lang/String" "coder" "B" (.int (0 : Int32))) → (AryI Z hc_cut2 bd .byte 2 (up (up (fun _ => (0 : Int32)) 0 (nar .byte ((nar .char v4).toInt8.toInt32))) 1 (nar .byte ((nar .char v5).toInt8.toInt32)))) → (Exa Z hc_cut2 xs "java/lang/String") → (Fld Z hc_cut2 xs "java/lang/String" "value" "[B" (.ref bv)) → (Fld Z hc_cut2 xs "java/lang/String" "coder" "B" (.int (0 : Int32))) → (AryI Z hc_cut2 bv .byte 1 (up (fun _ => (0 : Int32)) 0 (nar .byte (v5.toInt8.toInt32)))) → (Exa Z hc_cut2 ro "com/example/vestwright/vestwright/io/Records") → (Txt Z hc_cut2 bt 4096) → (AryI Z hc_cut2 bs .int 256 gs2) → (AryI Z hc_cut2 be .int 256 ge2) → (Fld Z hc_cut2 ro "com/example/vestwright/vestwright/io/Records" "text" "[C" (.ref bt)) → (Fld Z hc_cut2 ro "com/example/vestwright/vestwright/io/Records" "starts" "[I" (.ref bs)) → (Fld Z hc_cut2 ro "com/example/vestwright/vestwright/io/Records" "ends" "[I" (.ref be)) → (Fld Z hc_cut2 ro "com/example/vestwright/vestwright/io/Records" "firstFields" "[I" (.ref bf)) → (Fld Z hc_cut2 ro "com/example/vestwright/vestwright/io/Records" "lines" "[I" (.ref bn)) → (Fld Z hc_cut2 ro "com/example/vestwright/vestwright/io/Records" "faults" "[Lcom/example/vestwright/vestwright/io/CsvFormatException;" (.ref bx)) → (Fld Z hc_cut2 ro "com/example/vestwright/vestwright/io/Records" "textUsed" "I" (.int tu2)) → (Fld Z hc_cut2 ro "com/example/vestwright/vestwright/io/Records" "fields" "I" (.int fv2)) → (Fld Z hc_cut2 ro "com/example/vestwright/vestwright/io/Records" "records" "I" (.int (1 : Int32))) → (AryI Z hc_cut2 bf .int 64 (up (up (up (fun _ => (0 : Int32)) 0 (0 : Int32)) 1 fv1) 1 fv1)) → (AryI Z hc_cut2 bn .int 64 (up (up (fun _ => (0 : Int32)) 0 (1 : Int32)) 1 (2 : Int32))) → (fv2.toInt = (fv1).toInt + vb.toInt) → (0 ≤ tu2.toInt ∧ tu2.toInt ≤ 6) → Go p e below s (Q0 Z pa pb cs fm h0 n0) 32 9728 (Tc_cut2.setTop (mkF m 169 #[.val (.int pa), .val (.int pb), .val (.int va), .val (.int vb), .val (.int v4), .val (.int v5), .val (.ref ch), .val (.ref xl), .val (.ref xs), .val (.ref ro), .val (.int (1 : Int32))] [])) := by
      intro Tc_cut2 hc_cut2 lc tu2 fv2 gs2 ge2 Xc_cut2 ec_cut2 Nc_cut2 Zc_cut2 old A_ch E_xl F_value_xl F_coder_xl A_bd E_xs F_value_xs F_coder_xs A_bv E_ro T_bt A_bs A_be F_text_ro F_starts_ro F_ends_ro F_firstFields_ro F_lines_ro F_faults_ro F_textUsed_ro F_fields_ro F_records_ro A_bf A_bn hf2 ht2
      show Go _ _ _ _ _ _ _ (Tc_cut2.setTop (mkF m 169 #[.val (.int pa), .val (.int pb), .val (.int va), .val (.int vb), .val (.int v4), .val (.int v5), .val (.ref ch), .val (.ref xl), .val (.ref xs), .val (.ref ro), .val (.int (1 : Int32))] []))
      refine Go.step (fun t k => XS.aload Xc_cut2.here hx rfl (hb hby at_169) rfl rfl k) ?_
      show Go _ _ _ _ _ _ _ (Tc_cut2.setTop (mkF m 171 #[.val (.int pa), .val (.int pb), .val (.int va), .val (.int vb), .val (.int v4), .val (.int v5), .val (.ref ch), .val (.ref xl), .val (.ref xs), .val (.ref ro), .val (.int (1 : Int32))] [(.ref ro)]))
      obtain ⟨cq14, kq14, q14a, q14b, q14c⟩ := isOf hZ ec_cut2 E_ro
      obtain ⟨_, _, ⟨T14, L14, k14, n14⟩, -, X14, ⟨Lc14, hQ14, l14, y14, z14⟩, st14⟩ := Xc_cut2.virtualBack hx (y := (⟨"com/example/vestwright/vestwright/io/Records", "endRecord", "()V"⟩ : MethodName)) (z := (⟨"com/example/vestwright/vestwright/io/Records", "endRecord", "()V"⟩ : MethodName)) hown (mvT hZ (hw _ (List.mem_of_getElem? (i := 76) rfl))) (mvT hZ (hw _ (List.mem_of_getElem? (i := 77) rfl))) (notFace_of_selects (args := #[]) (mvT hZ (hw _ (List.mem_of_getElem? (i := 79) rfl)))) (mvT hZ (hw _ (List.mem_of_getElem? (i := 79) rfl))) (mvT hZ (hw _ (List.mem_of_getElem? (i := 78) rfl))) (by decide) (backOf (W := 0) (rm13 l Z a0 hw [] ro bt bs be bf bn bx tu2 fv2 (1 : Int32) 1 (up (up (up (fun _ => (0 : Int32)) 0 (0 : Int32)) 1 fv1) 1 fv1) hc_cut2 n0 Zc_cut2 F_text_ro F_starts_ro F_ends_ro F_firstFields_ro F_lines_ro F_faults_ro F_textUsed_ro F_fields_ro F_records_ro E_ro g_ro g_bf A_bf o8_ne_ro_bf rfl (by decide)) hZ (hw _ (List.mem_of_getElem? (i := 80) rfl)) (hw _ (List.mem_of_getElem? (i := 47) rfl)) (by decide) (by decide)) q14a q14c (g := (mkF m 171 #[.val (.int pa), .val (.int pb), .val (.int va), .val (.int vb), .val (.int v4), .val (.int v5), .val (.ref ch), .val (.ref xl), .val (.ref xs), .val (.ref ro), .val (.int (1 : Int32))] [(.ref ro)])) rfl (by rw [hml]; rfl) (Steps.refl _) (argsL := []) (rest := []) (lenOf pd_0_2 rfl) rfl (by show 2 * 0 + _ ≤ _; exact Nat.le_of_eq rfl) (hb hby at_171) (fun _ _ => ⟨rfl, ec_cut2, (by decide : 12 + 0 ≤ _), (by decide : 4824 + 0 ≤ _)⟩)
      dsimp only [Pt.U, Pt.locs, Pt.cells, Pt.slots] at X14 l14 y14 z14 st14 hQ14
      subst l14 y14 z14
      obtain ⟨rfl, N14q, K14q, o14_F_text_ro, o14_F_starts_ro, o14_F_ends_ro, o14_F_firstFields_ro, o14_F_lines_ro, o14_F_faults_ro, o14_F_textUsed_ro, o14_F_fields_ro, o14_F_records_ro, o14_A_bf⟩ := hQ14
      have N14 := Fr.app Nc_cut2 N14q
      replace old := Old.keep old K14q (allS g_ro (allS g_bf all0))
      replace A_ch := A_ch.keep K14q (ninS ne_ch_ro (ninS ne_ch_bf nin0))
      replace E_xl := E_xl.keep K14q
      replace F_value_xl := F_value_xl.keep K14q (ninS ne_xl_ro (ninS ne_xl_bf nin0))
      replace F_coder_xl := F_coder_xl.keep K14q (ninS ne_xl_ro (ninS ne_xl_bf nin0))
      replace A_bd := A_bd.keep K14q (ninS ne_bd_ro (ninS ne_bd_bf nin0))
      replace E_xs := E_xs.keep K14q
      replace F_value_xs := F_value_xs.keep K14q (ninS ne_xs_ro (ninS ne_xs_bf nin0))
      replace F_coder_xs := F_coder_xs.keep K14q (ninS ne_xs_ro (ninS ne_xs_bf nin0))
      replace A_bv := A_bv.keep K14q (ninS ne_bv_ro (ninS ne_bv_bf nin0))
      replace E_ro := E_ro.keep K14q
      replace T_bt := T_bt.keep K14q (ninS (Ne.symm o8_ne_ro_bt) (ninS o8_ne_bt_bf nin0))
      replace A_bs := A_bs.keep K14q (ninS (Ne.symm o8_ne_ro_bs) (ninS o8_ne_bs_bf nin0))
      replace A_be := A_be.keep K14q (ninS (Ne.symm o8_ne_ro_be) (ninS o8_ne_be_bf nin0))
      replace A_bn := A_bn.keep K14q (ninS (Ne.symm o8_ne_ro_bn) (ninS (Ne.symm o8_ne_bf_bn) nin0))
      have Z14 := Nat.le_trans Zc_cut2 K14q.1
      have F_text_ro := o14_F_text_ro
      have F_starts_ro := o14_F_starts_ro
      have F_ends_ro := o14_F_ends_ro
      have F_firstFields_ro := o14_F_firstFields_ro
      have F_lines_ro := o14_F_lines_ro
      have F_faults_ro := o14_F_faults_ro
      have F_textUsed_ro := o14_F_textUsed_ro
      have F_fields_ro := o14_F_fields_ro
      have F_records_ro := o14_F_records_ro
      have A_bf := o14_A_bf
      refine Go.step (fun t k => st14.trans k) ?_
      show Go _ _ _ _ _ _ _ (T14.setTop (mkF m 174 #[.val (.int pa), .val (.int pb), .val (.int va), .val (.int vb), .val (.int v4), .val (.int v5), .val (.ref ch), .val (.ref xl), .val (.ref xs), .val (.ref ro), .val (.int (1 : Int32))] []))
      refine Go.step (fun t k => XS.iload X14.here hx rfl (hb hby at_174) rfl k) ?_
      show Go _ _ _ _ _ _ _ (T14.setTop (mkF m 176 #[.val (.int pa), .val (.int pb), .val (.int va), .val (.int vb), .val (.int v4), .val (.int v5), .val (.ref ch), .val (.ref xl), .val (.ref xs), .val (.ref ro), .val (.int (1 : Int32))] [(.int (1 : Int32))]))
      refine Go.step (fun t k => XS.ifNo X14.here hx rfl (hb hby at_176) rfl ((if0 _ _).trans (feq (by decide : ¬ (1 : Int32) = (0 : Int32))).1) k) ?_
      show Go _ _ _ _ _ _ _ (T14.setTop (mkF m 179 #[.val (.int pa), .val (.int pb), .val (.int va), .val (.int vb), .val (.int v4), .val (.int v5), .val (.ref ch), .val (.ref xl), .val (.ref xs), .val (.ref ro), .val (.int (1 : Int32))] []))
      refine Go.step (fun t k => XS.aload X14.here hx rfl (hb hby at_179) rfl rfl k) ?_
      show Go _ _ _ _ _ _ _ (T14.setTop (mkF m 181 #[.val (.int pa), .val (.int pb), .val (.int va), .val (.int vb), .val (.int v4), .val (.int v5), .val (.ref ch), .val (.ref xl), .val (.ref xs), .val (.ref ro), .val (.int (1 : Int32))] [(.ref ro)]))
      obtain ⟨cq15, kq15, q15a, q15b, q15c⟩ := isOf hZ rfl E_ro
      obtain ⟨_, _, ⟨T15, L15, k15, n15⟩, -, X15, ⟨Lc15, hQ15, l15, y15, z15⟩, st15⟩ := X14.virtualBack hx (y := (⟨"com/example/vestwright/vestwright/io/Records", "size", "()I"⟩ : MethodName)) (z := (⟨"com/example/vestwright/vestwright/io/Records", "size", "()I"⟩ : MethodName)) hown (mvT hZ (hw _ (List.mem_of_getElem? (i := 81) rfl))) (mvT hZ (hw _ (List.mem_of_getElem? (i := 82) rfl))) (notFace_of_selects (args := #[]) (mvT hZ (hw _ (List.mem_of_getElem? (i := 84) rfl)))) (mvT hZ (hw _ (List.mem_of_getElem? (i := 84) rfl))) (mvT hZ (hw _ (List.mem_of_getElem? (i := 83) rfl))) (by decide) (backOf (W := 0) (rm14 l Z a0 hw [] ro (2 : Int32) T14.heap n0 Z14 F_records_ro) hZ (hw _ (List.mem_of_getElem? (i := 85) rfl)) (hw _ (List.mem_of_getElem? (i := 47) rfl)) (by decide) (by decide)) q15a q15c (g := (mkF m 181 #[.val (.int pa), .val (.int pb), .val (.int va), .val (.int vb), .val (.int v4), .val (.int v5), .val (.ref ch), .val (.ref xl), .val (.ref xs), .val (.ref ro), .val (.int (1 : Int32))] [(.ref ro)])) rfl (by rw [hml]; rfl) (Steps.refl _) (argsL := []) (rest := []) (lenOf pd_0_4 rfl) rfl (by show 2 * 0 + _ ≤ _; exact Nat.le_of_eq rfl) (hb hby at_181) (fun _ _ => ⟨rfl, rfl, (by decide : 12 + 0 ≤ _), (by decide : 4824 + 0 ≤ _)⟩)
      dsimp only [Pt.U, Pt.locs, Pt.cells, Pt.slots] at X15 l15 y15 z15 st15 hQ15
      subst l15 y15 z15
      obtain ⟨rfl, N15q, K15q⟩ := hQ15
      have N15 := Fr.app N14 N15q
      refine Go.step (fun t k => st15.trans k) ?_
      show Go _ _ _ _ _ _ _ (T15.setTop (mkF m 184 #[.val (.int pa), .val (.int pb), .val (.int va), .val (.int vb), .val (.int v4), .val (.int v5), .val (.ref ch), .val (.ref xl), .val (.ref xs), .val (.ref ro), .val (.int (1 : Int32))] [(.int (2 : Int32))]))
      refine Go.step (fun t k => XS.iconst X15.here hx rfl (hb hby at_184) k) ?_
      show Go _ _ _ _ _ _ _ (T15.setTop (mkF m 185 #[.val (.int pa), .val (.int pb), .val (.int va), .val (.int vb), .val (.int v4), .val (.int v5), .val (.ref ch), .val (.ref xl), .val (.ref xs), .val (.ref ro), .val (.int (1 : Int32))] [(.int (2 : Int32)), (.int (2 : Int32))]))
      refine Go.step (fun t k => XS.icmpNo X15.here hx rfl (hb hby at_185) rfl (teq (by decide : (2 : Int32) = (2 : Int32))).2 k) ?_
      show Go _ _ _ _ _ _ _ (T15.setTop (mkF m 188 #[.val (.int pa), .val (.int pb), .val (.int va), .val (.int vb), .val (.int v4), .val (.int v5), .val (.ref ch), .val (.ref xl), .val (.ref xs), .val (.ref ro), .val (.int (1 : Int32))] []))
      refine Go.step (fun t k => XS.aload X15.here hx rfl (hb hby at_188) rfl rfl k) ?_
      show Go _ _ _ _ _ _ _ (T15.setTop (mkF m 190 #[.val (.int pa), .val (.int pb), .val (.int va), .val (.int vb), .val (.int v4), .val (.int v5), .val (.ref ch), .val (.ref xl), .val (.ref xs), .val (.ref ro), .val (.int (1 : Int32))] [(.ref ro)]))
      refine Go.step (fun t k => XS.iconst X15.here hx rfl (hb hby at_190) k) ?_
      show Go _ _ _ _ _ _ _ (T15.setTop (mkF m 191 #[.val (.int pa), .val (.int pb), .val (.int va), .val (.int vb), .val (.int v4), .val (.int v5), .val (.ref ch), .val (.ref xl), .val (.ref xs), .val (.ref ro), .val (.int (1 : Int32))] [(.int (0 : Int32)), (.ref ro)]))
      obtain ⟨cq16, kq16, q16a, q16b, q16c⟩ := isOf hZ K15q E_ro
      obtain ⟨_, _, ⟨T16, L16, k16, n16⟩, -, X16, ⟨Lc16, hQ16, l16, y16, z16⟩, st16⟩ := X15.virtualBack hx (y := (⟨"com/example/vestwright/vestwright/io/Records", "width", "(I)I"⟩ : MethodName)) (z := (⟨"com/example/vestwright/vestwright/io/Records", "width", "(I)I"⟩ : MethodName)) hown (mvT hZ (hw _ (List.mem_of_getElem? (i := 86) rfl))) (mvT hZ (hw _ (List.mem_of_getElem? (i := 87) rfl))) (notFace_of_selects (args := #[]) (mvT hZ (hw _ (List.mem_of_getElem? (i := 89) rfl)))) (mvT hZ (hw _ (List.mem_of_getElem? (i := 89) rfl))) (mvT hZ (hw _ (List.mem_of_getElem? (i := 88) rfl))) (by decide) (backOf (W := 0) (rm15 l Z a0 hw [] ro (0 : Int32) bf (up (up (up (up (fun _ => (0 : Int32)) 0 (0 : Int32)) 1 fv1) 1 fv1) 2 fv2) 0 T14.heap n0 Z14 F_firstFields_ro A_bf rfl (by decide)) hZ (hw _ (List.mem_of_getElem? (i := 90) rfl)) (hw _ (List.mem_of_getElem? (i := 47) rfl)) (by decide) (by decide)) q16a q16c (g := (mkF m 191 #[.val (.int pa), .val (.int pb), .val (.int va), .val (.int vb), .val (.int v4), .val (.int v5), .val (.ref ch), .val (.ref xl), .val (.ref xs), .val (.ref ro), .val (.int (1 : Int32))] [(.int (0 : Int32)), (.ref ro)])) rfl (by rw [hml]; rfl) (Steps.refl _) (argsL := [(.int (0 : Int32))]) (rest := []) (lenOf pd_0_5 rfl) rfl (by show 2 * 0 + _ ≤ _; exact Nat.le_of_eq rfl) (hb hby at_191) (fun _ _ => ⟨rfl, K15q, (by decide : 12 + 0 ≤ _), (by decide : 4824 + 0 ≤ _)⟩)
      dsimp only [Pt.U, Pt.locs, Pt.cells, Pt.slots] at X16 l16 y16 z16 st16 hQ16
      subst l16 y16 z16
      obtain ⟨rfl, N16q, K16q⟩ := hQ16
      have N16 := Fr.app N15 N16q
      refine Go.step (fun t k => st16.trans k) ?_
      show Go _ _ _ _ _ _ _ (T16.setTop (mkF m 194 #[.val (.int pa), .val (.int pb), .val (.int va), .val (.int vb), .val (.int v4), .val (.int v5), .val (.ref ch), .val (.ref xl), .val (.ref xs), .val (.ref ro), .val (.int (1 : Int32))] [(.int (fv1 - (0 : Int32)))]))
      refine Go.step (fun t k => XS.iloadN X16.here hx rfl (hb hby at_194) rfl k) ?_
      show Go _ _ _ _ _ _ _ (T16.setTop (mkF m 195 #[.val (.int pa), .val (.int pb), .val (.int va), .val (.int vb), .val (.int v4), .val (.int v5), .val (.ref ch), .val (.ref xl), .val (.ref xs), .val (.ref ro), .val (.int (1 : Int32))] [(.int va), (.int (fv1 - (0 : Int32)))]))
      refine Go.step (fun t k => XS.icmpNo X16.here hx rfl (hb hby at_195) rfl (teq (own_w rfl hf1 (own_m3 hva) : (fv1 - (0 : Int32)) = va)).2 k) ?_
      show Go _ _ _ _ _ _ _ (T16.setTop (mkF m 198 #[.val (.int pa), .val (.int pb), .val (.int va), .val (.int vb), .val (.int v4), .val (.int v5), .val (.ref ch), .val (.ref xl), .val (.ref xs), .val (.ref ro), .val (.int (1 : Int32))] []))
      refine Go.step (fun t k => XS.aload X16.here hx rfl (hb hby at_198) rfl rfl k) ?_
      show Go _ _ _ _ _ _ _ (T16.setTop (mkF m 200 #[.val (.int pa), .val (.int pb), .val (.int va), .val (.int vb), .val (.int v4), .val (.int v5), .val (.ref ch), .val (.ref xl), .val (.ref xs), .val (.ref ro), .val (.int (1 : Int32))] [(.ref ro)]))
      refine Go.step (fun t k => XS.iconst X16.here hx rfl (hb hby at_200) k) ?_
      show Go _ _ _ _ _ _ _ (T16.setTop (mkF m 201 #[.val (.int pa), .val (.int pb), .val (.int va), .val (.int vb), .val (.int v4), .val (.int v5), .val (.ref ch), .val (.ref xl), .val (.ref xs), .val (.ref ro), .val (.int (1 : Int32))] [(.int (1 : Int32)), (.ref ro)]))
      obtain ⟨cq17, kq17, q17a, q17b, q17c⟩ := isOf hZ K16q E_ro
      obtain ⟨_, _, ⟨T17, L17, k17, n17⟩, -, X17, ⟨Lc17, hQ17, l17, y17, z17⟩, st17⟩ := X16.virtualBack hx (y := (⟨"com/example/vestwright/vestwright/io/Records", "width", "(I)I"⟩ : MethodName)) (z := (⟨"com/example/vestwright/vestwright/io/Records", "width", "(I)I"⟩ : MethodName)) hown (mvT hZ (hw _ (List.mem_of_getElem? (i := 86) rfl))) (mvT hZ (hw _ (List.mem_of_getElem? (i := 87) rfl))) (notFace_of_selects (args := #[]) (mvT hZ (hw _ (List.mem_of_getElem? (i := 89) rfl)))) (mvT hZ (hw _ (List.mem_of_getElem? (i := 89) rfl))) (mvT hZ (hw _ (List.mem_of_getElem? (i := 88) rfl))) (by decide) (backOf (W := 0) (rm15 l Z a0 hw [] ro (1 : Int32) bf (up (up (up (up (fun _ => (0 : Int32)) 0 (0 : Int32)) 1 fv1) 1 fv1) 2 fv2) 1 T14.heap n0 Z14 F_firstFields_ro A_bf rfl (by decide)) hZ (hw _ (List.mem_of_getElem? (i := 90) rfl)) (hw _ (List.mem_of_getElem? (i := 47) rfl)) (by decide) (by decide)) q17a q17c (g := (mkF m 201 #[.val (.int pa), .val (.int pb), .val (.int va), .val (.int vb), .val (.int v4), .val (.int v5), .val (.ref ch), .val (.ref xl), .val (.ref xs), .val (.ref ro), .val (.int (1 : Int32))] [(.int (1 : Int32)), (.ref ro)])) rfl (by rw [hml]; rfl) (Steps.refl _) (argsL := [(.int (1 : Int32))]) (rest := []) (lenOf pd_0_5 rfl) rfl (by show 2 * 0 + _ ≤ _; exact Nat.le_of_eq rfl) (hb hby at_201) (fun _ _ => ⟨rfl, K16q, (by decide : 12 + 0 ≤ _), (by decide : 4824 + 0 ≤ _)⟩)
      dsimp only [Pt.U, Pt.locs, Pt.cells, Pt.slots] at X17 l17 y17 z17 st17 hQ17
      subst l17 y17 z17
      obtain ⟨rfl, N17q, K17q⟩ := hQ17
      have N17 := Fr.app N16 N17q
      refine Go.step (fun t k => st17.trans k) ?_
      show Go _ _ _ _ _ _ _ (T17.setTop (mkF m 204 #[.val (.int pa), .val (.int pb), .val (.int va), .val (.int vb), .val (.int v4), .val (.int v5), .val (.ref ch), .val (.ref xl), .val (.ref xs), .val (.ref ro), .val (.int (1 : Int32))] [(.int (fv2 - fv1))]))
      refine Go.step (fun t k => XS.iloadN X17.here hx rfl (hb hby at_204) rfl k) ?_
      show Go _ _ _ _ _ _ _ (T17.setTop (mkF m 205 #[.val (.int pa), .val (.int pb), .val (.int va), .val (.int vb), .val (.int v4), .val (.int v5), .val (.ref ch), .val (.ref xl), .val (.ref xs), .val (.ref ro), .val (.int (1 : Int32))] [(.int vb), (.int (fv2 - fv1))]))
      refine Go.step (fun t k => XS.icmpNo X17.here hx rfl (hb hby at_205) rfl (teq (own_w rfl hf2 (own_m3 hvb) : (fv2 - fv1) = vb)).2 k) ?_
      show Go _ _ _ _ _ _ _ (T17.setTop (mkF m 208 #[.val (.int pa), .val (.int pb), .val (.int va), .val (.int vb), .val (.int v4), .val (.int v5), .val (.ref ch), .val (.ref xl), .val (.ref xs), .val (.ref ro), .val (.int (1 : Int32))] []))
      refine Go.step (fun t k => XS.iconst X17.here hx rfl (hb hby at_208) k) ?_
      show Go _ _ _ _ _ _ _ (T17.setTop (mkF m 209 #[.val (.int pa), .val (.int pb), .val (.int va), .val (.int vb), .val (.int v4), .val (.int v5), .val (.ref ch), .val (.ref xl), .val (.ref xs), .val (.ref ro), .val (.int (1 : Int32))] [(.int (1 : Int32))]))
      refine Go.step (fun t k => XS.goto X17.here hx rfl (pc0 := 209) (pc' := 213) rfl (hb hby at_209) (by decide) (by decide) k) ?_
      show Go _ _ _ _ _ _ _ (T17.setTop (mkF m 213 #[.val (.int pa), .val (.int pb), .val (.int va), .val (.int vb), .val (.int v4), .val (.int v5), .val (.ref ch), .val (.ref xl), .val (.ref xs), .val (.ref ro), .val (.int (1 : Int32))] [(.int (1 : Int32))]))
      refine Go.retN X17 Bd.notSynchronized hx (t := .boolean) Bd.returns (by simp) (hb hby at_213) (by decide) (by decide) (1 : Int32) rfl ?_
      rw [K17q]
      exact ⟨rfl, N17⟩
    have m1 := own_m3 hva
    have e0 : (0 : Int32).toInt = 0 := rfl
    have u0 := own_nat ht1.1
    have f0 := own_nat (x := fv1) (by omega)
    have f0b : fv1.toInt.toNat ≤ 2 := by omega
    have u0b : tu1.toInt.toNat ≤ 3 := by omega
    refine Go.step (fun t k => XS.iloadN X13.here hx rfl (hb hby at_145) rfl k) ?_
    show Go _ _ _ _ _ _ _ (T13.setTop (mkF m 146 #[.val (.int pa), .val (.int pb), .val (.int va), .val (.int vb), .val (.int v4), .val (.int v5), .val (.ref ch), .val (.ref xl), .val (.ref xs), .val (.ref ro), .val (.int (1 : Int32))] [(.int vb)]))
    refine Go.step (fun t k => XS.iconst X13.here hx rfl (hb hby at_146) k) ?_
    show Go _ _ _ _ _ _ _ (T13.setTop (mkF m 147 #[.val (.int pa), .val (.int pb), .val (.int va), .val (.int vb), .val (.int v4), .val (.int v5), .val (.ref ch), .val (.ref xl), .val (.ref xs), .val (.ref ro), .val (.int (1 : Int32))] [(.int (1 : Int32)), (.int vb)]))
    by_cases hc147_18 : vb < (1 : Int32)
    · refine Go.step (fun t k => XS.icmpYes X13.here hx rfl (pc0 := 147) (pc' := 157) rfl (hb hby at_147) rfl (tlt hc147_18).1 (by decide) (by decide) k) ?_
      show Go _ _ _ _ _ _ _ (T13.setTop (mkF m 157 #[.val (.int pa), .val (.int pb), .val (.int va), .val (.int vb), .val (.int v4), .val (.int v5), .val (.ref ch), .val (.ref xl), .val (.ref xs), .val (.ref ro), .val (.int (1 : Int32))] []))
      refine Go.step (fun t k => XS.iloadN X13.here hx rfl (hb hby at_157) rfl k) ?_
      show Go _ _ _ _ _ _ _ (T13.setTop (mkF m 158 #[.val (.int pa), .val (.int pb), .val (.int va), .val (.int vb), .val (.int v4), .val (.int v5), .val (.ref ch), .val (.ref xl), .val (.ref xs), .val (.ref ro), .val (.int (1 : Int32))] [(.int vb)]))
      refine Go.step (fun t k => XS.iconst X13.here hx rfl (hb hby at_158) k) ?_
      show Go _ _ _ _ _ _ _ (T13.setTop (mkF m 159 #[.val (.int pa), .val (.int pb), .val (.int va), .val (.int vb), .val (.int v4), .val (.int v5), .val (.ref ch), .val (.ref xl), .val (.ref xs), .val (.ref ro), .val (.int (1 : Int32))] [(.int (2 : Int32)), (.int vb)]))
      by_cases hc159_19 : vb < (2 : Int32)
      · refine Go.step (fun t k => XS.icmpYes X13.here hx rfl (pc0 := 159) (pc' := 169) rfl (hb hby at_159) rfl (tlt hc159_19).1 (by decide) (by decide) k) ?_
        show Go _ _ _ _ _ _ _ (T13.setTop (mkF m 169 #[.val (.int pa), .val (.int pb), .val (.int va), .val (.int vb), .val (.int v4), .val (.int v5), .val (.ref ch), .val (.ref xl), .val (.ref xs), .val (.ref ro), .val (.int (1 : Int32))] []))
        have mm := own_m3 hvb
        have jhc147_18 := own_lt hc147_18
        have jhc159_19 := own_lt hc159_19
        have e0 : (0 : Int32).toInt = 0 := rfl
        have e1 : (1 : Int32).toInt = 1 := rfl
        have e2 : (2 : Int32).toInt = 2 := rfl
        have e3 : (3 : Int32).toInt = 3 := rfl
        have zu := u0
        have zf := f0
        exact cut2 _ _ _ tu1 fv1 gs1 ge1 X13 rfl N13 Z13 old A_ch E_xl F_value_xl F_coder_xl A_bd E_xs F_value_xs F_coder_xs A_bv E_ro T_bt A_bs A_be F_text_ro F_starts_ro F_ends_ro F_firstFields_ro F_lines_ro F_faults_ro F_textUsed_ro F_fields_ro F_records_ro A_bf A_bn (by omega) (by omega)
      · exact absurd (own_lt hc147_18) (by have q := own_nlt hc159_19; have e1 : (1 : Int32).toInt = 1 := rfl; have e2 : (2 : Int32).toInt = 2 := rfl; omega)
    · refine Go.step (fun t k => XS.icmpNo X13.here hx rfl (hb hby at_147) rfl (flt hc147_18).1 k) ?_
      show Go _ _ _ _ _ _ _ (T13.setTop (mkF m 150 #[.val (.int pa), .val (.int pb), .val (.int va), .val (.int vb), .val (.int v4), .val (.int v5), .val (.ref ch), .val (.ref xl), .val (.ref xs), .val (.ref ro), .val (.int (1 : Int32))] []))
      refine Go.step (fun t k => XS.aload X13.here hx rfl (hb hby at_150) rfl rfl k) ?_
      show Go _ _ _ _ _ _ _ (T13.setTop (mkF m 152 #[.val (.int pa), .val (.int pb), .val (.int va), .val (.int vb), .val (.int v4), .val (.int v5), .val (.ref ch), .val (.ref xl), .val (.ref xs), .val (.ref ro), .val (.int (1 : Int32))] [(.ref ro)]))
      refine Go.step (fun t k => XS.aload X13.here hx rfl (hb hby at_152) rfl rfl k) ?_
      show Go _ _ _ _ _ _ _ (T13.setTop (mkF m 154 #[.val (.int pa), .val (.int pb), .val (.int va), .val (.int vb), .val (.int v4), .val (.int v5), .val (.ref ch), .val (.ref xl), .val (.ref xs), .val (.ref ro), .val (.int (1 : Int32))] [(.ref xl), (.ref ro)]))
      obtain ⟨cq20, kq20, q20a, q20b, q20c⟩ := isOf hZ rfl E_ro
      obtain ⟨_, _, ⟨T20, L20, k20, n20⟩, -, X20, ⟨Lc20, hQ20, l20, y20, z20⟩, st20⟩ := X13.virtualBack hx (y := (⟨"com/example/vestwright/vestwright/io/Records", "addField", "(Ljava/lang/CharSequence;)V"⟩ : MethodName)) (z := (⟨"com/example/vestwright/vestwright/io/Records", "addField", "(Ljava/lang/CharSequence;)V"⟩ : MethodName)) hown (mvT hZ (hw _ (List.mem_of_getElem? (i := 91) rfl))) (mvT hZ (hw _ (List.mem_of_getElem? (i := 92) rfl))) (notFace_of_selects (args := #[]) (mvT hZ (hw _ (List.mem_of_getElem? (i := 94) rfl)))) (mvT hZ (hw _ (List.mem_of_getElem? (i := 94) rfl))) (mvT hZ (hw _ (List.mem_of_getElem? (i := 93) rfl))) (by decide) (backOf (W := 0) (rm16_2 l Z a0 hw [] ro xl cs fm bt bs be bf bn bx tu1 fv1 (1 : Int32) (tu1.toInt.toNat) (fv1.toInt.toNat) bd (up (up (fun _ => (0 : Int32)) 0 (nar .byte ((nar .char v4).toInt8.toInt32))) 1 (nar .byte ((nar .char v5).toInt8.toInt32))) gs1 ge1 T13.heap n0 Z13 old hcs hc0 hfs hfr F_text_ro F_starts_ro F_ends_ro F_firstFields_ro F_lines_ro F_faults_ro F_textUsed_ro F_fields_ro F_records_ro E_ro E_xl F_value_xl F_coder_xl A_bd g_ro g_bt g_bs g_be T_bt A_bs A_be o8_ne_bt_bs o8_ne_bt_be o8_ne_bs_be o8_ne_ro_bt o8_ne_ro_bs o8_ne_ro_be ne_bd_bt ne_bd_bs ne_bd_be ne_xl_bt ne_xl_bs ne_xl_be u0 f0 (by omega) (by omega)) hZ (hw _ (List.mem_of_getElem? (i := 95) rfl)) (hw _ (List.mem_of_getElem? (i := 47) rfl)) (by decide) (by decide)) q20a q20c (g := (mkF m 154 #[.val (.int pa), .val (.int pb), .val (.int va), .val (.int vb), .val (.int v4), .val (.int v5), .val (.ref ch), .val (.ref xl), .val (.ref xs), .val (.ref ro), .val (.int (1 : Int32))] [(.ref xl), (.ref ro)])) rfl (by rw [hml]; rfl) (Steps.refl _) (argsL := [(.ref xl)]) (rest := []) (lenOf pd_0_6 rfl) rfl (by show 2 * 0 + _ ≤ _; exact Nat.le_of_eq rfl) (hb hby at_154) (fun _ _ => ⟨rfl, rfl, (by decide : 12 + 0 ≤ _), (by decide : 4824 + 0 ≤ _)⟩)
      dsimp only [Pt.U, Pt.locs, Pt.cells, Pt.slots] at X20 l20 y20 z20 st20 hQ20
      subst l20 y20 z20
      obtain ⟨rfl, N20q, K20q, o20_F_text_ro, o20_F_starts_ro, o20_F_ends_ro, o20_F_firstFields_ro, o20_F_lines_ro, o20_F_faults_ro, o20_F_textUsed_ro, o20_F_fields_ro, o20_F_records_ro, o20_T_bt, o20_A_bs, o20_A_be⟩ := hQ20
      have N20 := Fr.app N13 N20q
      replace old := Old.keep old K20q (allS g_ro (allS g_bt (allS g_bs (allS g_be all0))))
      replace A_ch := A_ch.keep K20q (ninS ne_ch_ro (ninS ne_ch_bt (ninS ne_ch_bs (ninS ne_ch_be nin0))))
      replace E_xl := E_xl.keep K20q
      replace F_value_xl := F_value_xl.keep K20q (ninS ne_xl_ro (ninS ne_xl_bt (ninS ne_xl_bs (ninS ne_xl_be nin0))))
      replace F_coder_xl := F_coder_xl.keep K20q (ninS ne_xl_ro (ninS ne_xl_bt (ninS ne_xl_bs (ninS ne_xl_be nin0))))
      replace A_bd := A_bd.keep K20q (ninS ne_bd_ro (ninS ne_bd_bt (ninS ne_bd_bs (ninS ne_bd_be nin0))))
      replace E_xs := E_xs.keep K20q
      replace F_value_xs := F_value_xs.keep K20q (ninS ne_xs_ro (ninS ne_xs_bt (ninS ne_xs_bs (ninS ne_xs_be nin0))))
      replace F_coder_xs := F_coder_xs.keep K20q (ninS ne_xs_ro (ninS ne_xs_bt (ninS ne_xs_bs (ninS ne_xs_be nin0))))
      replace A_bv := A_bv.keep K20q (ninS ne_bv_ro (ninS ne_bv_bt (ninS ne_bv_bs (ninS ne_bv_be nin0))))
      replace E_ro := E_ro.keep K20q
      replace A_bf := A_bf.keep K20q (ninS (Ne.symm o8_ne_ro_bf) (ninS (Ne.symm o8_ne_bt_bf) (ninS (Ne.symm o8_ne_bs_bf) (ninS (Ne.symm o8_ne_be_bf) nin0))))
      replace A_bn := A_bn.keep K20q (ninS (Ne.symm o8_ne_ro_bn) (ninS (Ne.symm o8_ne_bt_bn) (ninS (Ne.symm o8_ne_bs_bn) (ninS (Ne.symm o8_ne_be_bn) nin0))))
      have Z20 := Nat.le_trans Z13 K20q.1
      have F_text_ro := o20_F_text_ro
      have F_starts_ro := o20_F_starts_ro
      have F_ends_ro := o20_F_ends_ro
      have F_firstFields_ro := o20_F_firstFields_ro
      have F_lines_ro := o20_F_lines_ro
      have F_faults_ro := o20_F_faults_ro
      have F_textUsed_ro := o20_F_textUsed_ro
      have F_fields_ro := o20_F_fields_ro
      have F_records_ro := o20_F_records_ro
      have T_bt := o20_T_bt
      have A_bs := o20_A_bs
      have A_be := o20_A_be
      refine Go.step (fun t k => st20.trans k) ?_
      show Go _ _ _ _ _ _ _ (T20.setTop (mkF m 157 #[.val (.int pa), .val (.int pb), .val (.int va), .val (.int vb), .val (.int v4), .val (.int v5), .val (.ref ch), .val (.ref xl), .val (.ref xs), .val (.ref ro), .val (.int (1 : Int32))] []))
      have u21 := own_add (y := (2 : Int32)) u0 (j := 2) rfl (by omega)
      have f22 := own_inc f0 (by omega)
      refine Go.step (fun t k => XS.iloadN X20.here hx rfl (hb hby at_157) rfl k) ?_
      show Go _ _ _ _ _ _ _ (T20.setTop (mkF m 158 #[.val (.int pa), .val (.int pb), .val (.int va), .val (.int vb), .val (.int v4), .val (.int v5), .val (.ref ch), .val (.ref xl), .val (.ref xs), .val (.ref ro), .val (.int (1 : Int32))] [(.int vb)]))
      refine Go.step (fun t k => XS.iconst X20.here hx rfl (hb hby at_158) k) ?_
      show Go _ _ _ _ _ _ _ (T20.setTop (mkF m 159 #[.val (.int pa), .val (.int pb), .val (.int va), .val (.int vb), .val (.int v4), .val (.int v5), .val (.ref ch), .val (.ref xl), .val (.ref xs), .val (.ref ro), .val (.int (1 : Int32))] [(.int (2 : Int32)), (.int vb)]))
      by_cases hc159_23 : vb < (2 : Int32)
      · refine Go.step (fun t k => XS.icmpYes X20.here hx rfl (pc0 := 159) (pc' := 169) rfl (hb hby at_159) rfl (tlt hc159_23).1 (by decide) (by decide) k) ?_
        show Go _ _ _ _ _ _ _ (T20.setTop (mkF m 169 #[.val (.int pa), .val (.int pb), .val (.int va), .val (.int vb), .val (.int v4), .val (.int v5), .val (.ref ch), .val (.ref xl), .val (.ref xs), .val (.ref ro), .val (.int (1 : Int32))] []))
        have mm := own_m3 hvb
        have jhc147_18 := own_nlt hc147_18
        have jhc159_23 := own_lt hc159_23
        have e0 : (0 : Int32).toInt = 0 := rfl
        have e1 : (1 : Int32).toInt = 1 := rfl
        have e2 : (2 : Int32).toInt = 2 := rfl
        have e3 : (3 : Int32).toInt = 3 := rfl
        have zu := u21
        have zf := f22
        exact cut2 _ _ _ (tu1 + (2 : Int32)) (fv1 + (1 : Int32)) (up gs1 (fv1.toInt.toNat) tu1) (up ge1 (fv1.toInt.toNat) (tu1 + (2 : Int32))) X20 rfl N20 Z20 old A_ch E_xl F_value_xl F_coder_xl A_bd E_xs F_value_xs F_coder_xs A_bv E_ro T_bt A_bs A_be F_text_ro F_starts_ro F_ends_ro F_firstFields_ro F_lines_ro F_faults_ro F_textUsed_ro F_fields_ro F_records_ro A_bf A_bn (by omega) (by omega)
      · refine Go.step (fun t k => XS.icmpNo X20.here hx rfl (hb hby at_159) rfl (flt hc159_23).1 k) ?_
        show Go _ _ _ _ _ _ _ (T20.setTop (mkF m 162 #[.val (.int pa), .val (.int pb), .val (.int va), .val (.int vb), .val (.int v4), .val (.int v5), .val (.ref ch), .val (.ref xl), .val (.ref xs), .val (.ref ro), .val (.int (1 : Int32))] []))
        refine Go.step (fun t k => XS.aload X20.here hx rfl (hb hby at_162) rfl rfl k) ?_
        show Go _ _ _ _ _ _ _ (T20.setTop (mkF m 164 #[.val (.int pa), .val (.int pb), .val (.int va), .val (.int vb), .val (.int v4), .val (.int v5), .val (.ref ch), .val (.ref xl), .val (.ref xs), .val (.ref ro), .val (.int (1 : Int32))] [(.ref ro)]))
        refine Go.step (fun t k => XS.aload X20.here hx rfl (hb hby at_164) rfl rfl k) ?_
        show Go _ _ _ _ _ _ _ (T20.setTop (mkF m 166 #[.val (.int pa), .val (.int pb), .val (.int va), .val (.int vb), .val (.int v4), .val (.int v5), .val (.ref ch), .val (.ref xl), .val (.ref xs), .val (.ref ro), .val (.int (1 : Int32))] [(.ref xs), (.ref ro)]))
        obtain ⟨cq24, kq24, q24a, q24b, q24c⟩ := isOf hZ rfl E_ro
        obtain ⟨_, _, ⟨T24, L24, k24, n24⟩, -, X24, ⟨Lc24, hQ24, l24, y24, z24⟩, st24⟩ := X20.virtualBack hx (y := (⟨"com/example/vestwright/vestwright/io/Records", "addField", "(Ljava/lang/CharSequence;)V"⟩ : MethodName)) (z := (⟨"com/example/vestwright/vestwright/io/Records", "addField", "(Ljava/lang/CharSequence;)V"⟩ : MethodName)) hown (mvT hZ (hw _ (List.mem_of_getElem? (i := 91) rfl))) (mvT hZ (hw _ (List.mem_of_getElem? (i := 92) rfl))) (notFace_of_selects (args := #[]) (mvT hZ (hw _ (List.mem_of_getElem? (i := 94) rfl)))) (mvT hZ (hw _ (List.mem_of_getElem? (i := 94) rfl))) (mvT hZ (hw _ (List.mem_of_getElem? (i := 93) rfl))) (by decide) (backOf (W := 0) (rm16_1 l Z a0 hw [] ro xs cs fm bt bs be bf bn bx (tu1 + (2 : Int32)) (fv1 + (1 : Int32)) (1 : Int32) ((tu1.toInt.toNat) + 2) ((fv1.toInt.toNat) + 1) bv (up (fun _ => (0 : Int32)) 0 (nar .byte (v5.toInt8.toInt32))) (up gs1 (fv1.toInt.toNat) tu1) (up ge1 (fv1.toInt.toNat) (tu1 + (2 : Int32))) T20.heap n0 Z20 old hcs hc0 hfs hfr F_text_ro F_starts_ro F_ends_ro F_firstFields_ro F_lines_ro F_faults_ro F_textUsed_ro F_fields_ro F_records_ro E_ro E_xs F_value_xs F_coder_xs A_bv g_ro g_bt g_bs g_be T_bt A_bs A_be o8_ne_bt_bs o8_ne_bt_be o8_ne_bs_be o8_ne_ro_bt o8_ne_ro_bs o8_ne_ro_be ne_bv_bt ne_bv_bs ne_bv_be ne_xs_bt ne_xs_bs ne_xs_be u21 f22 (by omega) (by omega)) hZ (hw _ (List.mem_of_getElem? (i := 95) rfl)) (hw _ (List.mem_of_getElem? (i := 47) rfl)) (by decide) (by decide)) q24a q24c (g := (mkF m 166 #[.val (.int pa), .val (.int pb), .val (.int va), .val (.int vb), .val (.int v4), .val (.int v5), .val (.ref ch), .val (.ref xl), .val (.ref xs), .val (.ref ro), .val (.int (1 : Int32))] [(.ref xs), (.ref ro)])) rfl (by rw [hml]; rfl) (Steps.refl _) (argsL := [(.ref xs)]) (rest := []) (lenOf pd_0_6 rfl) rfl (by show 2 * 0 + _ ≤ _; exact Nat.le_of_eq rfl) (hb hby at_166) (fun _ _ => ⟨rfl, rfl, (by decide : 12 + 0 ≤ _), (by decide : 4824 + 0 ≤ _)⟩)
        dsimp only [Pt.U, Pt.locs, Pt.cells, Pt.slots] at X24 l24 y24 z24 st24 hQ24
        subst l24 y24 z24
        obtain ⟨rfl, N24q, K24q, o24_F_text_ro, o24_F_starts_ro, o24_F_ends_ro, o24_F_firstFields_ro, o24_F_lines_ro, o24_F_faults_ro, o24_F_textUsed_ro, o24_F_fields_ro, o24_F_records_ro, o24_T_bt, o24_A_bs, o24_A_be⟩ := hQ24
        have N24 := Fr.app N20 N24q
        replace old := Old.keep old K24q (allS g_ro (allS g_bt (allS g_bs (allS g_be all0))))
        replace A_ch := A_ch.keep K24q (ninS ne_ch_ro (ninS ne_ch_bt (ninS ne_ch_bs (ninS ne_ch_be nin0))))
        replace E_xl := E_xl.keep K24q
        replace F_value_xl := F_value_xl.keep K24q (ninS ne_xl_ro (ninS ne_xl_bt (ninS ne_xl_bs (ninS ne_xl_be nin0))))
        replace F_coder_xl := F_coder_xl.keep K24q (ninS ne_xl_ro (ninS ne_xl_bt (ninS ne_xl_bs (ninS ne_xl_be nin0))))
        replace A_bd := A_bd.keep K24q (ninS ne_bd_ro (ninS ne_bd_bt (ninS ne_bd_bs (ninS ne_bd_be nin0))))
        replace E_xs := E_xs.keep K24q
        replace F_value_xs := F_value_xs.keep K24q (ninS ne_xs_ro (ninS ne_xs_bt (ninS ne_xs_bs (ninS ne_xs_be nin0))))
        replace F_coder_xs := F_coder_xs.keep K24q (ninS ne_xs_ro (ninS ne_xs_bt (ninS ne_xs_bs (ninS ne_xs_be nin0))))
        replace A_bv := A_bv.keep K24q (ninS ne_bv_ro (ninS ne_bv_bt (ninS ne_bv_bs (ninS ne_bv_be nin0))))
        replace E_ro := E_ro.keep K24q
        replace A_bf := A_bf.keep K24q (ninS (Ne.symm o8_ne_ro_bf) (ninS (Ne.symm o8_ne_bt_bf) (ninS (Ne.symm o8_ne_bs_bf) (ninS (Ne.symm o8_ne_be_bf) nin0))))
        replace A_bn := A_bn.keep K24q (ninS (Ne.symm o8_ne_ro_bn) (ninS (Ne.symm o8_ne_bt_bn) (ninS (Ne.symm o8_ne_bs_bn) (ninS (Ne.symm o8_ne_be_bn) nin0))))
        have Z24 := Nat.le_trans Z20 K24q.1
        have F_text_ro := o24_F_text_ro
        have F_starts_ro := o24_F_starts_ro
        have F_ends_ro := o24_F_ends_ro
        have F_firstFields_ro := o24_F_firstFields_ro
        have F_lines_ro := o24_F_lines_ro
        have F_faults_ro := o24_F_faults_ro
        have F_textUsed_ro := o24_F_textUsed_ro
        have F_fields_ro := o24_F_fields_ro
        have F_records_ro := o24_F_records_ro
        have T_bt := o24_T_bt
        have A_bs := o24_A_bs
        have A_be := o24_A_be
        refine Go.step (fun t k => st24.trans k) ?_
        show Go _ _ _ _ _ _ _ (T24.setTop (mkF m 169 #[.val (.int pa), .val (.int pb), .val (.int va), .val (.int vb), .val (.int v4), .val (.int v5), .val (.ref ch), .val (.ref xl), .val (.ref xs), .val (.ref ro), .val (.int (1 : Int32))] []))
        have u25 := own_add (y := (1 : Int32)) u21 (j := 1) rfl (by omega)
        have f26 := own_inc f22 (by omega)
        have mm := own_m3 hvb
        have jhc147_18 := own_nlt hc147_18
        have jhc159_23 := own_nlt hc159_23
        have e0 : (0 : Int32).toInt = 0 := rfl
        have e1 : (1 : Int32).toInt = 1 := rfl
        have e2 : (2 : Int32).toInt = 2 := rfl
        have e3 : (3 : Int32).toInt = 3 := rfl
        have zu := u25
        have zf := f26
        exact cut2 _ _ _ ((tu1 + (2 : Int32)) + (1 : Int32)) ((fv1 + (1 : Int32)) + (1 : Int32)) (up (up gs1 (fv1.toInt.toNat) tu1) ((fv1.toInt.toNat) + 1) (tu1 + (2 : Int32))) (up (up ge1 (fv1.toInt.toNat) (tu1 + (2 : Int32))) ((fv1.toInt.toNat) + 1) ((tu1 + (2 : Int32)) + (1 : Int32))) X24 rfl N24 Z24 old A_ch E_xl F_value_xl F_coder_xl A_bd E_xs F_value_xs F_coder_xs A_bv E_ro T_bt A_bs A_be F_text_ro F_starts_ro F_ends_ro F_firstFields_ro F_lines_ro F_faults_ro F_textUsed_ro F_fields_ro F_records_ro A_bf A_bn (by omega) (by omega)
  refine Go.step (fun t k => XS.iloadN X9.here hx rfl (hb hby at_84) rfl k) ?_
  show Go _ _ _ _ _ _ _ (T9.setTop (mkF m 85 #[.val (.int pa), .val (.int pb), .val (.int va), .val (.int vb), .val (.int v4), .val (.int v5), .val (.ref ch), .val (.ref xl), .val (.ref xs), .val (.ref ro), .unset] [(.int va)]))
  refine Go.step (fun t k => XS.iconst X9.here hx rfl (hb hby at_85) k) ?_
  show Go _ _ _ _ _ _ _ (T9.setTop (mkF m 86 #[.val (.int pa), .val (.int pb), .val (.int va), .val (.int vb), .val (.int v4), .val (.int v5), .val (.ref ch), .val (.ref xl), .val (.ref xs), .val (.ref ro), .unset] [(.int (1 : Int32)), (.int va)]))
  by_cases hc86_27 : va < (1 : Int32)
  · refine Go.step (fun t k => XS.icmpYes X9.here hx rfl (pc0 := 86) (pc' := 96) rfl (hb hby at_86) rfl (tlt hc86_27).1 (by decide) (by decide) k) ?_
    show Go _ _ _ _ _ _ _ (T9.setTop (mkF m 96 #[.val (.int pa), .val (.int pb), .val (.int va), .val (.int vb), .val (.int v4), .val (.int v5), .val (.ref ch), .val (.ref xl), .val (.ref xs), .val (.ref ro), .unset] []))
    refine Go.step (fun t k => XS.iloadN X9.here hx rfl (hb hby at_96) rfl k) ?_
    show Go _ _ _ _ _ _ _ (T9.setTop (mkF m 97 #[.val (.int pa), .val (.int pb), .val (.int va), .val (.int vb), .val (.int v4), .val (.int v5), .val (.ref ch), .val (.ref xl), .val (.ref xs), .val (.ref ro), .unset] [(.int va)]))
    refine Go.step (fun t k => XS.iconst X9.here hx rfl (hb hby at_97) k) ?_
    show Go _ _ _ _ _ _ _ (T9.setTop (mkF m 98 #[.val (.int pa), .val (.int pb), .val (.int va), .val (.int vb), .val (.int v4), .val (.int v5), .val (.ref ch), .val (.ref xl), .val (.ref xs), .val (.ref ro), .unset] [(.int (2 : Int32)), (.int va)]))
    by_cases hc98_28 : va < (2 : Int32)
    · refine Go.step (fun t k => XS.icmpYes X9.here hx rfl (pc0 := 98) (pc' := 108) rfl (hb hby at_98) rfl (tlt hc98_28).1 (by decide) (by decide) k) ?_
      show Go _ _ _ _ _ _ _ (T9.setTop (mkF m 108 #[.val (.int pa), .val (.int pb), .val (.int va), .val (.int vb), .val (.int v4), .val (.int v5), .val (.ref ch), .val (.ref xl), .val (.ref xs), .val (.ref ro), .unset] []))
      have mm := own_m3 hva
      have jhc86_27 := own_lt hc86_27
      have jhc98_28 := own_lt hc98_28
      have e0 : (0 : Int32).toInt = 0 := rfl
      have e1 : (1 : Int32).toInt = 1 := rfl
      have e2 : (2 : Int32).toInt = 2 := rfl
      have e3 : (3 : Int32).toInt = 3 := rfl
      have zu := own_zz
      have zf := own_zz
      exact cut1 _ _ _ (0 : Int32) (0 : Int32) (fun _ => (0 : Int32)) (fun _ => (0 : Int32)) X9 rfl N9 Z9 old A_ch E_xl F_value_xl F_coder_xl A_bd E_xs F_value_xs F_coder_xs A_bv E_ro F_text_ro F_starts_ro F_ends_ro F_firstFields_ro F_lines_ro F_faults_ro F_textUsed_ro F_fields_ro F_records_ro T_bt A_bs A_be A_bf A_bn (by omega) (by omega)
    · exact absurd (own_lt hc86_27) (by have q := own_nlt hc98_28; have e1 : (1 : Int32).toInt = 1 := rfl; have e2 : (2 : Int32).toInt = 2 := rfl; omega)
  · refine Go.step (fun t k => XS.icmpNo X9.here hx rfl (hb hby at_86) rfl (flt hc86_27).1 k) ?_
    show Go _ _ _ _ _ _ _ (T9.setTop (mkF m 89 #[.val (.int pa), .val (.int pb), .val (.int va), .val (.int vb), .val (.int v4), .val (.int v5), .val (.ref ch), .val (.ref xl), .val (.ref xs), .val (.ref ro), .unset] []))
    refine Go.step (fun t k => XS.aload X9.here hx rfl (hb hby at_89) rfl rfl k) ?_
    show Go _ _ _ _ _ _ _ (T9.setTop (mkF m 91 #[.val (.int pa), .val (.int pb), .val (.int va), .val (.int vb), .val (.int v4), .val (.int v5), .val (.ref ch), .val (.ref xl), .val (.ref xs), .val (.ref ro), .unset] [(.ref ro)]))
    refine Go.step (fun t k => XS.aload X9.here hx rfl (hb hby at_91) rfl rfl k) ?_
    show Go _ _ _ _ _ _ _ (T9.setTop (mkF m 93 #[.val (.int pa), .val (.int pb), .val (.int va), .val (.int vb), .val (.int v4), .val (.int v5), .val (.ref ch), .val (.ref xl), .val (.ref xs), .val (.ref ro), .unset] [(.ref xl), (.ref ro)]))
    obtain ⟨cq29, kq29, q29a, q29b, q29c⟩ := isOf hZ rfl E_ro
    obtain ⟨_, _, ⟨T29, L29, k29, n29⟩, -, X29, ⟨Lc29, hQ29, l29, y29, z29⟩, st29⟩ := X9.virtualBack hx (y := (⟨"com/example/vestwright/vestwright/io/Records", "addField", "(Ljava/lang/CharSequence;)V"⟩ : MethodName)) (z := (⟨"com/example/vestwright/vestwright/io/Records", "addField", "(Ljava/lang/CharSequence;)V"⟩ : MethodName)) hown (mvT hZ (hw _ (List.mem_of_getElem? (i := 91) rfl))) (mvT hZ (hw _ (List.mem_of_getElem? (i := 92) rfl))) (notFace_of_selects (args := #[]) (mvT hZ (hw _ (List.mem_of_getElem? (i := 94) rfl)))) (mvT hZ (hw _ (List.mem_of_getElem? (i := 94) rfl))) (mvT hZ (hw _ (List.mem_of_getElem? (i := 93) rfl))) (by decide) (backOf (W := 0) (rm16_2 l Z a0 hw [] ro xl cs fm bt bs be bf bn bx (0 : Int32) (0 : Int32) (0 : Int32) 0 0 bd (up (up (fun _ => (0 : Int32)) 0 (nar .byte ((nar .char v4).toInt8.toInt32))) 1 (nar .byte ((nar .char v5).toInt8.toInt32))) (fun _ => (0 : Int32)) (fun _ => (0 : Int32)) T9.heap n0 Z9 old hcs hc0 hfs hfr F_text_ro F_starts_ro F_ends_ro F_firstFields_ro F_lines_ro F_faults_ro F_textUsed_ro F_fields_ro F_records_ro E_ro E_xl F_value_xl F_coder_xl A_bd g_ro g_bt g_bs g_be T_bt A_bs A_be o8_ne_bt_bs o8_ne_bt_be o8_ne_bs_be o8_ne_ro_bt o8_ne_ro_bs o8_ne_ro_be ne_bd_bt ne_bd_bs ne_bd_be ne_xl_bt ne_xl_bs ne_xl_be own_zz own_zz (by omega) (by omega)) hZ (hw _ (List.mem_of_getElem? (i := 95) rfl)) (hw _ (List.mem_of_getElem? (i := 47) rfl)) (by decide) (by decide)) q29a q29c (g := (mkF m 93 #[.val (.int pa), .val (.int pb), .val (.int va), .val (.int vb), .val (.int v4), .val (.int v5), .val (.ref ch), .val (.ref xl), .val (.ref xs), .val (.ref ro), .unset] [(.ref xl), (.ref ro)])) rfl (by rw [hml]; rfl) (Steps.refl _) (argsL := [(.ref xl)]) (rest := []) (lenOf pd_0_6 rfl) rfl (by show 2 * 0 + _ ≤ _; exact Nat.le_of_eq rfl) (hb hby at_93) (fun _ _ => ⟨rfl, rfl, (by decide : 12 + 0 ≤ _), (by decide : 4824 + 0 ≤ _)⟩)
    dsimp only [Pt.U, Pt.locs, Pt.cells, Pt.slots] at X29 l29 y29 z29 st29 hQ29
    subst l29 y29 z29
    obtain ⟨rfl, N29q, K29q, o29_F_text_ro, o29_F_starts_ro, o29_F_ends_ro, o29_F_firstFields_ro, o29_F_lines_ro, o29_F_faults_ro, o29_F_textUsed_ro, o29_F_fields_ro, o29_F_records_ro, o29_T_bt, o29_A_bs, o29_A_be⟩ := hQ29
    have N29 := Fr.app N9 N29q
    replace old := Old.keep old K29q (allS g_ro (allS g_bt (allS g_bs (allS g_be all0))))
    replace A_ch := A_ch.keep K29q (ninS ne_ch_ro (ninS ne_ch_bt (ninS ne_ch_bs (ninS ne_ch_be nin0))))
    replace E_xl := E_xl.keep K29q
    replace F_value_xl := F_value_xl.keep K29q (ninS ne_xl_ro (ninS ne_xl_bt (ninS ne_xl_bs (ninS ne_xl_be nin0))))
    replace F_coder_xl := F_coder_xl.keep K29q (ninS ne_xl_ro (ninS ne_xl_bt (ninS ne_xl_bs (ninS ne_xl_be nin0))))
    replace A_bd := A_bd.keep K29q (ninS ne_bd_ro (ninS ne_bd_bt (ninS ne_bd_bs (ninS ne_bd_be nin0))))
    replace E_xs := E_xs.keep K29q
    replace F_value_xs := F_value_xs.keep K29q (ninS ne_xs_ro (ninS ne_xs_bt (ninS ne_xs_bs (ninS ne_xs_be nin0))))
    replace F_coder_xs := F_coder_xs.keep K29q (ninS ne_xs_ro (ninS ne_xs_bt (ninS ne_xs_bs (ninS ne_xs_be nin0))))
    replace A_bv := A_bv.keep K29q (ninS ne_bv_ro (ninS ne_bv_bt (ninS ne_bv_bs (ninS ne_bv_be nin0))))
    replace E_ro := E_ro.keep K29q
    replace A_bf := A_bf.keep K29q (ninS (Ne.symm o8_ne_ro_bf) (ninS (Ne.symm o8_ne_bt_bf) (ninS (Ne.symm o8_ne_bs_bf) (ninS (Ne.symm o8_ne_be_bf) nin0))))
    replace A_bn := A_bn.keep K29q (ninS (Ne.symm o8_ne_ro_bn) (ninS (Ne.symm o8_ne_bt_bn) (ninS (Ne.symm o8_ne_bs_bn) (ninS (Ne.symm o8_ne_be_bn) nin0))))
    have Z29 := Nat.le_trans Z9 K29q.1
    have F_text_ro := o29_F_text_ro
    have F_starts_ro := o29_F_starts_ro
    have F_ends_ro := o29_F_ends_ro
    have F_firstFields_ro := o29_F_firstFields_ro
    have F_lines_ro := o29_F_lines_ro
    have F_faults_ro := o29_F_faults_ro
    have F_textUsed_ro := o29_F_textUsed_ro
    have F_fields_ro := o29_F_fields_ro
    have F_records_ro := o29_F_records_ro
    have T_bt := o29_T_bt
    have A_bs := o29_A_bs
    have A_be := o29_A_be
    refine Go.step (fun t k => st29.trans k) ?_
    show Go _ _ _ _ _ _ _ (T29.setTop (mkF m 96 #[.val (.int pa), .val (.int pb), .val (.int va), .val (.int vb), .val (.int v4), .val (.int v5), .val (.ref ch), .val (.ref xl), .val (.ref xs), .val (.ref ro), .unset] []))
    have u30 := own_add (y := (2 : Int32)) own_zz (j := 2) rfl (by omega)
    have f31 := own_inc own_zz (by omega)
    refine Go.step (fun t k => XS.iloadN X29.here hx rfl (hb hby at_96) rfl k) ?_
    show Go _ _ _ _ _ _ _ (T29.setTop (mkF m 97 #[.val (.int pa), .val (.int pb), .val (.int va), .val (.int vb), .val (.int v4), .val (.int v5), .val (.ref ch), .val (.ref xl), .val (.ref xs), .val (.ref ro), .unset] [(.int va)]))
    refine Go.step (fun t k => XS.iconst X29.here hx rfl (hb hby at_97) k) ?_
    show Go _ _ _ _ _ _ _ (T29.setTop (mkF m 98 #[.val (.int pa), .val (.int pb), .val (.int va), .val (.int vb), .val (.int v4), .val (.int v5), .val (.ref ch), .val (.ref xl), .val (.ref xs), .val (.ref ro), .unset] [(.int (2 : Int32)), (.int va)]))
    by_cases hc98_32 : va < (2 : Int32)
    · refine Go.step (fun t k => XS.icmpYes X29.here hx rfl (pc0 := 98) (pc' := 108) rfl (hb hby at_98) rfl (tlt hc98_32).1 (by decide) (by decide) k) ?_
      show Go _ _ _ _ _ _ _ (T29.setTop (mkF m 108 #[.val (.int pa), .val (.int pb), .val (.int va), .val (.int vb), .val (.int v4), .val (.int v5), .val (.ref ch), .val (.ref xl), .val (.ref xs), .val (.ref ro), .unset] []))
      have mm := own_m3 hva
      have jhc86_27 := own_nlt hc86_27
      have jhc98_32 := own_lt hc98_32
      have e0 : (0 : Int32).toInt = 0 := rfl
      have e1 : (1 : Int32).toInt = 1 := rfl
      have e2 : (2 : Int32).toInt = 2 := rfl
      have e3 : (3 : Int32).toInt = 3 := rfl
      have zu := u30
      have zf := f31
      exact cut1 _ _ _ (2 : Int32) (1 : Int32) (up (fun _ => (0 : Int32)) 0 (0 : Int32)) (up (fun _ => (0 : Int32)) 0 (2 : Int32)) X29 rfl N29 Z29 old A_ch E_xl F_value_xl F_coder_xl A_bd E_xs F_value_xs F_coder_xs A_bv E_ro F_text_ro F_starts_ro F_ends_ro F_firstFields_ro F_lines_ro F_faults_ro F_textUsed_ro F_fields_ro F_records_ro T_bt A_bs A_be A_bf A_bn (by omega) (by omega)
    · refine Go.step (fun t k => XS.icmpNo X29.here hx rfl (hb hby at_98) rfl (flt hc98_32).1 k) ?_
      show Go _ _ _ _ _ _ _ (T29.setTop (mkF m 101 #[.val (.int pa), .val (.int pb), .val (.int va), .val (.int vb), .val (.int v4), .val (.int v5), .val (.ref ch), .val (.ref xl), .val (.ref xs), .val (.ref ro), .unset] []))
      refine Go.step (fun t k => XS.aload X29.here hx rfl (hb hby at_101) rfl rfl k) ?_
      show Go _ _ _ _ _ _ _ (T29.setTop (mkF m 103 #[.val (.int pa), .val (.int pb), .val (.int va), .val (.int vb), .val (.int v4), .val (.int v5), .val (.ref ch), .val (.ref xl), .val (.ref xs), .val (.ref ro), .unset] [(.ref ro)]))
      refine Go.step (fun t k => XS.aload X29.here hx rfl (hb hby at_103) rfl rfl k) ?_
      show Go _ _ _ _ _ _ _ (T29.setTop (mkF m 105 #[.val (.int pa), .val (.int pb), .val (.int va), .val (.int vb), .val (.int v4), .val (.int v5), .val (.ref ch), .val (.ref xl), .val (.ref xs), .val (.ref ro), .unset] [(.ref xs), (.ref ro)]))
      obtain ⟨cq33, kq33, q33a, q33b, q33c⟩ := isOf hZ rfl E_ro
      obtain ⟨_, _, ⟨T33, L33, k33, n33⟩, -, X33, ⟨Lc33, hQ33, l33, y33, z33⟩, st33⟩ := X29.virtualBack hx (y := (⟨"com/example/vestwright/vestwright/io/Records", "addField", "(Ljava/lang/CharSequence;)V"⟩ : MethodName)) (z := (⟨"com/example/vestwright/vestwright/io/Records", "addField", "(Ljava/lang/CharSequence;)V"⟩ : MethodName)) hown (mvT hZ (hw _ (List.mem_of_getElem? (i := 91) rfl))) (mvT hZ (hw _ (List.mem_of_getElem? (i := 92) rfl))) (notFace_of_selects (args := #[]) (mvT hZ (hw _ (List.mem_of_getElem? (i := 94) rfl)))) (mvT hZ (hw _ (List.mem_of_getElem? (i := 94) rfl))) (mvT hZ (hw _ (List.mem_of_getElem? (i := 93) rfl))) (by decide) (backOf (W := 0) (rm16_1 l Z a0 hw [] ro xs cs fm bt bs be bf bn bx (2 : Int32) (1 : Int32) (0 : Int32) (0 + 2) (0 + 1) bv (up (fun _ => (0 : Int32)) 0 (nar .byte (v5.toInt8.toInt32))) (up (fun _ => (0 : Int32)) 0 (0 : Int32)) (up (fun _ => (0 : Int32)) 0 (2 : Int32)) T29.heap n0 Z29 old hcs hc0 hfs hfr F_text_ro F_starts_ro F_ends_ro F_firstFields_ro F_lines_ro F_faults_ro F_textUsed_ro F_fields_ro F_records_ro E_ro E_xs F_value_xs F_coder_xs A_bv g_ro g_bt g_bs g_be T_bt A_bs A_be o8_ne_bt_bs o8_ne_bt_be o8_ne_bs_be o8_ne_ro_bt o8_ne_ro_bs o8_ne_ro_be ne_bv_bt ne_bv_bs ne_bv_be ne_xs_bt ne_xs_bs ne_xs_be u30 f31 (by omega) (by omega)) hZ (hw _ (List.mem_of_getElem? (i := 95) rfl)) (hw _ (List.mem_of_getElem? (i := 47) rfl)) (by decide) (by decide)) q33a q33c (g := (mkF m 105 #[.val (.int pa), .val (.int pb), .val (.int va), .val (.int vb), .val (.int v4), .val (.int v5), .val (.ref ch), .val (.ref xl), .val (.ref xs), .val (.ref ro), .unset] [(.ref xs), (.ref ro)])) rfl (by rw [hml]; rfl) (Steps.refl _) (argsL := [(.ref xs)]) (rest := []) (lenOf pd_0_6 rfl) rfl (by show 2 * 0 + _ ≤ _; exact Nat.le_of_eq rfl) (hb hby at_105) (fun _ _ => ⟨rfl, rfl, (by decide : 12 + 0 ≤ _), (by decide : 4824 + 0 ≤ _)⟩)
      dsimp only [Pt.U, Pt.locs, Pt.cells, Pt.slots] at X33 l33 y33 z33 st33 hQ33
      subst l33 y33 z33
      obtain ⟨rfl, N33q, K33q, o33_F_text_ro, o33_F_starts_ro, o33_F_ends_ro, o33_F_firstFields_ro, o33_F_lines_ro, o33_F_faults_ro, o33_F_textUsed_ro, o33_F_fields_ro, o33_F_records_ro, o33_T_bt, o33_A_bs, o33_A_be⟩ := hQ33
      have N33 := Fr.app N29 N33q
      replace old := Old.keep old K33q (allS g_ro (allS g_bt (allS g_bs (allS g_be all0))))
      replace A_ch := A_ch.keep K33q (ninS ne_ch_ro (ninS ne_ch_bt (ninS ne_ch_bs (ninS ne_ch_be nin0))))
      replace E_xl := E_xl.keep K33q
      replace F_value_xl := F_value_xl.keep K33q (ninS ne_xl_ro (ninS ne_xl_bt (ninS ne_xl_bs (ninS ne_xl_be nin0))))
      replace F_coder_xl := F_coder_xl.keep K33q (ninS ne_xl_ro (ninS ne_xl_bt (ninS ne_xl_bs (ninS ne_xl_be nin0))))
      replace A_bd := A_bd.keep K33q (ninS ne_bd_ro (ninS ne_bd_bt (ninS ne_bd_bs (ninS ne_bd_be nin0))))
      replace E_xs := E_xs.keep K33q
      replace F_value_xs := F_value_xs.keep K33q (ninS ne_xs_ro (ninS ne_xs_bt (ninS ne_xs_bs (ninS ne_xs_be nin0))))
      replace F_coder_xs := F_coder_xs.keep K33q (ninS ne_xs_ro (ninS ne_xs_bt (ninS ne_xs_bs (ninS ne_xs_be nin0))))
      replace A_bv := A_bv.keep K33q (ninS ne_bv_ro (ninS ne_bv_bt (ninS ne_bv_bs (ninS ne_bv_be nin0))))
      replace E_ro := E_ro.keep K33q
      replace A_bf := A_bf.keep K33q (ninS (Ne.symm o8_ne_ro_bf) (ninS (Ne.symm o8_ne_bt_bf) (ninS (Ne.symm o8_ne_bs_bf) (ninS (Ne.symm o8_ne_be_bf) nin0))))
      replace A_bn := A_bn.keep K33q (ninS (Ne.symm o8_ne_ro_bn) (ninS (Ne.symm o8_ne_bt_bn) (ninS (Ne.symm o8_ne_bs_bn) (ninS (Ne.symm o8_ne_be_bn) nin0))))
      have Z33 := Nat.le_trans Z29 K33q.1
      have F_text_ro := o33_F_text_ro
      have F_starts_ro := o33_F_starts_ro
      have F_ends_ro := o33_F_ends_ro
      have F_firstFields_ro := o33_F_firstFields_ro
      have F_lines_ro := o33_F_lines_ro
      have F_faults_ro := o33_F_faults_ro
      have F_textUsed_ro := o33_F_textUsed_ro
      have F_fields_ro := o33_F_fields_ro
      have F_records_ro := o33_F_records_ro
      have T_bt := o33_T_bt
      have A_bs := o33_A_bs
      have A_be := o33_A_be
      refine Go.step (fun t k => st33.trans k) ?_
      show Go _ _ _ _ _ _ _ (T33.setTop (mkF m 108 #[.val (.int pa), .val (.int pb), .val (.int va), .val (.int vb), .val (.int v4), .val (.int v5), .val (.ref ch), .val (.ref xl), .val (.ref xs), .val (.ref ro), .unset] []))
      have u34 := own_add (y := (1 : Int32)) u30 (j := 1) rfl (by omega)
      have f35 := own_inc f31 (by omega)
      have mm := own_m3 hva
      have jhc86_27 := own_nlt hc86_27
      have jhc98_32 := own_nlt hc98_32
      have e0 : (0 : Int32).toInt = 0 := rfl
      have e1 : (1 : Int32).toInt = 1 := rfl
      have e2 : (2 : Int32).toInt = 2 := rfl
      have e3 : (3 : Int32).toInt = 3 := rfl
      have zu := u34
      have zf := f35
      exact cut1 _ _ _ (3 : Int32) (2 : Int32) (up (up (fun _ => (0 : Int32)) 0 (0 : Int32)) 1 (2 : Int32)) (up (up (fun _ => (0 : Int32)) 0 (2 : Int32)) 1 (3 : Int32)) X33 rfl N33 Z33 old A_ch E_xl F_value_xl F_coder_xl A_bd E_xs F_value_xs F_coder_xs A_bv E_ro F_text_ro F_starts_ro F_ends_ro F_firstFields_ro F_lines_ro F_faults_ro F_textUsed_ro F_fields_ro F_records_ro T_bt A_bs A_be A_bf A_bn (by omega) (by omega)
set_option maxRecDepth 65536 in
set_option maxHeartbeats 40000000 in
theorem comes_1 {Post : Tables → Env → Array Value → State → Outcome → State → Prop} (hpost : ∀ tb e args s v u, (limb_1_1.after args s (.returned v) u = true ∧ limb_1_2.after args s (.returned v) u = true ∧ True) → FrameEnd s (.returned v) u (Jvm.fieldLocs frame_1_writes args s ++ Jvm.arrayLocs frame_1_arrays args s ++ Jvm.staticLocs frame_1_statics s) 32 9728 → Post tb e args s (.returned v) u) :
    ArmFor flags0 classFile x code maxLocals ret World_1 tables_1 room_1 Calls_1 rest_1 Pre_1 Post := by
  intro l hfl _ _ p e ha hc hk s m args below hf hA hF happ hP
  obtain ⟨hcalls, hrest, hpre⟩ := hP
  obtain ⟨-, -, -, hnamed, -, -, -, hat⟩ := (Spec.applies_iff hf).mp happ
  obtain ⟨hg, hn⟩ := and_e (Cond.before_iff.mp (show (Jvm.Cond.and given_1 narrow_1).before args s = true from hpre))
  obtain ⟨gv1, gv2⟩ := and_e hg
  obtain ⟨gv3, gv4⟩ := and_e gv2
  obtain ⟨w0, w1, rfl⟩ : ∃ w0 w1 : Value, args = #[w0, w1] := by
    have hs : args.size = 2 := by simpa [Cond.value, given_1] using gv1
    obtain ⟨L⟩ := args
    match L, hs with
    | [w0, w1], _ => exact ⟨w0, w1, rfl⟩
  have hw := fun d (hd : d ∈ tables_1) => atoms_spec (ws := Jvm.Cond.code x code maxLocals ret :: tables_1) hat d (List.mem_cons_of_mem _ hd)
  have hfit : Fit s := fun {y c} hc i hi => by
    obtain ⟨ha, rfl⟩ := Array.getElem?_eq_some_iff.mp hc
    have q := List.all_eq_true.mp ((Array.all_eq_true_iff_forall_mem.mp hF) _ (Array.getElem_mem ha)) i (List.mem_range.mpr hi)
    simpa [Array.getElem?_eq_getElem hi] using q
  obtain ⟨hsets, hown0⟩ := atoms_of _ (rest_1_c_eq ▸ (show rest_1_c.before _ s = true from hrest))
  have hr0 := Cond.before_iff.mp hown0
  obtain ⟨i0, ei0⟩ := is_v gv3
  obtain rfl : w0 = (.int i0) := Option.some.inj ei0
  obtain ⟨i1, ei1⟩ := is_v gv4
  obtain rfl : w1 = (.int i1) := Option.some.inj ei1
  obtain ⟨cs, evc⟩ := is_v (Cond.before_iff.mp (hsets _ (List.mem_of_getElem? (i := 1) rfl)))
  have hcs : Sta s s.heap "java/lang/String" "COMPACT_STRINGS" "Z" (.int cs) := Sta.start evc (Or.inl (hsets _ (List.mem_of_getElem? (i := 0) rfl)))
  have hc0 : ¬ cs = (0 : Int32) := own_cs evc (Cond.before_iff.mp (hsets _ (List.mem_of_getElem? (i := 2) rfl)))
  obtain ⟨fm, evf, hfr⟩ := isR_v (Cond.before_iff.mp (hsets _ (List.mem_of_getElem? (i := 8) rfl)))
  have hfs : Sta s s.heap "jdk/internal/util/Preconditions" "SIOOBE_FORMATTER" "Ljava/util/function/BiFunction;" fm := Sta.start evf (Or.inl (hsets _ (List.mem_of_getElem? (i := 7) rfl)))
  obtain ⟨n, o, h1, h2, h3, _, L, rfl, ⟨rfl, N⟩, hq⟩ := rm0 l s _ hw tables_1 i0 i1 cs fm s.heap s.heap.size (Nat.le_refl _) (Old.start s) hcs hc0 hfs hfr p e ha hc hk s m _ below hf ((Spec.applies_iff_loose hf).mp happ).1 ⟨rfl, State.Warmed39.refl s, rfl⟩ trivial
  refine ⟨n, _, h1, h2, h3, hpost _ _ _ _ _ _ ⟨Cond.after_iff.mpr rfl, Cond.after_iff.mpr (eq_i res_at (Term.int_eval (1)) rfl), trivial⟩ ⟨hq.1, hq.2.1, (hq.2.2.sift fun y hy => Or.inr (N y hy)).mono (by decide) (by decide)⟩⟩
theorem main_1_1 : Claimed_1_1 := comes_1 fun _ _ _ _ _ _ h hF => ⟨h.1, hF⟩
theorem main_1_2 : Claimed_1_2 := comes_1 fun _ _ _ _ _ _ h hF => ⟨h.2.1, hF⟩
end Jvm.Pilot.@@N@@
namespace Jvm.Pilot.@@N@@
open Jvm Jvm.ClassFile Sem Op Lib Jvm.Free Jvm.Stand Jvm.Pilot.@@N@@.Jvm.D
/-! MADE BY PROGRAM (witnessworld.py) out of the Statement's table words and the real class files: 25 classes; the members and pool entries that the words name. The judged class is class 1, her method 1. -/
namespace start1
open Jvm.ClassFile
def u (s : String) : CpInfo := .utf8 (stringToUtf16 s)
/-- a pool by its gaps: so many unusable entries, then the entry; so many at the end -/
def gap : Nat → List CpInfo → List CpInfo
  | 0, r => r
  | n + 1, r => .unusable :: gap n r
def poolList (es : List (Nat × CpInfo)) (last : Nat) : List CpInfo := es.foldr (fun e r => gap e.1 (e.2 :: r)) (gap last [])
def pool (es : List (Nat × CpInfo)) (last : Nat) : Array CpInfo := ⟨poolList es last⟩
def fileOf (pool : Array CpInfo) (this : Nat) (attrs : Array Attribute := #[]) (ms : Array MethodInfo := #[]) (fl : Nat := 33) (sup : Nat := 0) (ifs : Array Nat := #[]) (fds : Array FieldInfo := #[]) : ClassFile where
  minorVersion := 0
  majorVersion := 65
  constantPool := pool
  accessFlags := fl
  thisClass := this
  superClass := sup
  interfaces := ifs
  fields := fds
  methods := ms
  attributes := attrs
def plain (name : String) (sup : Option ClassId) : Class where
  name := name
  kind := .ordinary
  loader := none
  accessFlags := 33
  super := sup
  interfaces := #[]
  cf := none
  fields := #[]
  methods := #[]
  instanceTypes := #[]
  staticTypes := #[]
  resolved := #[]
  callSites := []
  init := .initialized
  statics := none
  mirror := none

def pool0 : Array CpInfo := pool [(5, u "<init>"), (0, u "()V"), (1, .class_ 10), (1, u "java/lang/Object")] 113

def k0c0 : Code := { maxStack := 0, maxLocals := 1, code := object_method_1_code, exceptionTable := #[], attributes := #[] }
def k0m0 : Method := { name := "<init>", desc := "()V", sig := { parameters := [], returnType := none }, accessFlags := 1, code := some k0c0 }
/-- java/lang/Object -/
def k0 : Class := { plain "java/lang/Object" none with
  accessFlags := 33
  interfaces := #[]
  cf := some (fileOf pool0 8 #[] #[{ accessFlags := 1, nameIndex := 5, descriptorIndex := 6, attributes := #[] }] 33 0 #[] #[])
  fields := #[]
  methods := #[k0m0]
  instanceTypes := #[]
  staticTypes := #[]
  resolved := Array.replicate 124 none
  statics := none }

def pool1 : Array CpInfo := pool [(2, .class_ 4), (0, .nameAndType 5 6), (0, u "java/lang/Object"), (0, u "<init>"), (0, u "()V"), (0, .integer 2147483647), (0, .class_ 9), (0, u "java/lang/String"), (0, .methodref 8 11), (0, .nameAndType 5 12), (0, u "([C)V"), (0, .methodref 8 14), (0, .nameAndType 15 16), (0, u "valueOf"), (0, u "(C)Ljava/lang/String;"), (0, .class_ 18), (0, u "com/example/vestwright/vestwright/io/Records"), (0, .methodref 17 3), (0, .methodref 17 21), (0, .nameAndType 22 23), (0, u "startRecord"), (0, u "(I)V"), (0, .methodref 17 25), (0, .nameAndType 26 27), (0, u "addField"), (0, u "(Ljava/lang/CharSequence;)V"), (0, .methodref 17 29), (0, .nameAndType 30 6), (0, u "endRecord"), (0, .methodref 17 32), (0, .nameAndType 33 34), (0, u "size"), (0, u "()I"), (0, .methodref 17 36), (0, .nameAndType 37 38), (0, u "width"), (0, u "(I)I"), (0, .class_ 40), (0, u "com/example/vestwright/vestwright/io/RecordsEndRecordPinLaw"), (2, u "law"), (0, u "(II)Z")] 5

def k1m0 : Method := { name := "<init>", desc := "()V", sig := { parameters := [], returnType := none }, accessFlags := 2, code := none }
def k1c1 : Code := { maxStack := 4, maxLocals := 11, code := code, exceptionTable := #[], attributes := #[] }
def k1m1 : Method := { name := "law", desc := "(II)Z", sig := { parameters := [.int, .int], returnType := some .boolean }, accessFlags := 9, code := some k1c1 }
/-- com/example/vestwright/vestwright/io/RecordsEndRecordPinLaw -/
def k1 : Class := { plain "com/example/vestwright/vestwright/io/RecordsEndRecordPinLaw" (some 0) with
  accessFlags := 49
  interfaces := #[]
  cf := some (fileOf pool1 39 #[] #[{ accessFlags := 2, nameIndex := 5, descriptorIndex := 6, attributes := #[] }, { accessFlags := 9, nameIndex := 43, descriptorIndex := 44, attributes := #[] }] 49 2 #[] #[])
  fields := #[]
  methods := #[k1m0, k1m1]
  instanceTypes := #[]
  staticTypes := #[]
  resolved := Array.replicate 50 none
  statics := none }

def pool2 : Array CpInfo := pool [(1, .class_ 2), (0, u "java/io/Serializable"), (0, .class_ 4), (0, u "java/lang/Object")] 2

/-- java/io/Serializable -/
def k2 : Class := { plain "java/io/Serializable" (some 0) with
  accessFlags := 1537
  interfaces := #[]
  cf := some (fileOf pool2 1 #[] #[] 1537 3 #[] #[])
  fields := #[]
  methods := #[]
  instanceTypes := #[]
  staticTypes := #[]
  resolved := Array.replicate 7 none
  statics := none }

def pool3 : Array CpInfo := pool [(1, .class_ 2), (0, u "java/lang/Comparable"), (0, .class_ 4), (0, u "java/lang/Object")] 7

/-- java/lang/Comparable -/
def k3 : Class := { plain "java/lang/Comparable" (some 0) with
  accessFlags := 1537
  interfaces := #[]
  cf := some (fileOf pool3 1 #[] #[] 1537 3 #[] #[])
  fields := #[]
  methods := #[]
  instanceTypes := #[]
  staticTypes := #[]
  resolved := Array.replicate 12 none
  statics := none }

def pool4 : Array CpInfo := pool [(2, .class_ 4), (1, u "java/lang/CharSequence"), (0, u "length"), (0, u "()I"), (38, u "charAt"), (0, u "(I)C"), (0, .class_ 48), (0, u "java/lang/CharSequence$1CodePointIterator"), (10, .class_ 60), (0, u "java/lang/CharSequence$1CharIterator"), (5, .class_ 67), (0, u "java/lang/Object")] 63

def k4m0 : Method := { name := "length", desc := "()I", sig := { parameters := [], returnType := some .int }, accessFlags := 1025, code := none }
def k4m1 : Method := { name := "charAt", desc := "(I)C", sig := { parameters := [.int], returnType := some .char }, accessFlags := 1025, code := none }
/-- java/lang/CharSequence -/
def k4 : Class := { plain "java/lang/CharSequence" (some 0) with
  accessFlags := 1537
  interfaces := #[]
  cf := some (fileOf pool4 2 #[.nestMembers #[47, 59]] #[{ accessFlags := 1025, nameIndex := 5, descriptorIndex := 6, attributes := #[] }, { accessFlags := 1025, nameIndex := 45, descriptorIndex := 46, attributes := #[] }] 1537 66 #[] #[])
  fields := #[]
  methods := #[k4m0, k4m1]
  instanceTypes := #[]
  staticTypes := #[]
  resolved := Array.replicate 131 none
  statics := none }

def pool5 : Array CpInfo := pool [(1, .class_ 2), (0, u "java/lang/constant/Constable"), (0, .class_ 4), (0, u "java/lang/Object")] 6

/-- java/lang/constant/Constable -/
def k5 : Class := { plain "java/lang/constant/Constable" (some 0) with
  accessFlags := 1537
  interfaces := #[]
  cf := some (fileOf pool5 1 #[] #[] 1537 3 #[] #[])
  fields := #[]
  methods := #[]
  instanceTypes := #[]
  staticTypes := #[]
  resolved := Array.replicate 11 none
  statics := none }

def pool6 : Array CpInfo := pool [(1, .class_ 2), (0, u "java/lang/constant/ConstantDesc"), (0, .class_ 4), (0, u "java/lang/Object")] 32

/-- java/lang/constant/ConstantDesc -/
def k6 : Class := { plain "java/lang/constant/ConstantDesc" (some 0) with
  accessFlags := 1537
  interfaces := #[]
  cf := some (fileOf pool6 1 #[] #[] 1537 3 #[] #[])
  fields := #[]
  methods := #[]
  instanceTypes := #[]
  staticTypes := #[]
  resolved := Array.replicate 37 none
  statics := none }

def pool7 : Array CpInfo := pool [(1, .methodref 2 3), (0, .class_ 4), (0, .nameAndType 5 6), (0, u "java/lang/Object"), (0, u "<init>"), (0, u "()V"), (2, .fieldref 10 11), (0, .class_ 12), (0, .nameAndType 13 14), (0, u "java/lang/String"), (0, u "value"), (0, u "[B"), (0, .fieldref 10 16), (0, .nameAndType 17 18), (0, u "coder"), (0, u "B"), (2, u "hash"), (0, u "I"), (2, u "hashIsZero"), (0, u "Z"), (0, .methodref 10 28), (0, .nameAndType 5 29), (0, u "([CIILjava/lang/Void;)V"), (8, .fieldref 10 39), (0, .nameAndType 40 26), (0, u "COMPACT_STRINGS"), (1, .class_ 44), (1, u "java/lang/StringUTF16"), (0, u "compress"), (1, .methodref 42 48), (0, .nameAndType 49 50), (0, u "coderFromArrayLen"), (0, u "([BI)B"), (2, u "toBytes"), (53, .class_ 109), (1, u "java/lang/StringLatin1"), (32, u "()Z"), (34, .methodref 42 178), (0, .nameAndType 45 179), (0, u "([CII)[B"), (29, .methodref 10 210), (0, .nameAndType 5 211), (0, u "([BB)V"), (122, u "()I"), (0, .methodref 10 336), (0, .nameAndType 17 337), (0, u "()B"), (25, u "([BI)C"), (5, u "(C)Z"), (21, u "(II)V"), (35, u "(I)C"), (64, .methodref 10 493), (0, .nameAndType 494 142), (0, u "isLatin1"), (0, .methodref 107 496), (0, .nameAndType 497 363), (0, u "charAt"), (3, u "checkIndex"), (5, u "length"), (67, .class_ 576), (0, u "java/lang/CharSequence"), (22, u "CASE_INSENSITIVE_ORDER"), (0, u "Ljava/util/Comparator;"), (181, u "valueOf"), (0, u "(C)Ljava/lang/String;"), (226, u "([C)V"), (4, .methodref 107 1016), (0, .nameAndType 1017 369), (0, u "canEncode"), (0, .methodref 107 1019), (0, .nameAndType 53 1020), (0, u "(C)[B"), (32, .fieldref 1054 1055), (0, .class_ 1056), (0, .nameAndType 1057 1058), (0, u "jdk/internal/util/Preconditions"), (0, u "SIOOBE_FORMATTER"), (0, u "Ljava/util/function/BiFunction;"), (0, .methodref 1054 1060), (0, .nameAndType 501 1061), (0, u "(IILjava/util/function/BiFunction;)I"), (39, u "serialPersistentFields"), (0, u "[Ljava/io/ObjectStreamField;"), (0, .class_ 1104), (0, u "java/lang/String$CaseInsensitiveComparator"), (1, .class_ 1107), (0, u "java/io/Serializable"), (0, .class_ 1109), (0, u "java/lang/Comparable"), (0, .class_ 1111), (0, u "java/lang/constant/Constable"), (0, .class_ 1113), (0, u "java/lang/constant/ConstantDesc"), (2, u "serialVersionUID"), (0, u "J"), (3, u "REPL"), (0, u "C"), (2, u "LATIN1"), (1, u "UTF16")] 323

def k7m0 : Method := { name := "<init>", desc := "()V", sig := { parameters := [], returnType := none }, accessFlags := 1, code := none }
def k7c1 : Code := { maxStack := 5, maxLocals := 2, code := jdk_42_method_3_code, exceptionTable := #[], attributes := #[] }
def k7m1 : Method := { name := "<init>", desc := "([C)V", sig := { parameters := [(.array .char)], returnType := none }, accessFlags := 1, code := some k7c1 }
def k7c2 : Code := { maxStack := 2, maxLocals := 1, code := jdk_42_method_54_code, exceptionTable := #[], attributes := #[] }
def k7m2 : Method := { name := "length", desc := "()I", sig := { parameters := [], returnType := some .int }, accessFlags := 1, code := some k7c2 }
def k7c3 : Code := { maxStack := 2, maxLocals := 2, code := jdk_42_method_56_code, exceptionTable := #[], attributes := #[] }
def k7m3 : Method := { name := "charAt", desc := "(I)C", sig := { parameters := [.int], returnType := some .char }, accessFlags := 1, code := some k7c3 }
def k7c4 : Code := { maxStack := 4, maxLocals := 1, code := jdk_42_method_139_code, exceptionTable := #[], attributes := #[] }
def k7m4 : Method := { name := "valueOf", desc := "(C)Ljava/lang/String;", sig := { parameters := [.char], returnType := some (.object "java/lang/String") }, accessFlags := 9, code := some k7c4 }
def k7c5 : Code := { maxStack := 4, maxLocals := 6, code := jdk_42_method_149_code, exceptionTable := #[], attributes := #[] }
def k7m5 : Method := { name := "<init>", desc := "([CIILjava/lang/Void;)V", sig := { parameters := [(.array .char), .int, .int, (.object "java/lang/Void")], returnType := none }, accessFlags := 2, code := some k7c5 }
def k7c6 : Code := { maxStack := 2, maxLocals := 3, code := jdk_42_method_151_code, exceptionTable := #[], attributes := #[] }
def k7m6 : Method := { name := "<init>", desc := "([BB)V", sig := { parameters := [(.array .byte), .byte], returnType := none }, accessFlags := 0, code := some k7c6 }
def k7c7 : Code := { maxStack := 1, maxLocals := 1, code := jdk_42_method_152_code, exceptionTable := #[], attributes := #[] }
def k7m7 : Method := { name := "coder", desc := "()B", sig := { parameters := [], returnType := some .byte }, accessFlags := 0, code := some k7c7 }
def k7c8 : Code := { maxStack := 1, maxLocals := 1, code := jdk_42_method_154_code, exceptionTable := #[], attributes := #[] }
def k7m8 : Method := { name := "isLatin1", desc := "()Z", sig := { parameters := [], returnType := some .boolean }, accessFlags := 0, code := some k7c8 }
def k7c9 : Code := { maxStack := 3, maxLocals := 2, code := jdk_42_method_155_code, exceptionTable := #[], attributes := #[] }
def k7m9 : Method := { name := "checkIndex", desc := "(II)V", sig := { parameters := [.int, .int], returnType := none }, accessFlags := 8, code := some k7c9 }
/-- java/lang/String -/
def k7 : Class := { plain "java/lang/String" (some 0) with
  accessFlags := 49
  interfaces := #[2, 3, 4, 5, 6]
  cf := some (fileOf pool7 10 #[.nestMembers #[1103]] #[{ accessFlags := 1, nameIndex := 5, descriptorIndex := 6, attributes := #[] }, { accessFlags := 1, nameIndex := 5, descriptorIndex := 1010, attributes := #[] }, { accessFlags := 1, nameIndex := 507, descriptorIndex := 334, attributes := #[] }, { accessFlags := 1, nameIndex := 497, descriptorIndex := 427, attributes := #[] }, { accessFlags := 9, nameIndex := 782, descriptorIndex := 783, attributes := #[] }, { accessFlags := 2, nameIndex := 5, descriptorIndex := 29, attributes := #[] }, { accessFlags := 0, nameIndex := 5, descriptorIndex := 211, attributes := #[] }, { accessFlags := 0, nameIndex := 17, descriptorIndex := 337, attributes := #[] }, { accessFlags := 0, nameIndex := 494, descriptorIndex := 142, attributes := #[] }, { accessFlags := 8, nameIndex := 501, descriptorIndex := 391, attributes := #[] }] 49 2 #[1106, 1108, 575, 1110, 1112] #[{ accessFlags := 18, nameIndex := 13, descriptorIndex := 14, attributes := #[] }, { accessFlags := 18, nameIndex := 17, descriptorIndex := 18, attributes := #[] }, { accessFlags := 2, nameIndex := 21, descriptorIndex := 22, attributes := #[] }, { accessFlags := 2, nameIndex := 25, descriptorIndex := 26, attributes := #[] }, { accessFlags := 26, nameIndex := 1116, descriptorIndex := 1117, attributes := #[] }, { accessFlags := 24, nameIndex := 40, descriptorIndex := 26, attributes := #[] }, { accessFlags := 26, nameIndex := 1101, descriptorIndex := 1102, attributes := #[] }, { accessFlags := 26, nameIndex := 1121, descriptorIndex := 1122, attributes := #[] }, { accessFlags := 25, nameIndex := 599, descriptorIndex := 600, attributes := #[] }, { accessFlags := 24, nameIndex := 1125, descriptorIndex := 18, attributes := #[] }, { accessFlags := 24, nameIndex := 1127, descriptorIndex := 18, attributes := #[] }])
  fields := #[{ name := "value", type := (.array .byte), accessFlags := 18, slot := 0, constantValue := 0 }, { name := "coder", type := .byte, accessFlags := 18, slot := 1, constantValue := 0 }, { name := "hash", type := .int, accessFlags := 2, slot := 2, constantValue := 0 }, { name := "hashIsZero", type := .boolean, accessFlags := 2, slot := 3, constantValue := 0 }, { name := "serialVersionUID", type := .long, accessFlags := 26, slot := 0, constantValue := 0 }, { name := "COMPACT_STRINGS", type := .boolean, accessFlags := 24, slot := 1, constantValue := 0 }, { name := "serialPersistentFields", type := (.array (.object "java/io/ObjectStreamField")), accessFlags := 26, slot := 2, constantValue := 0 }, { name := "REPL", type := .char, accessFlags := 26, slot := 3, constantValue := 0 }, { name := "CASE_INSENSITIVE_ORDER", type := (.object "java/util/Comparator"), accessFlags := 25, slot := 4, constantValue := 0 }, { name := "LATIN1", type := .byte, accessFlags := 24, slot := 5, constantValue := 0 }, { name := "UTF16", type := .byte, accessFlags := 24, slot := 6, constantValue := 0 }]
  methods := #[k7m0, k7m1, k7m2, k7m3, k7m4, k7m5, k7m6, k7m7, k7m8, k7m9]
  instanceTypes := #[(.array .byte), .byte, .int, .boolean]
  staticTypes := #[.long, .boolean, (.array (.object "java/io/ObjectStreamField")), .char, (.object "java/util/Comparator"), .byte, .byte]
  resolved := Array.replicate 1451 none
  statics := some 0 }

def pool8 : Array CpInfo := pool [(6, .class_ 8), (1, u "java/lang/Object"), (0, u "<init>"), (0, u "()V"), (1, .class_ 14), (1, u "java/lang/StringUTF16"), (31, u "$assertionsDisabled"), (0, u "Z"), (13, u "HI_BYTE_SHIFT"), (0, u "I"), (2, u "LO_BYTE_SHIFT"), (49, .methodref 12 116), (0, .nameAndType 117 118), (0, u "compress"), (0, u "([CI[BII)I"), (3, u "([CII)[B"), (138, u "coderFromArrayLen"), (0, u "([BI)B"), (106, .class_ 371), (1, u "java/lang/StringUTF16$LinesSpliterator"), (58, u "MAX_LENGTH"), (196, .class_ 628), (0, u "java/lang/StringUTF16$CodePointsSpliterator"), (0, .class_ 630), (0, u "java/lang/StringUTF16$CharsSpliterator")] 4

def k8m0 : Method := { name := "<init>", desc := "()V", sig := { parameters := [], returnType := none }, accessFlags := 0, code := none }
def k8c1 : Code := { maxStack := 2, maxLocals := 2, code := jdk_52_method_15_code, exceptionTable := #[], attributes := #[] }
def k8m1 : Method := { name := "coderFromArrayLen", desc := "([BI)B", sig := { parameters := [(.array .byte), .int], returnType := some .byte }, accessFlags := 8, code := some k8c1 }
def k8c2 : Code := { maxStack := 5, maxLocals := 6, code := jdk_52_method_16_code, exceptionTable := #[], attributes := #[] }
def k8m2 : Method := { name := "compress", desc := "([CII)[B", sig := { parameters := [(.array .char), .int, .int], returnType := some (.array .byte) }, accessFlags := 9, code := some k8c2 }
def k8c3 : Code := { maxStack := 3, maxLocals := 7, code := jdk_52_method_21_code, exceptionTable := #[], attributes := #[] }
def k8m3 : Method := { name := "compress", desc := "([CI[BII)I", sig := { parameters := [(.array .char), .int, (.array .byte), .int, .int], returnType := some .int }, accessFlags := 9, code := some k8c3 }
/-- java/lang/StringUTF16 -/
def k8 : Class := { plain "java/lang/StringUTF16" (some 0) with
  accessFlags := 48
  interfaces := #[]
  cf := some (fileOf pool8 12 #[.nestMembers #[627, 629, 369]] #[{ accessFlags := 0, nameIndex := 9, descriptorIndex := 10, attributes := #[] }, { accessFlags := 8, nameIndex := 261, descriptorIndex := 262, attributes := #[] }, { accessFlags := 9, nameIndex := 117, descriptorIndex := 122, attributes := #[] }, { accessFlags := 9, nameIndex := 117, descriptorIndex := 118, attributes := #[] }] 48 6 #[] #[{ accessFlags := 26, nameIndex := 61, descriptorIndex := 62, attributes := #[] }, { accessFlags := 26, nameIndex := 65, descriptorIndex := 62, attributes := #[] }, { accessFlags := 24, nameIndex := 430, descriptorIndex := 62, attributes := #[] }, { accessFlags := 4120, nameIndex := 46, descriptorIndex := 47, attributes := #[] }])
  fields := #[{ name := "HI_BYTE_SHIFT", type := .int, accessFlags := 26, slot := 0, constantValue := 0 }, { name := "LO_BYTE_SHIFT", type := .int, accessFlags := 26, slot := 1, constantValue := 0 }, { name := "MAX_LENGTH", type := .int, accessFlags := 24, slot := 2, constantValue := 0 }, { name := "$assertionsDisabled", type := .boolean, accessFlags := 4120, slot := 3, constantValue := 0 }]
  methods := #[k8m0, k8m1, k8m2, k8m3]
  instanceTypes := #[]
  staticTypes := #[.int, .int, .int, .boolean]
  resolved := Array.replicate 635 none
  statics := none }

def pool9 : Array CpInfo := pool [(1, .class_ 2), (0, u "java/lang/String"), (1, .class_ 6), (1, u "java/lang/Object"), (0, u "<init>"), (0, u "()V"), (0, .methodref 1 10), (0, .nameAndType 11 12), (0, u "checkIndex"), (0, u "(II)V"), (1, .class_ 16), (1, u "java/lang/StringLatin1"), (36, u "([BI)C"), (36, u "canEncode"), (14, u "(C)Z"), (15, u "$assertionsDisabled"), (0, u "Z"), (98, .class_ 223), (1, u "java/lang/StringLatin1$LinesSpliterator"), (28, u "charAt"), (127, u "toBytes"), (1, u "(C)[B"), (7, .class_ 391), (0, u "java/lang/StringLatin1$CharsSpliterator")] 3

def k9m0 : Method := { name := "<init>", desc := "()V", sig := { parameters := [], returnType := none }, accessFlags := 0, code := none }
def k9c1 : Code := { maxStack := 2, maxLocals := 2, code := jdk_43_method_2_code, exceptionTable := #[], attributes := #[] }
def k9m1 : Method := { name := "charAt", desc := "([BI)C", sig := { parameters := [(.array .byte), .int], returnType := some .char }, accessFlags := 9, code := some k9c1 }
def k9c2 : Code := { maxStack := 2, maxLocals := 1, code := jdk_43_method_3_code, exceptionTable := #[], attributes := #[] }
def k9m2 : Method := { name := "canEncode", desc := "(C)Z", sig := { parameters := [.char], returnType := some .boolean }, accessFlags := 9, code := some k9c2 }
def k9c3 : Code := { maxStack := 4, maxLocals := 1, code := jdk_43_method_46_code, exceptionTable := #[], attributes := #[] }
def k9m3 : Method := { name := "toBytes", desc := "(C)[B", sig := { parameters := [.char], returnType := some (.array .byte) }, accessFlags := 9, code := some k9c3 }
/-- java/lang/StringLatin1 -/
def k9 : Class := { plain "java/lang/StringLatin1" (some 0) with
  accessFlags := 48
  interfaces := #[]
  cf := some (fileOf pool9 14 #[.nestMembers #[390, 221]] #[{ accessFlags := 0, nameIndex := 7, descriptorIndex := 8, attributes := #[] }, { accessFlags := 9, nameIndex := 252, descriptorIndex := 53, attributes := #[] }, { accessFlags := 9, nameIndex := 90, descriptorIndex := 105, attributes := #[] }, { accessFlags := 9, nameIndex := 380, descriptorIndex := 382, attributes := #[] }] 48 4 #[] #[{ accessFlags := 4120, nameIndex := 121, descriptorIndex := 122, attributes := #[] }])
  fields := #[{ name := "$assertionsDisabled", type := .boolean, accessFlags := 4120, slot := 0, constantValue := 0 }]
  methods := #[k9m0, k9m1, k9m2, k9m3]
  instanceTypes := #[]
  staticTypes := #[.boolean]
  resolved := Array.replicate 395 none
  statics := none }

def pool10 : Array CpInfo := pool [(1, .methodref 2 3), (0, .class_ 4), (0, .nameAndType 5 6), (0, u "java/lang/Object"), (0, u "<init>"), (0, u "()V"), (0, .fieldref 8 9), (0, .class_ 10), (0, .nameAndType 11 12), (0, u "com/example/vestwright/vestwright/io/Records"), (0, u "text"), (0, u "[C"), (0, .fieldref 8 14), (0, .nameAndType 15 16), (0, u "starts"), (0, u "[I"), (0, .fieldref 8 18), (0, .nameAndType 19 16), (0, u "ends"), (0, .fieldref 8 21), (0, .nameAndType 22 16), (0, u "firstFields"), (0, .fieldref 8 24), (0, .nameAndType 25 16), (0, u "lines"), (0, .class_ 27), (0, u "com/example/vestwright/vestwright/io/CsvFormatException"), (0, .fieldref 8 29), (0, .nameAndType 30 31), (0, u "faults"), (0, u "[Lcom/example/vestwright/vestwright/io/CsvFormatException;"), (0, .fieldref 8 33), (0, .nameAndType 34 35), (0, u "textUsed"), (0, u "I"), (0, .fieldref 8 37), (0, .nameAndType 38 35), (0, u "fields"), (0, .fieldref 8 40), (0, .nameAndType 41 35), (0, u "records"), (2, u "failure"), (0, u "Ljava/lang/Throwable;"), (2, u "ended"), (0, u "Z"), (17, u "()I"), (2, u "endRecord"), (0, .methodref 8 72), (0, .nameAndType 73 74), (0, u "reserve"), (0, u "(I)I"), (6, .interfaceMethodref 82 83), (0, .class_ 84), (0, .nameAndType 85 67), (0, u "java/lang/CharSequence"), (0, u "length"), (0, .interfaceMethodref 82 87), (0, .nameAndType 88 89), (0, u "charAt"), (0, u "(I)C"), (20, .class_ 111), (0, u "com/example/vestwright/vestwright/io/Records$Span"), (6, u "startRecord"), (0, u "(I)V"), (6, u "addField"), (0, u "(Ljava/lang/CharSequence;)V"), (0, u "size"), (3, u "width")] 12

def k10c0 : Code := { maxStack := 2, maxLocals := 1, code := prog_63_method_1_code, exceptionTable := #[], attributes := #[] }
def k10m0 : Method := { name := "<init>", desc := "()V", sig := { parameters := [], returnType := none }, accessFlags := 0, code := some k10c0 }
def k10c1 : Code := { maxStack := 4, maxLocals := 2, code := prog_63_method_3_code, exceptionTable := #[], attributes := #[] }
def k10m1 : Method := { name := "startRecord", desc := "(I)V", sig := { parameters := [.int], returnType := none }, accessFlags := 0, code := some k10c1 }
def k10c2 : Code := { maxStack := 3, maxLocals := 1, code := prog_63_method_4_code, exceptionTable := #[], attributes := #[] }
def k10m2 : Method := { name := "endRecord", desc := "()V", sig := { parameters := [], returnType := none }, accessFlags := 0, code := some k10c2 }
def k10c3 : Code := { maxStack := 4, maxLocals := 4, code := prog_63_method_10_code, exceptionTable := #[], attributes := #[] }
def k10m3 : Method := { name := "addField", desc := "(Ljava/lang/CharSequence;)V", sig := { parameters := [(.object "java/lang/CharSequence")], returnType := none }, accessFlags := 0, code := some k10c3 }
def k10c4 : Code := { maxStack := 5, maxLocals := 3, code := prog_63_method_11_code, exceptionTable := #[], attributes := #[] }
def k10m4 : Method := { name := "reserve", desc := "(I)I", sig := { parameters := [.int], returnType := some .int }, accessFlags := 2, code := some k10c4 }
def k10c5 : Code := { maxStack := 1, maxLocals := 1, code := prog_63_method_12_code, exceptionTable := #[], attributes := #[] }
def k10m5 : Method := { name := "size", desc := "()I", sig := { parameters := [], returnType := some .int }, accessFlags := 0, code := some k10c5 }
def k10c6 : Code := { maxStack := 3, maxLocals := 2, code := prog_63_method_16_code, exceptionTable := #[], attributes := #[] }
def k10m6 : Method := { name := "width", desc := "(I)I", sig := { parameters := [.int], returnType := some .int }, accessFlags := 0, code := some k10c6 }
/-- com/example/vestwright/vestwright/io/Records -/
def k10 : Class := { plain "com/example/vestwright/vestwright/io/Records" (some 0) with
  accessFlags := 48
  interfaces := #[]
  cf := some (fileOf pool10 8 #[.nestMembers #[110]] #[{ accessFlags := 0, nameIndex := 5, descriptorIndex := 6, attributes := #[] }, { accessFlags := 0, nameIndex := 118, descriptorIndex := 119, attributes := #[] }, { accessFlags := 0, nameIndex := 70, descriptorIndex := 6, attributes := #[] }, { accessFlags := 0, nameIndex := 126, descriptorIndex := 127, attributes := #[] }, { accessFlags := 2, nameIndex := 73, descriptorIndex := 74, attributes := #[] }, { accessFlags := 0, nameIndex := 128, descriptorIndex := 67, attributes := #[] }, { accessFlags := 0, nameIndex := 132, descriptorIndex := 74, attributes := #[] }] 48 2 #[] #[{ accessFlags := 2, nameIndex := 11, descriptorIndex := 12, attributes := #[] }, { accessFlags := 2, nameIndex := 34, descriptorIndex := 35, attributes := #[] }, { accessFlags := 2, nameIndex := 15, descriptorIndex := 16, attributes := #[] }, { accessFlags := 2, nameIndex := 19, descriptorIndex := 16, attributes := #[] }, { accessFlags := 2, nameIndex := 38, descriptorIndex := 35, attributes := #[] }, { accessFlags := 2, nameIndex := 22, descriptorIndex := 16, attributes := #[] }, { accessFlags := 2, nameIndex := 25, descriptorIndex := 16, attributes := #[] }, { accessFlags := 2, nameIndex := 30, descriptorIndex := 31, attributes := #[] }, { accessFlags := 2, nameIndex := 41, descriptorIndex := 35, attributes := #[] }, { accessFlags := 2, nameIndex := 44, descriptorIndex := 45, attributes := #[] }, { accessFlags := 2, nameIndex := 48, descriptorIndex := 49, attributes := #[] }])
  fields := #[{ name := "text", type := (.array .char), accessFlags := 2, slot := 0, constantValue := 0 }, { name := "textUsed", type := .int, accessFlags := 2, slot := 1, constantValue := 0 }, { name := "starts", type := (.array .int), accessFlags := 2, slot := 2, constantValue := 0 }, { name := "ends", type := (.array .int), accessFlags := 2, slot := 3, constantValue := 0 }, { name := "fields", type := .int, accessFlags := 2, slot := 4, constantValue := 0 }, { name := "firstFields", type := (.array .int), accessFlags := 2, slot := 5, constantValue := 0 }, { name := "lines", type := (.array .int), accessFlags := 2, slot := 6, constantValue := 0 }, { name := "faults", type := (.array (.object "com/example/vestwright/vestwright/io/CsvFormatException")), accessFlags := 2, slot := 7, constantValue := 0 }, { name := "records", type := .int, accessFlags := 2, slot := 8, constantValue := 0 }, { name := "failure", type := (.object "java/lang/Throwable"), accessFlags := 2, slot := 9, constantValue := 0 }, { name := "ended", type := .boolean, accessFlags := 2, slot := 10, constantValue := 0 }]
  methods := #[k10m0, k10m1, k10m2, k10m3, k10m4, k10m5, k10m6]
  instanceTypes := #[(.array .char), .int, (.array .int), (.array .int), .int, (.array .int), (.array .int), (.array (.object "com/example/vestwright/vestwright/io/CsvFormatException")), .int, (.object "java/lang/Throwable"), .boolean]
  staticTypes := #[]
  resolved := Array.replicate 145 none
  statics := none }

def pool11 : Array CpInfo := pool [(2, .class_ 4), (1, u "java/lang/Object"), (0, u "<init>"), (0, u "()V"), (1, .class_ 10), (1, u "java/lang/Throwable"), (0, u "cause"), (0, u "Ljava/lang/Throwable;"), (2, u "UNASSIGNED_STACK"), (0, u "[Ljava/lang/StackTraceElement;"), (2, u "stackTrace"), (2, u "SUPPRESSED_SENTINEL"), (0, u "Ljava/util/List;"), (2, u "suppressedExceptions"), (6, u "detailMessage"), (0, u "Ljava/lang/String;"), (58, .class_ 94), (0, u "java/lang/Throwable$WrappedPrintStream"), (6, .class_ 103), (1, u "java/lang/Throwable$PrintStreamOrWriter"), (61, u "$assertionsDisabled"), (0, u "Z"), (26, .class_ 194), (0, u "java/lang/Throwable$WrappedPrintWriter"), (5, u "backtrace"), (0, u "Ljava/lang/Object;"), (9, u "depth"), (0, u "I"), (56, .class_ 271), (1, u "java/lang/Throwable$SentinelHolder"), (32, u "EMPTY_THROWABLE_ARRAY"), (0, u "[Ljava/lang/Throwable;"), (12, .class_ 319), (0, u "java/io/Serializable"), (0, u "serialVersionUID"), (0, u "J"), (5, u "NULL_CAUSE_MESSAGE"), (0, u "SELF_SUPPRESSION_MESSAGE"), (0, u "CAUSE_CAPTION"), (0, u "SUPPRESSED_CAPTION")] 73

def k11m0 : Method := { name := "<init>", desc := "()V", sig := { parameters := [], returnType := none }, accessFlags := 1, code := none }
/-- java/lang/Throwable -/
def k11 : Class := { plain "java/lang/Throwable" (some 0) with
  accessFlags := 33
  interfaces := #[2]
  cf := some (fileOf pool11 8 #[.nestMembers #[193, 93, 101, 269]] #[{ accessFlags := 1, nameIndex := 5, descriptorIndex := 6, attributes := #[] }] 33 2 #[318] #[{ accessFlags := 26, nameIndex := 320, descriptorIndex := 321, attributes := #[] }, { accessFlags := 130, nameIndex := 200, descriptorIndex := 201, attributes := #[] }, { accessFlags := 2, nameIndex := 33, descriptorIndex := 34, attributes := #[] }, { accessFlags := 26, nameIndex := 15, descriptorIndex := 16, attributes := #[] }, { accessFlags := 2, nameIndex := 11, descriptorIndex := 12, attributes := #[] }, { accessFlags := 2, nameIndex := 19, descriptorIndex := 16, attributes := #[] }, { accessFlags := 130, nameIndex := 211, descriptorIndex := 212, attributes := #[] }, { accessFlags := 26, nameIndex := 22, descriptorIndex := 23, attributes := #[] }, { accessFlags := 2, nameIndex := 26, descriptorIndex := 23, attributes := #[] }, { accessFlags := 26, nameIndex := 327, descriptorIndex := 34, attributes := #[] }, { accessFlags := 26, nameIndex := 328, descriptorIndex := 34, attributes := #[] }, { accessFlags := 26, nameIndex := 329, descriptorIndex := 34, attributes := #[] }, { accessFlags := 26, nameIndex := 330, descriptorIndex := 34, attributes := #[] }, { accessFlags := 26, nameIndex := 304, descriptorIndex := 305, attributes := #[] }, { accessFlags := 4120, nameIndex := 165, descriptorIndex := 166, attributes := #[] }])
  fields := #[{ name := "serialVersionUID", type := .long, accessFlags := 26, slot := 0, constantValue := 0 }, { name := "backtrace", type := (.object "java/lang/Object"), accessFlags := 130, slot := 0, constantValue := 0 }, { name := "detailMessage", type := (.object "java/lang/String"), accessFlags := 2, slot := 1, constantValue := 0 }, { name := "UNASSIGNED_STACK", type := (.array (.object "java/lang/StackTraceElement")), accessFlags := 26, slot := 1, constantValue := 0 }, { name := "cause", type := (.object "java/lang/Throwable"), accessFlags := 2, slot := 2, constantValue := 0 }, { name := "stackTrace", type := (.array (.object "java/lang/StackTraceElement")), accessFlags := 2, slot := 3, constantValue := 0 }, { name := "depth", type := .int, accessFlags := 130, slot := 4, constantValue := 0 }, { name := "SUPPRESSED_SENTINEL", type := (.object "java/util/List"), accessFlags := 26, slot := 2, constantValue := 0 }, { name := "suppressedExceptions", type := (.object "java/util/List"), accessFlags := 2, slot := 5, constantValue := 0 }, { name := "NULL_CAUSE_MESSAGE", type := (.object "java/lang/String"), accessFlags := 26, slot := 3, constantValue := 0 }, { name := "SELF_SUPPRESSION_MESSAGE", type := (.object "java/lang/String"), accessFlags := 26, slot := 4, constantValue := 0 }, { name := "CAUSE_CAPTION", type := (.object "java/lang/String"), accessFlags := 26, slot := 5, constantValue := 0 }, { name := "SUPPRESSED_CAPTION", type := (.object "java/lang/String"), accessFlags := 26, slot := 6, constantValue := 0 }, { name := "EMPTY_THROWABLE_ARRAY", type := (.array (.object "java/lang/Throwable")), accessFlags := 26, slot := 7, constantValue := 0 }, { name := "$assertionsDisabled", type := .boolean, accessFlags := 4120, slot := 8, constantValue := 0 }]
  methods := #[k11m0]
  instanceTypes := #[(.object "java/lang/Object"), (.object "java/lang/String"), (.object "java/lang/Throwable"), (.array (.object "java/lang/StackTraceElement")), .int, (.object "java/util/List")]
  staticTypes := #[.long, (.array (.object "java/lang/StackTraceElement")), (.object "java/util/List"), (.object "java/lang/String"), (.object "java/lang/String"), (.object "java/lang/String"), (.object "java/lang/String"), (.array (.object "java/lang/Throwable")), .boolean]
  resolved := Array.replicate 404 none
  statics := none }

def pool12 : Array CpInfo := pool [(2, .class_ 4), (1, u "java/lang/Throwable"), (0, u "<init>"), (0, u "()V"), (12, .class_ 20), (0, u "java/lang/Exception"), (0, u "serialVersionUID"), (0, u "J")] 17

def k12m0 : Method := { name := "<init>", desc := "()V", sig := { parameters := [], returnType := none }, accessFlags := 1, code := none }
/-- java/lang/Exception -/
def k12 : Class := { plain "java/lang/Exception" (some 11) with
  accessFlags := 33
  interfaces := #[]
  cf := some (fileOf pool12 19 #[] #[{ accessFlags := 1, nameIndex := 5, descriptorIndex := 6, attributes := #[] }] 33 2 #[] #[{ accessFlags := 24, nameIndex := 21, descriptorIndex := 22, attributes := #[] }])
  fields := #[{ name := "serialVersionUID", type := .long, accessFlags := 24, slot := 0, constantValue := 0 }]
  methods := #[k12m0]
  instanceTypes := #[(.object "java/lang/Object"), (.object "java/lang/String"), (.object "java/lang/Throwable"), (.array (.object "java/lang/StackTraceElement")), .int, (.object "java/util/List")]
  staticTypes := #[.long]
  resolved := Array.replicate 40 none
  statics := none }

def pool13 : Array CpInfo := pool [(2, .class_ 4), (1, u "java/lang/Exception"), (0, u "<init>"), (0, u "()V"), (9, .class_ 17), (0, u "java/io/IOException"), (0, u "serialVersionUID"), (0, u "J")] 14

def k13m0 : Method := { name := "<init>", desc := "()V", sig := { parameters := [], returnType := none }, accessFlags := 1, code := none }
/-- java/io/IOException -/
def k13 : Class := { plain "java/io/IOException" (some 12) with
  accessFlags := 33
  interfaces := #[]
  cf := some (fileOf pool13 16 #[] #[{ accessFlags := 1, nameIndex := 5, descriptorIndex := 6, attributes := #[] }] 33 2 #[] #[{ accessFlags := 24, nameIndex := 18, descriptorIndex := 19, attributes := #[] }])
  fields := #[{ name := "serialVersionUID", type := .long, accessFlags := 24, slot := 0, constantValue := 0 }]
  methods := #[k13m0]
  instanceTypes := #[(.object "java/lang/Object"), (.object "java/lang/String"), (.object "java/lang/Throwable"), (.array (.object "java/lang/StackTraceElement")), .int, (.object "java/util/List")]
  staticTypes := #[.long]
  resolved := Array.replicate 34 none
  statics := none }

def pool14 : Array CpInfo := pool [(2, .class_ 4), (1, u "java/io/IOException"), (3, .class_ 10), (1, u "com/example/vestwright/vestwright/io/CsvFormatException"), (0, u "line"), (0, u "I"), (2, u "field"), (0, u "serialVersionUID"), (0, u "J")] 9

/-- com/example/vestwright/vestwright/io/CsvFormatException -/
def k14 : Class := { plain "com/example/vestwright/vestwright/io/CsvFormatException" (some 13) with
  accessFlags := 49
  interfaces := #[]
  cf := some (fileOf pool14 8 #[] #[] 49 2 #[] #[{ accessFlags := 26, nameIndex := 16, descriptorIndex := 17, attributes := #[] }, { accessFlags := 18, nameIndex := 11, descriptorIndex := 12, attributes := #[] }, { accessFlags := 18, nameIndex := 15, descriptorIndex := 12, attributes := #[] }])
  fields := #[{ name := "serialVersionUID", type := .long, accessFlags := 26, slot := 0, constantValue := 0 }, { name := "line", type := .int, accessFlags := 18, slot := 6, constantValue := 0 }, { name := "field", type := .int, accessFlags := 18, slot := 7, constantValue := 0 }]
  methods := #[]
  instanceTypes := #[(.object "java/lang/Object"), (.object "java/lang/String"), (.object "java/lang/Throwable"), (.array (.object "java/lang/StackTraceElement")), .int, (.object "java/util/List"), .int, .int]
  staticTypes := #[.long]
  resolved := Array.replicate 27 none
  statics := none }

def pool15 : Array CpInfo := pool [(2, .class_ 4), (1, u "java/lang/Object"), (0, u "<init>"), (0, u "()V"), (17, .class_ 26), (1, u "jdk/internal/util/Preconditions"), (6, u "checkIndex"), (21, .class_ 56), (0, u "jdk/internal/util/Preconditions$4"), (57, .class_ 115), (0, u "jdk/internal/util/Preconditions$1"), (7, u "SIOOBE_FORMATTER"), (0, u "Ljava/util/function/BiFunction;"), (0, .class_ 126), (0, u "jdk/internal/util/Preconditions$2"), (3, u "AIOOBE_FORMATTER"), (0, .class_ 132), (0, u "jdk/internal/util/Preconditions$3"), (3, u "IOOBE_FORMATTER"), (41, u "(IILjava/util/function/BiFunction;)I")] 15

def k15m0 : Method := { name := "<init>", desc := "()V", sig := { parameters := [], returnType := none }, accessFlags := 1, code := none }
def k15c1 : Code := { maxStack := 3, maxLocals := 3, code := jdk_41_method_11_code, exceptionTable := #[], attributes := #[] }
def k15m1 : Method := { name := "checkIndex", desc := "(IILjava/util/function/BiFunction;)I", sig := { parameters := [.int, .int, (.object "java/util/function/BiFunction")], returnType := some .int }, accessFlags := 9, code := some k15c1 }
/-- jdk/internal/util/Preconditions -/
def k15 : Class := { plain "jdk/internal/util/Preconditions" (some 0) with
  accessFlags := 33
  interfaces := #[]
  cf := some (fileOf pool15 24 #[.nestMembers #[55, 131, 125, 114]] #[{ accessFlags := 1, nameIndex := 5, descriptorIndex := 6, attributes := #[] }, { accessFlags := 9, nameIndex := 33, descriptorIndex := 178, attributes := #[] }] 33 2 #[] #[{ accessFlags := 25, nameIndex := 123, descriptorIndex := 124, attributes := #[] }, { accessFlags := 25, nameIndex := 130, descriptorIndex := 124, attributes := #[] }, { accessFlags := 25, nameIndex := 136, descriptorIndex := 124, attributes := #[] }])
  fields := #[{ name := "SIOOBE_FORMATTER", type := (.object "java/util/function/BiFunction"), accessFlags := 25, slot := 0, constantValue := 0 }, { name := "AIOOBE_FORMATTER", type := (.object "java/util/function/BiFunction"), accessFlags := 25, slot := 1, constantValue := 0 }, { name := "IOOBE_FORMATTER", type := (.object "java/util/function/BiFunction"), accessFlags := 25, slot := 2, constantValue := 0 }]
  methods := #[k15m0, k15m1]
  instanceTypes := #[]
  staticTypes := #[(.object "java/util/function/BiFunction"), (.object "java/util/function/BiFunction"), (.object "java/util/function/BiFunction")]
  resolved := Array.replicate 194 none
  statics := some 1 }

def pool16 : Array CpInfo := pool [(9, u "<init>"), (6, .class_ 18), (1, u "java/lang/Object"), (0, u "()V"), (1, .class_ 23), (1, u "jdk/internal/util/ArraysSupport"), (0, u "LOG2_ARRAY_LONG_INDEX_SCALE"), (0, u "I"), (2, u "U"), (0, u "Ljdk/internal/misc/Unsafe;"), (8, u "BIG_ENDIAN"), (0, u "Z"), (8, u "LOG2_BYTE_BIT_SIZE"), (4, u "LOG2_ARRAY_INT_INDEX_SCALE"), (54, u "JLA"), (0, u "Ljdk/internal/access/JavaLangAccess;"), (11, u "LOG2_ARRAY_BOOLEAN_INDEX_SCALE"), (9, u "LOG2_ARRAY_BYTE_INDEX_SCALE"), (5, u "LOG2_ARRAY_CHAR_INDEX_SCALE"), (5, u "LOG2_ARRAY_SHORT_INDEX_SCALE"), (18, u "LOG2_ARRAY_FLOAT_INDEX_SCALE"), (24, u "LOG2_ARRAY_DOUBLE_INDEX_SCALE"), (89, u "T_BOOLEAN"), (2, u "T_CHAR"), (1, u "T_FLOAT"), (1, u "T_DOUBLE"), (1, u "T_BYTE"), (1, u "T_SHORT"), (1, u "T_INT"), (1, u "T_LONG"), (1, u "SOFT_MAX_ARRAY_LENGTH")] 83

def k16m0 : Method := { name := "<init>", desc := "()V", sig := { parameters := [], returnType := none }, accessFlags := 2, code := none }
/-- jdk/internal/util/ArraysSupport -/
def k16 : Class := { plain "jdk/internal/util/ArraysSupport" (some 0) with
  accessFlags := 33
  interfaces := #[]
  cf := some (fileOf pool16 21 #[] #[{ accessFlags := 2, nameIndex := 9, descriptorIndex := 19, attributes := #[] }] 33 16 #[] #[{ accessFlags := 24, nameIndex := 28, descriptorIndex := 29, attributes := #[] }, { accessFlags := 26, nameIndex := 38, descriptorIndex := 39, attributes := #[] }, { accessFlags := 25, nameIndex := 121, descriptorIndex := 25, attributes := #[] }, { accessFlags := 25, nameIndex := 131, descriptorIndex := 25, attributes := #[] }, { accessFlags := 25, nameIndex := 137, descriptorIndex := 25, attributes := #[] }, { accessFlags := 25, nameIndex := 143, descriptorIndex := 25, attributes := #[] }, { accessFlags := 25, nameIndex := 53, descriptorIndex := 25, attributes := #[] }, { accessFlags := 25, nameIndex := 24, descriptorIndex := 25, attributes := #[] }, { accessFlags := 25, nameIndex := 162, descriptorIndex := 25, attributes := #[] }, { accessFlags := 25, nameIndex := 187, descriptorIndex := 25, attributes := #[] }, { accessFlags := 26, nameIndex := 48, descriptorIndex := 25, attributes := #[] }, { accessFlags := 25, nameIndex := 277, descriptorIndex := 25, attributes := #[] }, { accessFlags := 25, nameIndex := 280, descriptorIndex := 25, attributes := #[] }, { accessFlags := 25, nameIndex := 282, descriptorIndex := 25, attributes := #[] }, { accessFlags := 25, nameIndex := 284, descriptorIndex := 25, attributes := #[] }, { accessFlags := 25, nameIndex := 286, descriptorIndex := 25, attributes := #[] }, { accessFlags := 25, nameIndex := 288, descriptorIndex := 25, attributes := #[] }, { accessFlags := 25, nameIndex := 290, descriptorIndex := 25, attributes := #[] }, { accessFlags := 25, nameIndex := 292, descriptorIndex := 25, attributes := #[] }, { accessFlags := 26, nameIndex := 108, descriptorIndex := 109, attributes := #[] }, { accessFlags := 25, nameIndex := 294, descriptorIndex := 25, attributes := #[] }])
  fields := #[{ name := "U", type := (.object "jdk/internal/misc/Unsafe"), accessFlags := 24, slot := 0, constantValue := 0 }, { name := "BIG_ENDIAN", type := .boolean, accessFlags := 26, slot := 1, constantValue := 0 }, { name := "LOG2_ARRAY_BOOLEAN_INDEX_SCALE", type := .int, accessFlags := 25, slot := 2, constantValue := 0 }, { name := "LOG2_ARRAY_BYTE_INDEX_SCALE", type := .int, accessFlags := 25, slot := 3, constantValue := 0 }, { name := "LOG2_ARRAY_CHAR_INDEX_SCALE", type := .int, accessFlags := 25, slot := 4, constantValue := 0 }, { name := "LOG2_ARRAY_SHORT_INDEX_SCALE", type := .int, accessFlags := 25, slot := 5, constantValue := 0 }, { name := "LOG2_ARRAY_INT_INDEX_SCALE", type := .int, accessFlags := 25, slot := 6, constantValue := 0 }, { name := "LOG2_ARRAY_LONG_INDEX_SCALE", type := .int, accessFlags := 25, slot := 7, constantValue := 0 }, { name := "LOG2_ARRAY_FLOAT_INDEX_SCALE", type := .int, accessFlags := 25, slot := 8, constantValue := 0 }, { name := "LOG2_ARRAY_DOUBLE_INDEX_SCALE", type := .int, accessFlags := 25, slot := 9, constantValue := 0 }, { name := "LOG2_BYTE_BIT_SIZE", type := .int, accessFlags := 26, slot := 10, constantValue := 0 }, { name := "T_BOOLEAN", type := .int, accessFlags := 25, slot := 11, constantValue := 0 }, { name := "T_CHAR", type := .int, accessFlags := 25, slot := 12, constantValue := 0 }, { name := "T_FLOAT", type := .int, accessFlags := 25, slot := 13, constantValue := 0 }, { name := "T_DOUBLE", type := .int, accessFlags := 25, slot := 14, constantValue := 0 }, { name := "T_BYTE", type := .int, accessFlags := 25, slot := 15, constantValue := 0 }, { name := "T_SHORT", type := .int, accessFlags := 25, slot := 16, constantValue := 0 }, { name := "T_INT", type := .int, accessFlags := 25, slot := 17, constantValue := 0 }, { name := "T_LONG", type := .int, accessFlags := 25, slot := 18, constantValue := 0 }, { name := "JLA", type := (.object "jdk/internal/access/JavaLangAccess"), accessFlags := 26, slot := 19, constantValue := 0 }, { name := "SOFT_MAX_ARRAY_LENGTH", type := .int, accessFlags := 25, slot := 20, constantValue := 0 }]
  methods := #[k16m0]
  instanceTypes := #[]
  staticTypes := #[(.object "jdk/internal/misc/Unsafe"), .boolean, .int, .int, .int, .int, .int, .int, .int, .int, .int, .int, .int, .int, .int, .int, .int, .int, .int, (.object "jdk/internal/access/JavaLangAccess"), .int]
  resolved := Array.replicate 378 none
  statics := none }

def pool17 : Array CpInfo := pool [(1, u "java/lang/Cloneable"), (0, .class_ 1), (0, u "java/lang/Object"), (0, .class_ 3)] 3

/-- java/lang/Cloneable -/
def k17 : Class := { plain "java/lang/Cloneable" (some 0) with
  accessFlags := 1537
  interfaces := #[]
  cf := some (fileOf pool17 2 #[] #[] 1537 4 #[] #[])
  fields := #[]
  methods := #[]
  instanceTypes := #[]
  staticTypes := #[]
  resolved := Array.replicate 8 none
  statics := none }

/-- the primitive byte -/
def k18 : Class := { plain "byte" none with kind := .primitive 'B', accessFlags := 0x411 }
/-- [B -/
def k19 : Class := { plain "[B" (some 0) with kind := .array 18 .byte, interfaces := #[17, 2], accessFlags := 1041 }

/-- the primitive char -/
def k20 : Class := { plain "char" none with kind := .primitive 'C', accessFlags := 0x411 }
/-- [C -/
def k21 : Class := { plain "[C" (some 0) with kind := .array 20 .char, interfaces := #[17, 2], accessFlags := 1041 }

/-- the primitive int -/
def k22 : Class := { plain "int" none with kind := .primitive 'I', accessFlags := 0x411 }
/-- [I -/
def k23 : Class := { plain "[I" (some 0) with kind := .array 22 .int, interfaces := #[17, 2], accessFlags := 1041 }

/-- [Lcom/example/vestwright/vestwright/io/CsvFormatException; -/
def k24 : Class := { plain "[Lcom/example/vestwright/vestwright/io/CsvFormatException;" (some 0) with kind := .array 14 (.object "com/example/vestwright/vestwright/io/CsvFormatException"), interfaces := #[17, 2], accessFlags := 1041 }

def heap : Heap := #[{ cls := 7, slots := #[.long 0, .int 1, .null, .int 0, .null, .int 0, .int 0], vm := .statics 7 },
  { cls := 15, slots := #[.null, .null, .null], vm := .statics 15 }]
def classes : Array Class := #[k0, k1, k2, k3, k4, k5, k6, k7, k8, k9, k10, k11, k12, k13, k14, k15, k16, k17, k18, k19, k20, k21, k22, k23, k24]
def interned : List (Array UInt16 × Addr) := []
def slotsUsed : Nat := 10
def theMethod : MethodId := ⟨1, 1⟩
def args0 : Array Value := #[.int 5, .int 7]
def aboutOver (below : List Frame) : State where
  vm := { classes := classes, interned := interned.toArray }
  heap := heap
  slotsUsed := slotsUsed
  threads := #[{ frames := .invoking theMethod args0 :: below }]
def below0 : List Frame := [.native { method := ⟨0, 0⟩, args := #[] }]
def about1 : State := aboutOver below0
def p0 : Program := .bare "" "" ""
def e0 : Env := launch0.env 0 0 0
theorem w_frames : about1.frames = Frame.invoking theMethod args0 :: below0 := rfl
set_option maxRecDepth 65536 in
theorem w_args : argsFit about1.vm theMethod args0 = true := by decide +kernel
set_option maxRecDepth 65536 in
theorem w_heap : heapFits about1 = true := by decide +kernel
set_option maxRecDepth 65536 in
theorem w_runnable : about1.curStatus? = some .runnable := by decide +kernel
set_option maxRecDepth 65536 in
theorem w_alone : about1.alone = true := by decide +kernel
set_option maxRecDepth 65536 in
theorem w_named : about1.methodNamed? x = some theMethod := by decide +kernel
set_option maxRecDepth 65536 in
theorem w_hears : about1.hears theMethod below0 = true := by decide +kernel
set_option maxRecDepth 65536 in
theorem w_ripe : about1.ripe theMethod args0 below0 = true := by decide +kernel
theorem w_running : about1.status = .running := rfl
set_option maxRecDepth 65536 in
theorem w_room : about1.hasRoom e0.platform room_1 = true :=
  launch0.hasRoom_least _ room_1 (by decide +kernel) (by decide +kernel) (by decide +kernel) (by decide +kernel) (by decide +kernel) (by decide +kernel)
theorem allAtoms_all (ts : List Jvm.Cond) (a : Array Jvm.Value) (st : Jvm.State) : (allAtoms ts).before a st = ts.all (fun c => c.before a st) := by
  induction ts with
  | nil => rfl
  | cons c t ih =>
    show (Jvm.Cond.and c (allAtoms t)).before a st = _
    rw [Jvm.Cond.before_and, ih, List.all_cons]
def words1 : List Jvm.Cond := Jvm.Cond.code x code maxLocals ret :: tables_1
/-- a 'code' word, met by the world's own term for the bytes: nothing is compared byte by byte -/
theorem code_word {y : MethodName} {bytes : ByteArray} {mx : Nat} {rt : Option FieldType} {a : Array Value} {s : State} {m : MethodId} {meth : Method} {c : Code} (h1 : s.methodNamed? y = some m) (h2 : s.vm.method? m = some meth) (h3 : meth.code = some c) (h4 : c.code = bytes)
    (h5 : (c.maxLocals == mx && c.exceptionTable.isEmpty && decide (c.maxStack ≤ mostOperands) && decide (meth.sig.returnType = rt) && !meth.locks && decide (parseMethodDescriptor y.desc = some meth.sig)) = true) : (Jvm.Cond.code y bytes mx rt).before a s = true := by
  simp only [Bool.and_eq_true, beq_iff_eq, Bool.not_eq_true', decide_eq_true_eq] at h5
  obtain ⟨⟨⟨⟨⟨g1, g2⟩, g3⟩, g4⟩, g5⟩, g6⟩ := h5
  simp [Cond.before, Cond.holds, Cond.value, h1, h2, h3, h4, g1, g2, g3, g4, g5, g6]
def isCode : Jvm.Cond → Bool
  | .code _ _ _ _ => true
  | _ => false
theorem all_split {L : List Jvm.Cond} {P : Jvm.Cond → Bool} (h1 : L.all (fun c => isCode c || P c) = true) (h2 : ∀ c ∈ L.filter isCode, P c = true) : L.all P = true := by
  refine List.all_eq_true.mpr fun c hc => ?_
  have h := List.all_eq_true.mp h1 c hc
  rcases Bool.eq_false_or_eq_true (isCode c) with hi | hi
  · exact h2 c (List.mem_filter.mpr ⟨hc, hi⟩)
  · simpa [hi] using h
set_option maxRecDepth 65536 in
theorem w_c0 : (Jvm.Cond.code x code maxLocals ret).before args0 about1 = true := code_word (m := ⟨1, 1⟩) (meth := k1m1) (c := k1c1) (by decide +kernel) rfl rfl rfl (by decide +kernel)
set_option maxRecDepth 65536 in
theorem w_c1 : (Jvm.Cond.code ({ cls := "java/lang/String", name := "<init>", desc := "([C)V" } : Jvm.MethodName) jdk_42_method_3_code (2 : Nat) (Option.none : Option Jvm.ClassFile.FieldType)).before args0 about1 = true := code_word (m := ⟨7, 1⟩) (meth := k7m1) (c := k7c1) (by decide +kernel) rfl rfl rfl (by decide +kernel)
set_option maxRecDepth 65536 in
theorem w_c2 : (Jvm.Cond.code ({ cls := "java/lang/String", name := "<init>", desc := "([CIILjava/lang/Void;)V" } : Jvm.MethodName) jdk_42_method_149_code (6 : Nat) (Option.none : Option Jvm.ClassFile.FieldType)).before args0 about1 = true := code_word (m := ⟨7, 5⟩) (meth := k7m5) (c := k7c5) (by decide +kernel) rfl rfl rfl (by decide +kernel)
set_option maxRecDepth 65536 in
theorem w_c3 : (Jvm.Cond.code ({ cls := "java/lang/Object", name := "<init>", desc := "()V" } : Jvm.MethodName) object_method_1_code (1 : Nat) (Option.none : Option Jvm.ClassFile.FieldType)).before args0 about1 = true := code_word (m := ⟨0, 0⟩) (meth := k0m0) (c := k0c0) (by decide +kernel) rfl rfl rfl (by decide +kernel)
set_option maxRecDepth 65536 in
theorem w_c4 : (Jvm.Cond.code ({ cls := "java/lang/StringUTF16", name := "compress", desc := "([CII)[B" } : Jvm.MethodName) jdk_52_method_16_code (6 : Nat) (Option.some (Jvm.ClassFile.FieldType.array Jvm.ClassFile.FieldType.byte))).before args0 about1 = true := code_word (m := ⟨8, 2⟩) (meth := k8m2) (c := k8c2) (by decide +kernel) rfl rfl rfl (by decide +kernel)
set_option maxRecDepth 65536 in
theorem w_c5 : (Jvm.Cond.code ({ cls := "java/lang/StringUTF16", name := "compress", desc := "([CI[BII)I" } : Jvm.MethodName) jdk_52_method_21_code (7 : Nat) (Option.some Jvm.ClassFile.FieldType.int)).before args0 about1 = true := code_word (m := ⟨8, 3⟩) (meth := k8m3) (c := k8c3) (by decide +kernel) rfl rfl rfl (by decide +kernel)
set_option maxRecDepth 65536 in
theorem w_c6 : (Jvm.Cond.code ({ cls := "java/lang/StringUTF16", name := "coderFromArrayLen", desc := "([BI)B" } : Jvm.MethodName) jdk_52_method_15_code (2 : Nat) (Option.some Jvm.ClassFile.FieldType.byte)).before args0 about1 = true := code_word (m := ⟨8, 1⟩) (meth := k8m1) (c := k8c1) (by decide +kernel) rfl rfl rfl (by decide +kernel)
set_option maxRecDepth 65536 in
theorem w_c7 : (Jvm.Cond.code ({ cls := "java/lang/String", name := "valueOf", desc := "(C)Ljava/lang/String;" } : Jvm.MethodName) jdk_42_method_139_code (1 : Nat) (Option.some (Jvm.ClassFile.FieldType.object "java/lang/String"))).before args0 about1 = true := code_word (m := ⟨7, 4⟩) (meth := k7m4) (c := k7c4) (by decide +kernel) rfl rfl rfl (by decide +kernel)
set_option maxRecDepth 65536 in
theorem w_c8 : (Jvm.Cond.code ({ cls := "java/lang/StringLatin1", name := "canEncode", desc := "(C)Z" } : Jvm.MethodName) jdk_43_method_3_code (1 : Nat) (Option.some Jvm.ClassFile.FieldType.boolean)).before args0 about1 = true := code_word (m := ⟨9, 2⟩) (meth := k9m2) (c := k9c2) (by decide +kernel) rfl rfl rfl (by decide +kernel)
set_option maxRecDepth 65536 in
theorem w_c9 : (Jvm.Cond.code ({ cls := "java/lang/StringLatin1", name := "toBytes", desc := "(C)[B" } : Jvm.MethodName) jdk_43_method_46_code (1 : Nat) (Option.some (Jvm.ClassFile.FieldType.array Jvm.ClassFile.FieldType.byte))).before args0 about1 = true := code_word (m := ⟨9, 3⟩) (meth := k9m3) (c := k9c3) (by decide +kernel) rfl rfl rfl (by decide +kernel)
set_option maxRecDepth 65536 in
theorem w_c10 : (Jvm.Cond.code ({ cls := "java/lang/String", name := "<init>", desc := "([BB)V" } : Jvm.MethodName) jdk_42_method_151_code (3 : Nat) (Option.none : Option Jvm.ClassFile.FieldType)).before args0 about1 = true := code_word (m := ⟨7, 6⟩) (meth := k7m6) (c := k7c6) (by decide +kernel) rfl rfl rfl (by decide +kernel)
set_option maxRecDepth 65536 in
theorem w_c11 : (Jvm.Cond.code ({ cls := "com/example/vestwright/vestwright/io/Records", name := "<init>", desc := "()V" } : Jvm.MethodName) prog_63_method_1_code (1 : Nat) (Option.none : Option Jvm.ClassFile.FieldType)).before args0 about1 = true := code_word (m := ⟨10, 0⟩) (meth := k10m0) (c := k10c0) (by decide +kernel) rfl rfl rfl (by decide +kernel)
set_option maxRecDepth 65536 in
theorem w_c12 : (Jvm.Cond.code ({ cls := "com/example/vestwright/vestwright/io/Records", name := "startRecord", desc := "(I)V" } : Jvm.MethodName) prog_63_method_3_code (2 : Nat) (Option.none : Option Jvm.ClassFile.FieldType)).before args0 about1 = true := code_word (m := ⟨10, 1⟩) (meth := k10m1) (c := k10c1) (by decide +kernel) rfl rfl rfl (by decide +kernel)
set_option maxRecDepth 65536 in
theorem w_c13 : (Jvm.Cond.code ({ cls := "com/example/vestwright/vestwright/io/Records", name := "endRecord", desc := "()V" } : Jvm.MethodName) prog_63_method_4_code (1 : Nat) (Option.none : Option Jvm.ClassFile.FieldType)).before args0 about1 = true := code_word (m := ⟨10, 2⟩) (meth := k10m2) (c := k10c2) (by decide +kernel) rfl rfl rfl (by decide +kernel)
set_option maxRecDepth 65536 in
theorem w_c14 : (Jvm.Cond.code ({ cls := "com/example/vestwright/vestwright/io/Records", name := "size", desc := "()I" } : Jvm.MethodName) prog_63_method_12_code (1 : Nat) (Option.some Jvm.ClassFile.FieldType.int)).before args0 about1 = true := code_word (m := ⟨10, 5⟩) (meth := k10m5) (c := k10c5) (by decide +kernel) rfl rfl rfl (by decide +kernel)
set_option maxRecDepth 65536 in
theorem w_c15 : (Jvm.Cond.code ({ cls := "com/example/vestwright/vestwright/io/Records", name := "width", desc := "(I)I" } : Jvm.MethodName) prog_63_method_16_code (2 : Nat) (Option.some Jvm.ClassFile.FieldType.int)).before args0 about1 = true := code_word (m := ⟨10, 6⟩) (meth := k10m6) (c := k10c6) (by decide +kernel) rfl rfl rfl (by decide +kernel)
set_option maxRecDepth 65536 in
theorem w_c16 : (Jvm.Cond.code ({ cls := "com/example/vestwright/vestwright/io/Records", name := "addField", desc := "(Ljava/lang/CharSequence;)V" } : Jvm.MethodName) prog_63_method_10_code (4 : Nat) (Option.none : Option Jvm.ClassFile.FieldType)).before args0 about1 = true := code_word (m := ⟨10, 3⟩) (meth := k10m3) (c := k10c3) (by decide +kernel) rfl rfl rfl (by decide +kernel)
set_option maxRecDepth 65536 in
theorem w_c17 : (Jvm.Cond.code ({ cls := "java/lang/String", name := "length", desc := "()I" } : Jvm.MethodName) jdk_42_method_54_code (1 : Nat) (Option.some Jvm.ClassFile.FieldType.int)).before args0 about1 = true := code_word (m := ⟨7, 2⟩) (meth := k7m2) (c := k7c2) (by decide +kernel) rfl rfl rfl (by decide +kernel)
set_option maxRecDepth 65536 in
theorem w_c18 : (Jvm.Cond.code ({ cls := "java/lang/String", name := "coder", desc := "()B" } : Jvm.MethodName) jdk_42_method_152_code (1 : Nat) (Option.some Jvm.ClassFile.FieldType.byte)).before args0 about1 = true := code_word (m := ⟨7, 7⟩) (meth := k7m7) (c := k7c7) (by decide +kernel) rfl rfl rfl (by decide +kernel)
set_option maxRecDepth 65536 in
theorem w_c19 : (Jvm.Cond.code ({ cls := "com/example/vestwright/vestwright/io/Records", name := "reserve", desc := "(I)I" } : Jvm.MethodName) prog_63_method_11_code (3 : Nat) (Option.some Jvm.ClassFile.FieldType.int)).before args0 about1 = true := code_word (m := ⟨10, 4⟩) (meth := k10m4) (c := k10c4) (by decide +kernel) rfl rfl rfl (by decide +kernel)
set_option maxRecDepth 65536 in
theorem w_c20 : (Jvm.Cond.code ({ cls := "java/lang/String", name := "charAt", desc := "(I)C" } : Jvm.MethodName) jdk_42_method_56_code (2 : Nat) (Option.some Jvm.ClassFile.FieldType.char)).before args0 about1 = true := code_word (m := ⟨7, 3⟩) (meth := k7m3) (c := k7c3) (by decide +kernel) rfl rfl rfl (by decide +kernel)
set_option maxRecDepth 65536 in
theorem w_c21 : (Jvm.Cond.code ({ cls := "java/lang/String", name := "isLatin1", desc := "()Z" } : Jvm.MethodName) jdk_42_method_154_code (1 : Nat) (Option.some Jvm.ClassFile.FieldType.boolean)).before args0 about1 = true := code_word (m := ⟨7, 8⟩) (meth := k7m8) (c := k7c8) (by decide +kernel) rfl rfl rfl (by decide +kernel)
set_option maxRecDepth 65536 in
theorem w_c22 : (Jvm.Cond.code ({ cls := "java/lang/StringLatin1", name := "charAt", desc := "([BI)C" } : Jvm.MethodName) jdk_43_method_2_code (2 : Nat) (Option.some Jvm.ClassFile.FieldType.char)).before args0 about1 = true := code_word (m := ⟨9, 1⟩) (meth := k9m1) (c := k9c1) (by decide +kernel) rfl rfl rfl (by decide +kernel)
set_option maxRecDepth 65536 in
theorem w_c23 : (Jvm.Cond.code ({ cls := "java/lang/String", name := "checkIndex", desc := "(II)V" } : Jvm.MethodName) jdk_42_method_155_code (2 : Nat) (Option.none : Option Jvm.ClassFile.FieldType)).before args0 about1 = true := code_word (m := ⟨7, 9⟩) (meth := k7m9) (c := k7c9) (by decide +kernel) rfl rfl rfl (by decide +kernel)
set_option maxRecDepth 65536 in
theorem w_c24 : (Jvm.Cond.code ({ cls := "jdk/internal/util/Preconditions", name := "checkIndex", desc := "(IILjava/util/function/BiFunction;)I" } : Jvm.MethodName) jdk_41_method_11_code (3 : Nat) (Option.some Jvm.ClassFile.FieldType.int)).before args0 about1 = true := code_word (m := ⟨15, 1⟩) (meth := k15m1) (c := k15c1) (by decide +kernel) rfl rfl rfl (by decide +kernel)
def codes1 : List Jvm.Cond := [Jvm.Cond.code x code maxLocals ret, Jvm.Cond.code ({ cls := "java/lang/String", name := "<init>", desc := "([C)V" } : Jvm.MethodName) jdk_42_method_3_code (2 : Nat) (Option.none : Option Jvm.ClassFile.FieldType), Jvm.Cond.code ({ cls := "java/lang/String", name := "<init>", desc := "([CIILjava/lang/Void;)V" } : Jvm.MethodName) jdk_42_method_149_code (6 : Nat) (Option.none : Option Jvm.ClassFile.FieldType), Jvm.Cond.code ({ cls := "java/lang/Object", name := "<init>", desc := "()V" } : Jvm.MethodName) object_method_1_code (1 : Nat) (Option.none : Option Jvm.ClassFile.FieldType), Jvm.Cond.code ({ cls := "java/lang/StringUTF16", name := "compress", desc := "([CII)[B" } : Jvm.MethodName) jdk_52_method_16_code (6 : Nat) (Option.some (Jvm.ClassFile.FieldType.array Jvm.ClassFile.FieldType.byte)), Jvm.Cond.code ({ cls := "java/lang/StringUTF16", name := "compress", desc := "([CI[BII)I" } : Jvm.MethodName) jdk_52_method_21_code (7 : Nat) (Option.some Jvm.ClassFile.FieldType.int), Jvm.Cond.code ({ cls := "java/lang/StringUTF16", name := "coderFromArrayLen", desc := "([BI)B" } : Jvm.MethodName) jdk_52_method_15_code (2 : Nat) (Option.some Jvm.ClassFile.FieldType.byte), Jvm.Cond.code ({ cls := "java/lang/String", name := "valueOf", desc := "(C)Ljava/lang/String;" } : Jvm.MethodName) jdk_42_method_139_code (1 : Nat) (Option.some (Jvm.ClassFile.FieldType.object "java/lang/String")), Jvm.Cond.code ({ cls := "java/lang/StringLatin1", name := "canEncode", desc := "(C)Z" } : Jvm.MethodName) jdk_43_method_3_code (1 : Nat) (Option.some Jvm.ClassFile.FieldType.boolean), Jvm.Cond.code ({ cls := "java/lang/StringLatin1", name := "toBytes", desc := "(C)[B" } : Jvm.MethodName) jdk_43_method_46_code (1 : Nat) (Option.some (Jvm.ClassFile.FieldType.array Jvm.ClassFile.FieldType.byte)), Jvm.Cond.code ({ cls := "java/lang/String", name := "<init>", desc := "([BB)V" } : Jvm.MethodName) jdk_42_method_151_code (3 : Nat) (Option.none : Option Jvm.ClassFile.FieldType), Jvm.Cond.code ({ cls := "com/example/vestwright/vestwright/io/Records", name := "<init>", desc := "()V" } : Jvm.MethodName) prog_63_method_1_code (1 : Nat) (Option.none : Option Jvm.ClassFile.FieldType), Jvm.Cond.code ({ cls := "com/example/vestwright/vestwright/io/Records", name := "startRecord", desc := "(I)V" } : Jvm.MethodName) prog_63_method_3_code (2 : Nat) (Option.none : Option Jvm.ClassFile.FieldType), Jvm.Cond.code ({ cls := "com/example/vestwright/vestwright/io/Records", name := "endRecord", desc := "()V" } : Jvm.MethodName) prog_63_method_4_code (1 : Nat) (Option.none : Option Jvm.ClassFile.FieldType), Jvm.Cond.code ({ cls := "com/example/vestwright/vestwright/io/Records", name := "size", desc := "()I" } : Jvm.MethodName) prog_63_method_12_code (1 : Nat) (Option.some Jvm.ClassFile.FieldType.int), Jvm.Cond.code ({ cls := "com/example/vestwright/vestwright/io/Records", name := "width", desc := "(I)I" } : Jvm.MethodName) prog_63_method_16_code (2 : Nat) (Option.some Jvm.ClassFile.FieldType.int), Jvm.Cond.code ({ cls := "com/example/vestwright/vestwright/io/Records", name := "addField", desc := "(Ljava/lang/CharSequence;)V" } : Jvm.MethodName) prog_63_method_10_code (4 : Nat) (Option.none : Option Jvm.ClassFile.FieldType), Jvm.Cond.code ({ cls := "java/lang/String", name := "length", desc := "()I" } : Jvm.MethodName) jdk_42_method_54_code (1 : Nat) (Option.some Jvm.ClassFile.FieldType.int), Jvm.Cond.code ({ cls := "java/lang/String", name := "coder", desc := "()B" } : Jvm.MethodName) jdk_42_method_152_code (1 : Nat) (Option.some Jvm.ClassFile.FieldType.byte), Jvm.Cond.code ({ cls := "com/example/vestwright/vestwright/io/Records", name := "reserve", desc := "(I)I" } : Jvm.MethodName) prog_63_method_11_code (3 : Nat) (Option.some Jvm.ClassFile.FieldType.int), Jvm.Cond.code ({ cls := "java/lang/String", name := "charAt", desc := "(I)C" } : Jvm.MethodName) jdk_42_method_56_code (2 : Nat) (Option.some Jvm.ClassFile.FieldType.char), Jvm.Cond.code ({ cls := "java/lang/String", name := "isLatin1", desc := "()Z" } : Jvm.MethodName) jdk_42_method_154_code (1 : Nat) (Option.some Jvm.ClassFile.FieldType.boolean), Jvm.Cond.code ({ cls := "java/lang/StringLatin1", name := "charAt", desc := "([BI)C" } : Jvm.MethodName) jdk_43_method_2_code (2 : Nat) (Option.some Jvm.ClassFile.FieldType.char), Jvm.Cond.code ({ cls := "java/lang/String", name := "checkIndex", desc := "(II)V" } : Jvm.MethodName) jdk_42_method_155_code (2 : Nat) (Option.none : Option Jvm.ClassFile.FieldType), Jvm.Cond.code ({ cls := "jdk/internal/util/Preconditions", name := "checkIndex", desc := "(IILjava/util/function/BiFunction;)I" } : Jvm.MethodName) jdk_41_method_11_code (3 : Nat) (Option.some Jvm.ClassFile.FieldType.int)]
set_option maxRecDepth 65536 in
theorem codes_eq : words1.filter isCode = codes1 := rfl
theorem w_codes : ∀ c ∈ words1.filter isCode, c.before args0 about1 = true := by
  rw [codes_eq]
  intro c hc
  simp only [codes1, List.mem_cons, List.not_mem_nil, or_false] at hc
  rcases hc with rfl | rfl | rfl | rfl | rfl | rfl | rfl | rfl | rfl | rfl | rfl | rfl | rfl | rfl | rfl | rfl | rfl | rfl | rfl | rfl | rfl | rfl | rfl | rfl | rfl
  · exact w_c0
  · exact w_c1
  · exact w_c2
  · exact w_c3
  · exact w_c4
  · exact w_c5
  · exact w_c6
  · exact w_c7
  · exact w_c8
  · exact w_c9
  · exact w_c10
  · exact w_c11
  · exact w_c12
  · exact w_c13
  · exact w_c14
  · exact w_c15
  · exact w_c16
  · exact w_c17
  · exact w_c18
  · exact w_c19
  · exact w_c20
  · exact w_c21
  · exact w_c22
  · exact w_c23
  · exact w_c24
set_option maxRecDepth 65536 in
theorem w_t1 : (words1.take 24).all (fun c => isCode c || c.before args0 about1) = true := by decide +kernel
set_option maxRecDepth 65536 in
theorem w_t2 : ((words1.drop 24).take 24).all (fun c => isCode c || c.before args0 about1) = true := by decide +kernel
set_option maxRecDepth 65536 in
theorem w_t3 : (((words1.drop 24).drop 24).take 24).all (fun c => isCode c || c.before args0 about1) = true := by decide +kernel
set_option maxRecDepth 65536 in
theorem w_t4 : ((((words1.drop 24).drop 24).drop 24).take 24).all (fun c => isCode c || c.before args0 about1) = true := by decide +kernel
set_option maxRecDepth 65536 in
theorem w_t5 : (((((words1.drop 24).drop 24).drop 24).drop 24).take 24).all (fun c => isCode c || c.before args0 about1) = true := by decide +kernel
set_option maxRecDepth 65536 in
theorem w_t6 : (((((words1.drop 24).drop 24).drop 24).drop 24).drop 24).all (fun c => isCode c || c.before args0 about1) = true := by decide +kernel
theorem w_tables : (allAtoms (Jvm.Cond.code x code maxLocals ret :: tables_1)).before args0 about1 = true := by
  rw [allAtoms_all]
  show words1.all (fun c => c.before args0 about1) = true
  refine all_split ?_ w_codes
  rw [← List.take_append_drop 24 words1, List.all_append, w_t1, ← List.take_append_drop 24 (words1.drop 24), List.all_append, w_t2, ← List.take_append_drop 24 ((words1.drop 24).drop 24), List.all_append, w_t3, ← List.take_append_drop 24 (((words1.drop 24).drop 24).drop 24), List.all_append, w_t4, ← List.take_append_drop 24 ((((words1.drop 24).drop 24).drop 24).drop 24), List.all_append, w_t5, w_t6]
  rfl
set_option maxRecDepth 65536 in
theorem w_rest : rest_1_c.before args0 about1 = true := by decide +kernel
set_option maxRecDepth 65536 in
theorem w_case : (Jvm.Cond.and given_1 narrow_1).before args0 about1 = true := by decide +kernel
theorem w_applies : (headSpec (Jvm.Cond.code x code maxLocals ret :: tables_1) room_1).applies x e0.platform about1 = true :=
  (Spec.applies_iff w_frames).mpr ⟨w_running, w_runnable, w_alone, w_named, w_hears, w_ripe, w_room, w_tables⟩
theorem atStart : AtStart classFile x code maxLocals ret World_1 tables_1 room_1 Calls_1 rest_1 Pre_1 launch0 p0 e0 about1 theMethod args0 below0 :=
  ⟨lists_1, trivial, launch0.admits_env _ _ _, launch0.least_env, fairChoices_fair.cas, fairChoices_fair.clock, w_frames, w_args, w_heap, w_applies, trivial, w_rest, w_case⟩
end start1
theorem witness_1 : WitnessClaimed_1 := ⟨start1.p0, start1.e0, start1.about1, start1.theMethod, start1.args0, start1.below0, start1.atStart⟩
end Jvm.Pilot.@@N@@
