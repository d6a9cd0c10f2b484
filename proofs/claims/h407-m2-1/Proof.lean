import JvmDerived
import JvmDerived.Pilot.@@N@@Statement
import JvmDerived.Pilot.@@N@@Code
set_option linter.unusedVariables false
set_option linter.unusedSimpArgs false
namespace Jvm.Pilot.@@N@@
open Jvm Jvm.ClassFile Sem Op Lib Jvm.Free Jvm.Stand Jvm.LawKit Jvm.RoadKit Bundle Jvm.Pilot.@@N@@.Jvm.D
section Own
variable {p : Program} {l : Launch} {e : Env} {R : Room} {s : State} {m : MethodId} {args : Array Value} {below : List Frame} {meth : Method} {c : Code} {T : State} {locs : List Loc} {cells slots : Nat} {Z : State} {h h' : Heap} {a b : Addr}
/-- from the state σ the run comes to a return that meets Qk -/
def Go (p : Program) (e : Env) (below : List Frame) (s : State) (Qk : Option Value → Heap → List Loc → Prop) (C S : Nat) (σ : State) : Prop :=
  ∃ s₂ o, Steps p.tables e below σ s₂ ∧ s₂.status = .running ∧ Ended s₂ below o ∧ ∃ v L, o = .returned v ∧ Qk v s₂.heap L ∧ FrameEnd s o s₂ L C S
variable {Qk : Option Value → Heap → List Loc → Prop} {C S : Nat}
theorem Go.step {σ σ' : State} (hs : ∀ t, Steps p.tables e below σ' t → Steps p.tables e below σ t) (k : Go p e below s Qk C S σ') : Go p e below s Qk C S σ := by
  obtain ⟨s₂, o, h1, r⟩ := k
  exact ⟨s₂, o, hs _ h1, r⟩
theorem Go.retV (X : Stand p l e R s m args below meth c T locs cells slots) (hlk : meth.locks = false) (hx : p.tables.exec = Jvm.exec) {pc : Nat} {Ls : Array Slot} (hret : meth.sig.returnType = none) (hd : decode c.code pc = .ok (.return_, 1)) (hc : cells ≤ C) (hs : slots ≤ S) (hQ : Qk none T.heap locs) :
    Go p e below s Qk C S (T.setTop (mkF m pc Ls [])) := by
  obtain ⟨fs, hr, hrun, hended, hW, hsame⟩ := X.leave (v := none) (fun _ => rfl) hlk
  exact ⟨_, _, X.returnOut hx hret hd hr, hrun, hended, _, _, rfl, hQ, ⟨_, rfl⟩, hW, hsame.mono hc hs⟩
theorem Go.retW (X : Stand p l e R s m args below meth c T locs cells slots) (hlk : meth.locks = false) (hx : p.tables.exec = Jvm.exec) {pc : Nat} {Ls : Array Slot} {w : Value} {t : FieldType} {i : Instr} {rest : List Value} (hret : meth.sig.returnType = some t) (hn : narrow t w = w)
    (hi : (i = .ireturn ∧ (t = .int ∨ t = .boolean ∨ t = .byte ∨ t = .char ∨ t = .short) ∧ ∃ z, w = .int z) ∨ (i = .lreturn ∧ t = .long ∧ ∃ z, w = .long z) ∨ (i = .dreturn ∧ t = .double ∧ ∃ z, w = .double z) ∨ (i = .freturn ∧ t = .float ∧ ∃ z, w = .float z) ∨ (i = .areturn ∧ t.isReference = true ∧ w.isRef = true))
    (hd : decode c.code pc = .ok (i, 1)) (hc : cells ≤ C) (hs : slots ≤ S) (hQ : Qk (some w) T.heap locs) :
    Go p e below s Qk C S (T.setTop (mkF m pc Ls (w :: rest))) := by
  obtain ⟨fs, hr, hrun, hended, hW, hsame⟩ := X.leave (v := some w) (fun q => by rw [hret] at q; cases q) hlk
  exact ⟨_, _, retOut X hx hret hn hi hd hr, hrun, hended, _, _, rfl, hQ, ⟨_, rfl⟩, hW, hsame.mono hc hs⟩
theorem Go.retI (X : Stand p l e R s m args below meth c T locs cells slots) (hlk : meth.locks = false) (hx : p.tables.exec = Jvm.exec) {pc : Nat} {Ls : Array Slot} {z : Int32} {rest : List Value} (hret : meth.sig.returnType = some .int) (hd : decode c.code pc = .ok (.ireturn, 1)) (hc : cells ≤ C) (hs : slots ≤ S) (hQ : Qk (some (.int z)) T.heap locs) :
    Go p e below s Qk C S (T.setTop (mkF m pc Ls (.int z :: rest))) :=
  Go.retW X hlk hx hret rfl (Or.inl ⟨rfl, Or.inl rfl, z, rfl⟩) hd hc hs hQ
theorem Go.retJ (X : Stand p l e R s m args below meth c T locs cells slots) (hlk : meth.locks = false) (hx : p.tables.exec = Jvm.exec) {pc : Nat} {Ls : Array Slot} {z : Int64} {rest : List Value} (hret : meth.sig.returnType = some .long) (hd : decode c.code pc = .ok (.lreturn, 1)) (hc : cells ≤ C) (hs : slots ≤ S) (hQ : Qk (some (.long z)) T.heap locs) :
    Go p e below s Qk C S (T.setTop (mkF m pc Ls (.long z :: rest))) :=
  Go.retW X hlk hx hret rfl (Or.inr (Or.inl ⟨rfl, rfl, z, rfl⟩)) hd hc hs hQ
theorem Go.retA (X : Stand p l e R s m args below meth c T locs cells slots) (hlk : meth.locks = false) (hx : p.tables.exec = Jvm.exec) {pc : Nat} {Ls : Array Slot} {w : Value} {t : FieldType} {rest : List Value} (hret : meth.sig.returnType = some t) (hn : narrow t w = w) (ht : t.isReference = true) (hw : w.isRef = true) (hd : decode c.code pc = .ok (.areturn, 1)) (hc : cells ≤ C) (hs : slots ≤ S) (hQ : Qk (some w) T.heap locs) :
    Go p e below s Qk C S (T.setTop (mkF m pc Ls (w :: rest))) :=
  Go.retW X hlk hx hret hn (Or.inr (Or.inr (Or.inr (Or.inr ⟨rfl, ht, hw⟩)))) hd hc hs hQ
theorem Go.retN (X : Stand p l e R s m args below meth c T locs cells slots) (hlk : meth.locks = false) (hx : p.tables.exec = Jvm.exec) {pc : Nat} {Ls : Array Slot} {z : Int32} {t : FieldType} {rest : List Value} (hret : meth.sig.returnType = some t) (ht : t = .boolean ∨ t = .byte ∨ t = .char ∨ t = .short) (hd : decode c.code pc = .ok (.ireturn, 1)) (hc : cells ≤ C) (hs : slots ≤ S) (z' : Int32) (hz : nar t z = z') (hQ : Qk (some (.int z')) T.heap locs) :
    Go p e below s Qk C S (T.setTop (mkF m pc Ls (.int z :: rest))) := by
  subst hz
  obtain ⟨fs, hr, hrun, hended, hW, hsame⟩ := X.leave (v := some (.int (nar t z))) (fun q => by rw [hret] at q; cases q) hlk
  exact ⟨_, _, Jvm.RoadKit.retN X hx hret ht hd hr, hrun, hended, _, _, rfl, hQ, ⟨_, rfl⟩, hW, hsame.mono hc hs⟩
theorem own_narb {P : Prop} [Decidable P] : nar .boolean (if P then (1 : Int32) else (0 : Int32)) = (if P then (1 : Int32) else (0 : Int32)) := by split <;> rfl
theorem own_narb01 {z : Int32} (h : z = 0 ∨ z = 1) : nar .boolean z = z := by rcases h with rfl | rfl <;> rfl
/-- a function turned at one place -/
def up {α : Type} (f : Nat → α) (k : Nat) (v : α) : Nat → α := fun i => if i = k then v else f i
theorem up_same {α : Type} (f : Nat → α) (k : Nat) (v : α) : up f k v k = v := if_pos rfl
theorem up_ne {α : Type} (f : Nat → α) {k i : Nat} (v : α) (q : i ≠ k) : up f k v i = f i := if_neg q
/-- an array of n places; place i holds g i -/
def Ary (Z : State) (h : Heap) (a : Addr) (ty : FieldType) (n : Nat) (g : Nat → Value) : Prop := ∃ c : Cell, Arr Z h a c ty ∧ c.slots.size = n ∧ n < 2 ^ 31 ∧ ∀ i, i < n → c.slots[i]? = some (g i)
variable {ty : FieldType} {n : Nat} {g : Nat → Value}
theorem Ary.lt (F : Ary Z h a ty n g) : a < h.size := by obtain ⟨c, A, -⟩ := F; exact A.lt
theorem Ary.ext (F : Ary Z h a ty n g) (E : Ext h h') : Ary Z h' a ty n g := by obtain ⟨c, A, r⟩ := F; exact ⟨c, A.ext E, r⟩
theorem Ary.other {sl : Nat} {v : Value} (F : Ary Z h b ty n g) (W : Wr h h' a sl v) (q : b ≠ a) : Ary Z h' b ty n g := by obtain ⟨c, A, r⟩ := F; exact ⟨c, A.other W q, r⟩
theorem Ary.keep {ws : List Addr} (F : Ary Z h a ty n g) (K : Keep h h' ws) (q : a ∉ ws) : Ary Z h' a ty n g := by obtain ⟨c, A, r⟩ := F; exact ⟨c, ⟨K.2.1 a c A.1 q, A.2⟩, r⟩
theorem Ary.set {k : Nat} {v : Value} (F : Ary Z h a ty n g) (W : Wr h h' a k v) : Ary Z h' a ty n (up g k v) := by
  obtain ⟨c, A, S, B, H⟩ := F
  refine ⟨_, A.same W, by rw [sz_set]; exact S, B, fun i hi => ?_⟩
  by_cases q : k = i
  · subst q; rw [up_same]; simp [Cell.setSlot, S, hi]
  · rw [up_ne _ _ (Ne.symm q), ← H i hi]; simp only [Cell.setSlot]; rw [Array.getElem?_setIfInBounds_ne q]
theorem Ary.new {k : ClassId} {z : Int32} (A : Arr Z h a (newA k ty z) ty) (q : z.toInt = n) : Ary Z h a ty n (fun _ => defaultValue ty) := by
  have e1 : z.toNatClampNeg = n := by simp only [Int32.toNatClampNeg]; omega
  refine ⟨_, A, by rw [sz_new]; exact e1, ?_, fun i hi => ?_⟩
  · have := Int32.toInt_lt z; omega
  · simp [newA, e1, hi]
theorem Ary.congr {g' : Nat → Value} (F : Ary Z h a ty n g) (q : ∀ i, i < n → g i = g' i) : Ary Z h a ty n g' := by
  obtain ⟨c, A, S, B, H⟩ := F
  exact ⟨c, A, S, B, fun i hi => by rw [← q i hi]; exact H i hi⟩
abbrev AryI (Z : State) (h : Heap) (a : Addr) (ty : FieldType) (n : Nat) (g : Nat → Int32) : Prop := Ary Z h a ty n (fun i => .int (g i))
abbrev AryJ (Z : State) (h : Heap) (a : Addr) (n : Nat) (g : Nat → Int64) : Prop := Ary Z h a .long n (fun i => .long (g i))
theorem own_upI (f : Nat → Int32) (k : Nat) (v : Int32) : up (fun i => Value.int (f i)) k (.int v) = fun i => Value.int (up f k v i) := by funext i; simp only [up]; split <;> rfl
theorem own_upJ (f : Nat → Int64) (k : Nat) (v : Int64) : up (fun i => Value.long (f i)) k (.long v) = fun i => Value.long (up f k v i) := by funext i; simp only [up]; split <;> rfl
theorem Ary.setI {f : Nat → Int32} {k : Nat} {v : Int32} (F : AryI Z h a ty n f) (W : Wr h h' a k (.int v)) : AryI Z h' a ty n (up f k v) := by have r := Ary.set F W; rw [own_upI] at r; exact r
theorem Ary.setJ {f : Nat → Int64} {k : Nat} {v : Int64} (F : AryJ Z h a n f) (W : Wr h h' a k (.long v)) : AryJ Z h' a n (up f k v) := by have r := Ary.set F W; rw [own_upJ] at r; exact r
theorem own_idx {c : Cell} {j : Int32} {k : Nat} (S : c.slots.size = n) (q : j.toInt = k) (hk : k < n) : ¬ (j < 0 ∨ c.slots.size ≤ j.toNatClampNeg) ∧ j.toNatClampNeg = k := by
  have e1 : j.toNatClampNeg = k := by simp only [Int32.toNatClampNeg]; omega
  have e0 : (0 : Int32).toInt = 0 := rfl
  refine ⟨?_, e1⟩
  rw [e1, S, Int32.lt_iff_toInt_lt]; omega
theorem own_ld (X : Stand p l e R s m args below meth c T locs cells slots) (hx : p.tables.exec = Jvm.exec) (hZ : Z.Warmed39 s.vm) (eT : T.heap = h) (F : Ary Z h a ty n g) {j : Int32} (k : Nat) (q : j.toInt = k) (hk : k < n) {v : Value} (hv : g k = v) {i : Instr}
    (hi : (i = .iaload ∧ ty = .int) ∨ (i = .laload ∧ ty = .long) ∨ (i = .caload ∧ ty = .char) ∨ (i = .baload ∧ ty = .byte)) {f : JFrame} (hg : f.method = m) {rest : List Value} (hs : f.stack = .int j :: .ref a :: rest) (hd : decode c.code f.pc = .ok (i, 1)) :
    ∀ target, Steps p.tables e below (T.setTop { f with pc := f.pc + 1, stack := v :: rest }) target → Steps p.tables e below (T.setTop f) target := by
  subst hv
  obtain ⟨cl, A, S, -, H⟩ := F
  obtain ⟨hin, e1⟩ := own_idx S q hk
  have hat : cl.slots[j.toNatClampNeg]? = some (g k) := by rw [e1]; exact H k hk
  intro t kt
  rcases hi with ⟨rfl, rfl⟩ | ⟨rfl, rfl⟩ | ⟨rfl, rfl⟩ | ⟨rfl, rfl⟩
  · exact X.iaload hx (by rw [eT]; exact A.1) (State.isArrayOf_alike hZ.alike A.2.1) A.2.2 hin hat hg hs hd t kt
  · exact X.laload hx (by rw [eT]; exact A.1) (State.isArrayOf_alike hZ.alike A.2.1) A.2.2 hin hat hg hs hd t kt
  · exact X.caload hx (by rw [eT]; exact A.1) (State.isArrayOf_alike hZ.alike A.2.1) A.2.2 hin hat hg hs hd t kt
  · exact X.baloadBytes hx (by rw [eT]; exact A.1) (State.isArrayOf_alike hZ.alike A.2.1) A.2.2 hin hat hg hs hd t kt
theorem own_len (X : Stand p l e R s m args below meth c T locs cells slots) (hx : p.tables.exec = Jvm.exec) (hZ : Z.Warmed39 s.vm) (eT : T.heap = h) (F : Ary Z h a ty n g) {z : Int32} (hz : n.toInt32 = z) {f : JFrame} (hg : f.method = m) {rest : List Value} (hs : f.stack = .ref a :: rest) (hd : decode c.code f.pc = .ok (.arraylength, 1)) :
    ∀ target, Steps p.tables e below (T.setTop { f with pc := f.pc + 1, stack := .int z :: rest }) target → Steps p.tables e below (T.setTop f) target := by
  subst hz
  obtain ⟨cl, A, S, -⟩ := F
  intro t kt
  refine X.arraylength hx (by rw [eT]; exact A.1) (State.isArrayOf_alike hZ.alike A.2.1) hg hs hd t ?_
  rw [S]; exact kt
theorem own_stI (X : Stand p l e R s m args below meth c T locs cells slots) (hx : p.tables.exec = Jvm.exec) (hZ : Z.Warmed39 s.vm) (eT : T.heap = h) (F : Ary Z h a .int n g) {j x : Int32} (k : Nat) (q : j.toInt = k) (hk : k < n) {f : JFrame} (hg : f.method = m) {rest : List Value} (hs : f.stack = .int x :: .int j :: .ref a :: rest) (hd : decode c.code f.pc = .ok (.iastore, 1)) :
    ∃ T' h', Stand p l e R s m args below meth c T' (locs ++ [⟨a, k⟩]) cells slots ∧ T'.heap = h' ∧ Wr h h' a k (.int x) ∧ ∀ target, Steps p.tables e below (T'.setTop { f with pc := f.pc + 1, stack := rest }) target → Steps p.tables e below (T.setTop f) target := by
  obtain ⟨cl, A, S, -, -⟩ := F
  obtain ⟨hin, e1⟩ := own_idx S q hk
  have r := stI X hx hZ eT A hin hg hs hd
  rw [e1] at r; exact r
theorem own_stJ (X : Stand p l e R s m args below meth c T locs cells slots) (hx : p.tables.exec = Jvm.exec) (hZ : Z.Warmed39 s.vm) (eT : T.heap = h) (F : Ary Z h a .long n g) {j : Int32} {x : Int64} (k : Nat) (q : j.toInt = k) (hk : k < n) {f : JFrame} (hg : f.method = m) {rest : List Value} (hs : f.stack = .long x :: .int j :: .ref a :: rest) (hd : decode c.code f.pc = .ok (.lastore, 1)) :
    ∃ T' h', Stand p l e R s m args below meth c T' (locs ++ [⟨a, k⟩]) cells slots ∧ T'.heap = h' ∧ Wr h h' a k (.long x) ∧ ∀ target, Steps p.tables e below (T'.setTop { f with pc := f.pc + 1, stack := rest }) target → Steps p.tables e below (T.setTop f) target := by
  obtain ⟨cl, A, S, -, -⟩ := F
  obtain ⟨hin, e1⟩ := own_idx S q hk
  have r := stJ X hx hZ eT A hin hg hs hd
  rw [e1] at r; exact r
theorem own_stB (X : Stand p l e R s m args below meth c T locs cells slots) (hx : p.tables.exec = Jvm.exec) (hZ : Z.Warmed39 s.vm) (eT : T.heap = h) (F : Ary Z h a .byte n g) {j x : Int32} (k : Nat) (q : j.toInt = k) (hk : k < n) {f : JFrame} (hg : f.method = m) {rest : List Value} (hs : f.stack = .int x :: .int j :: .ref a :: rest) (hd : decode c.code f.pc = .ok (.bastore, 1)) :
    ∃ T' h', Stand p l e R s m args below meth c T' (locs ++ [⟨a, k⟩]) cells slots ∧ T'.heap = h' ∧ Wr h h' a k (.int (nar .byte x)) ∧ ∀ target, Steps p.tables e below (T'.setTop { f with pc := f.pc + 1, stack := rest }) target → Steps p.tables e below (T.setTop f) target := by
  obtain ⟨cl, A, S, -, -⟩ := F
  obtain ⟨hin, e1⟩ := own_idx S q hk
  have r := stB X hx hZ eT A hin hg hs hd
  rw [e1] at r; exact r
theorem own_stC (X : Stand p l e R s m args below meth c T locs cells slots) (hx : p.tables.exec = Jvm.exec) (hZ : Z.Warmed39 s.vm) (eT : T.heap = h) (F : Ary Z h a .char n g) {j x : Int32} (k : Nat) (q : j.toInt = k) (hk : k < n) {f : JFrame} (hg : f.method = m) {rest : List Value} (hs : f.stack = .int x :: .int j :: .ref a :: rest) (hd : decode c.code f.pc = .ok (.castore, 1)) :
    ∃ T' h', Stand p l e R s m args below meth c T' (locs ++ [⟨a, k⟩]) cells slots ∧ T'.heap = h' ∧ Wr h h' a k (.int (nar .char x)) ∧ ∀ target, Steps p.tables e below (T'.setTop { f with pc := f.pc + 1, stack := rest }) target → Steps p.tables e below (T.setTop f) target := by
  obtain ⟨cl, A, S, -, -⟩ := F
  obtain ⟨hin, e1⟩ := own_idx S q hk
  have r := stC X hx hZ eT A hin hg hs hd
  rw [e1] at r; exact r
theorem own_neA {a0 : Array Value} {k : Nat} {K : String} (F : Exa Z h a K) (wi : (Cond.instantiable K k).before a0 Z = true) (G : Ary Z h b ty n g) : a ≠ b := by
  obtain ⟨cl, A, -⟩ := G
  exact ne_arr F wi A
theorem own_selP {y : MethodName} {k : Nat} {a0 as' : Array Value} (hZ : Z.Warmed39 s.vm) (wi : (Cond.instantiable y.cls k).before a0 Z = true) (wn : (Cond.instanceMethod y).before a0 Z = true) (wp : (Cond.privateMethod y).before a0 Z = true) (hy : y.cls ≠ "java/lang/invoke/MethodHandle" ∧ y.cls ≠ "java/lang/invoke/VarHandle") : (Cond.selects y.cls y y).before as' s = true := by
  have wi' : (Cond.instantiable y.cls k).before as' s = true := mvT hZ wi
  obtain ⟨c, kc, h1, h2, -, h4, -⟩ := Cond.instantiable_spec wi'
  refine selects_self_of_private h1 h2 ?_ (Cond.privateMethod_at (mvP hZ wp (args := #[]))) (mvT hZ wn) hy
  cases hi : kc.isInterface with
  | false => rfl
  | true => rw [hi] at h4; simp at h4
/-- long comparisons -/
theorem own_lwlt {x y : Int64} (h : x < y) : lcmpW x y < 0 := (lw_lt x y).mpr h
theorem own_nlwlt {x y : Int64} (h : ¬ x < y) : ¬ lcmpW x y < 0 := fun q => h ((lw_lt x y).mp q)
theorem own_lwgt {x y : Int64} (h : y < x) : 0 < lcmpW x y := (lw_gt x y).mpr h
theorem own_nlwgt {x y : Int64} (h : ¬ y < x) : ¬ 0 < lcmpW x y := fun q => h ((lw_gt x y).mp q)
theorem own_lweq {x y : Int64} (h : x = y) : lcmpW x y = 0 := (lw_eq x y).mpr h
theorem own_nlweq {x y : Int64} (h : ¬ x = y) : ¬ lcmpW x y = 0 := fun q => h ((lw_eq x y).mp q)
end Own
theorem own_lt {x y : Int32} (h : x < y) : x.toInt < y.toInt := Int32.lt_iff_toInt_lt.mp h
theorem own_nlt {x y : Int32} (h : ¬ x < y) : ¬ x.toInt < y.toInt := fun q => h (Int32.lt_iff_toInt_lt.mpr q)
theorem own_eq {x y : Int32} (h : x = y) : x.toInt = y.toInt := by rw [h]
theorem own_neq {x y : Int32} (h : ¬ x = y) : ¬ x.toInt = y.toInt := fun q => h (Int32.toInt_inj.mp q)
theorem own_ltL {x y : Int64} (h : x < y) : x.toInt < y.toInt := Int64.lt_iff_toInt_lt.mp h
theorem own_nltL {x y : Int64} (h : ¬ x < y) : ¬ x.toInt < y.toInt := fun q => h (Int64.lt_iff_toInt_lt.mpr q)
theorem own_eqL {x y : Int64} (h : x = y) : x.toInt = y.toInt := by rw [h]
theorem own_neqL {x y : Int64} (h : ¬ x = y) : ¬ x.toInt = y.toInt := fun q => h (Int64.toInt_inj.mp q)
theorem own_rng32 (x : Int32) : -2147483648 ≤ x.toInt ∧ x.toInt ≤ 2147483647 := by
  have h1 := Int32.le_toInt x
  have h2 := Int32.toInt_lt x
  omega
theorem own_rng64 (x : Int64) : -9223372036854775808 ≤ x.toInt ∧ x.toInt ≤ 9223372036854775807 := by
  have h1 := Int64.le_toInt x
  have h2 := Int64.toInt_lt x
  omega
section Txt
variable {p : Program} {l : Launch} {e : Env} {R : Room} {s : State} {m : MethodId} {args : Array Value} {below : List Frame} {meth : Method} {c : Code} {T : State} {locs : List Loc} {cells slots : Nat} {Z : State} {h h' : Heap} {a b : Addr} {n n' : Nat}
/-- a char array of n places, whatever it holds -/
def Txt (Z : State) (h : Heap) (a : Addr) (n : Nat) : Prop := ∃ (k : ClassId) (z : Int32) (vs : List Value), z.toInt = (n : Int) ∧ Arv Z h a k .char z vs (.int 0)
theorem Txt.lt (F : Txt Z h a n) : a < h.size := by obtain ⟨k, z, vs, -, F⟩ := F; exact F.lt
theorem Txt.ext (F : Txt Z h a n) (E : Ext h h') : Txt Z h' a n := by obtain ⟨k, z, vs, q, F⟩ := F; exact ⟨k, z, vs, q, F.ext E⟩
theorem Txt.other {sl : Nat} {v : Value} (F : Txt Z h b n) (W : Wr h h' a sl v) (q : b ≠ a) : Txt Z h' b n := by obtain ⟨k, z, vs, r, F⟩ := F; exact ⟨k, z, vs, r, F.other W q⟩
theorem Txt.keep {ws : List Addr} (F : Txt Z h a n) (K : Keep h h' ws) (q : a ∉ ws) : Txt Z h' a n := by obtain ⟨k, z, vs, r, F⟩ := F; exact ⟨k, z, vs, r, F.keep K q⟩
theorem Txt.new {k : ClassId} {z : Int32} (A : Arr Z h a (newA k .char z) .char) (q : z.toInt = n) : Txt Z h a n := ⟨k, z, [], q, Arv.new A (by rw [Int32.lt_iff_toInt_lt, q]; show ¬ (n : Int) < 0; omega)⟩
theorem own_clamp {z : Int32} (q : z.toInt = (n : Int)) : z.toNatClampNeg = n := by simp only [Int32.toNatClampNeg]; omega
theorem own_nn {z : Int32} (q : z.toInt = (n : Int)) : ¬ z < 0 := by rw [Int32.lt_iff_toInt_lt, q]; show ¬ (n : Int) < 0; omega
theorem Txt.ary (F : Txt Z h a n) : ∃ g, Ary Z h a .char n g := by
  obtain ⟨k, z, vs, q, c, A, -, S, -, H, -⟩ := F
  refine ⟨fun i => vs.getD i (.int 0), c, A, by rw [S]; exact own_clamp q, ?_, fun i hi => H i (by rw [S, own_clamp q]; exact hi)⟩
  have := Int32.toInt_lt z; omega
theorem own_lenT (X : Stand p l e R s m args below meth c T locs cells slots) (hx : p.tables.exec = Jvm.exec) (hZ : Z.Warmed39 s.vm) (eT : T.heap = h) (F : Txt Z h a n) {z : Int32} (hz : z.toInt = (n : Int)) {f : JFrame} (hg : f.method = m) {rest : List Value} (hs : f.stack = .ref a :: rest) (hd : decode c.code f.pc = .ok (.arraylength, 1)) :
    ∀ target, Steps p.tables e below (T.setTop { f with pc := f.pc + 1, stack := .int z :: rest }) target → Steps p.tables e below (T.setTop f) target := by
  obtain ⟨g, F⟩ := F.ary
  refine own_len X hx hZ eT F ?_ hg hs hd
  apply Int32.toInt_inj.mp
  rw [hz]
  obtain ⟨c, -, -, hb, -⟩ := F
  exact len_toInt hb
theorem own_stT (X : Stand p l e R s m args below meth c T locs cells slots) (hx : p.tables.exec = Jvm.exec) (hZ : Z.Warmed39 s.vm) (eT : T.heap = h) (F : Txt Z h a n) {j x : Int32} (k : Nat) (q : j.toInt = k) (hk : k < n) {f : JFrame} (hg : f.method = m) {rest : List Value} (hs : f.stack = .int x :: .int j :: .ref a :: rest) (hd : decode c.code f.pc = .ok (.castore, 1)) :
    ∃ T' h', Stand p l e R s m args below meth c T' (locs ++ [⟨a, k⟩]) cells slots ∧ T'.heap = h' ∧ Wr h h' a k (.int (nar .char x)) ∧ Txt Z h' a n ∧ ∀ target, Steps p.tables e below (T'.setTop { f with pc := f.pc + 1, stack := rest }) target → Steps p.tables e below (T.setTop f) target := by
  obtain ⟨kc, z, vs, qz, F⟩ := F
  have F' := F.pad (pad_rep vs (.int 0) n)
  obtain ⟨cl, A, q1, S, q3, H, G⟩ := F'
  have S' : cl.slots.size = n := by rw [S]; exact own_clamp qz
  obtain ⟨hin, e1⟩ := own_idx S' q hk
  obtain ⟨T', h', X', e', W, st⟩ := stC X hx hZ eT A hin hg hs hd
  have V := Arv.set A q1 S q3 H G (fits_nar_char x) W k e1 (by simp; omega)
  rw [e1] at X' W
  exact ⟨T', h', X', e', W, ⟨kc, z, _, qz, V⟩, st⟩
theorem own_cp (X : Stand p l e R s m args below meth c T locs cells slots) (hx : p.tables.exec = Jvm.exec) (hZ : Z.Warmed39 s.vm) {a0 : Array Value} {own : String} {index : Nat} (hown : s.vm.findClass own = some m.cls)
    (w1 : (Cond.methodLink own index Jvm.Stand.acN).before a0 Z = true) (w2 : (Cond.native Jvm.Stand.acN).before a0 Z = true) (w3 : (Cond.static Jvm.Stand.acN).before a0 Z = true) (w4 : (Cond.initialized "java/lang/System").before a0 Z = true) (eT : T.heap = h)
    {sp dp nn : Int32} (A : Txt Z h a n) (B : Txt Z h b n') (i j k : Nat) (hi : sp.toInt = i) (hj : dp.toInt = j) (hk : nn.toInt = k) (h4 : i + k ≤ n) (h5 : j + k ≤ n') {n0 : Nat} (N : Fr n0 locs) (ge : n0 ≤ b)
    {g : JFrame} (hg : g.method = m) (hsize : g.locals.size = c.maxLocals) {rest : List Value} (hs : g.stack = .int nn :: .int dp :: .ref b :: .int sp :: .ref a :: rest) (hd : decode c.code g.pc = .ok (.invokestatic index, 3))
    (hf : 1 ≤ R.frames) {W : Nat} (hW : 2 * g.monitorRoom + (rest.map fun v => v.category).sum ≤ W) (hlo : W + (nativeFrameWords "java/lang/System" "arraycopy" 5 + 11) ≤ R.locals) :
    ∃ T' h' L, Stand p l e R s m args below meth c T' L cells slots ∧ T'.heap = h' ∧ Fr n0 L ∧ Keep h h' [b] ∧ Txt Z h' b n' ∧
      ∀ target, Steps p.tables e below (T'.setTop { g with pc := g.pc + 3, stack := rest }) target → Steps p.tables e below (T.setTop g) target := by
  obtain ⟨ka, za, va, qa, A⟩ := A
  obtain ⟨kb, zb, vb, qb, B⟩ := B
  have B' := B.pad (pad_rep vb (.int 0) n')
  obtain ⟨T', h', L, X', e', N', K, V, st⟩ := cpA X hx hZ hown w1 w2 w3 w4 eT A B' (Or.inl ⟨rfl, rfl⟩) (own_nn hi) (own_nn hj) (own_nn hk) (by rw [own_clamp hi, own_clamp hk, own_clamp qa]; exact h4) (by rw [own_clamp hj, own_clamp hk, own_clamp qb]; exact h5) rfl (by rw [own_clamp hj, own_clamp hk]; simp; omega) N ge hg hsize hs hd hf hW hlo
  exact ⟨T', h', L, X', e', N', K, ⟨kb, zb, _, qb, V⟩, st⟩
theorem own_neT {a0 : Array Value} {k : Nat} {K : String} (F : Exa Z h a K) (wi : (Cond.instantiable K k).before a0 Z = true) (G : Txt Z h b n) : a ≠ b := by
  obtain ⟨g, G⟩ := G.ary
  exact own_neA F wi G
end Txt
theorem own_nex {x y z : Addr} {k : Nat} (o : y = z ∨ k ≤ y) (q : x ≠ z) (r : x < k) : x ≠ y := by
  rcases o with rfl | o
  · exact q
  · exact Nat.ne_of_lt (Nat.lt_of_lt_of_le r o)
theorem own_gex {y z : Addr} {k n0 : Nat} (o : y = z ∨ k ≤ y) (q : n0 ≤ z) (r : n0 ≤ k) : n0 ≤ y := by
  rcases o with rfl | o
  · exact q
  · exact Nat.le_trans r o
theorem own_wqx {y z : Addr} {k k0 : Nat} {ws : List Addr} (o : y = z ∨ k ≤ y) (q : z ∈ ws ∨ k0 ≤ z) (r : k0 ≤ k) : y ∈ ws ∨ k0 ≤ y := by
  rcases o with rfl | o
  · exact q
  · exact Or.inr (Nat.le_trans r o)

theorem own_inc {x : Int32} {k : Nat} (h : x.toInt = (k : Int)) (hk : k < 100000) : (x + (1 : Int32)).toInt = ((k + 1 : Nat) : Int) := by
  have h1 := c_iadd x 1
  have h2 := own_rng32 (x + 1)
  have h3 : (1 : Int32).toInt = 1 := rfl
  omega
theorem own_add {x y : Int32} {k j : Nat} (h : x.toInt = (k : Int)) (h' : y.toInt = (j : Int)) (hk : k + j < 1000000) : (x + y).toInt = ((k + j : Nat) : Int) := by
  have h1 := c_iadd x y
  have h2 := own_rng32 (x + y)
  omega
theorem own_dbl {x : Int32} {k : Nat} (h : x.toInt = (k : Int)) (hk : k < 100000) : (x * (2 : Int32)).toInt = ((2 * k : Nat) : Int) := by
  have h1 := c_imul x 2
  have h2 := own_rng32 (x * 2)
  have h3 : (2 : Int32).toInt = 2 := rfl
  rw [h3] at h1
  omega
theorem own_neq_ {x : Int32} {z : Int32} {k : Nat} {j : Nat} (h : x.toInt = (k : Int)) (hz : z.toInt = (j : Int)) (q : k ≠ j) : ¬ x = z := fun r => by
  have t := congrArg Int32.toInt r
  omega
theorem own_nlt_ {x : Int32} {z : Int32} {k : Nat} {j : Nat} (h : x.toInt = (k : Int)) (hz : z.toInt = (j : Int)) (q : j ≤ k) : ¬ x < z := by
  rw [Int32.lt_iff_toInt_lt]; omega
theorem own_lt_ {x : Int32} {z : Int32} {k : Nat} {j : Nat} (h : x.toInt = (k : Int)) (hz : z.toInt = (j : Int)) (q : k < j) : x < z := by
  rw [Int32.lt_iff_toInt_lt]; omega
theorem own_unlt {x : Int32} {z : Int32} {k : Nat} {j : Nat} (h : x.toInt = (k : Int)) (hz : z.toInt = (j : Int)) (q : ¬ x < z) : j ≤ k := by
  rw [Int32.lt_iff_toInt_lt] at q; omega
theorem own_unlt' {x : Int32} {z : Int32} {k : Nat} {j : Nat} (h : x.toInt = (k : Int)) (hz : z.toInt = (j : Int)) (q : x < z) : k < j := by
  rw [Int32.lt_iff_toInt_lt] at q; omega

theorem own_tz {z : Int32} {n : Nat} (h : z.toInt = (n : Int)) : n.toInt32 = z := by
  apply Int32.toInt_inj.mp
  rw [h]; exact len_toInt (by have := Int32.toInt_lt z; omega)
theorem own_sh0 (z : Int32) : (z >>> ((0 : Int32) &&& 31)) = z := by
  have a := c_ishr z (0 : Int32) 0 rfl
  apply Int32.toInt_inj.mp
  omega

theorem own_m3 {nn vk : Int32} (q : ((nn &&& (2147483647 : Int32)) % (3 : Int32)) = vk) : 0 ≤ vk.toInt ∧ vk.toInt ≤ 2 := by
  have ar1 := own_rng32 (((nn &&& (2147483647 : Int32)) % (3 : Int32)))
  have ar2 := own_rng32 ((nn &&& (2147483647 : Int32)))
  have ar3 := own_rng32 (nn)
  have ar4 := c_mask (nn) (2147483647 : Int32) 31 (by decide) (by decide)
  have ar5 := c_irem ((nn &&& (2147483647 : Int32))) (3 : Int32) 3 rfl
  have t := congrArg Int32.toInt q
  omega
theorem own_ch (x : Int32) : ¬ (255 : Int32) < ((x &&& (255 : Int32)).toUInt32.toUInt16.toUInt32.toInt32) := by
  have a1 := c_mask x (255 : Int32) 8 (by decide) (by decide)
  have a2 := c_i2c (x &&& (255 : Int32))
  rw [Int32.lt_iff_toInt_lt]
  have e : (255 : Int32).toInt = 255 := rfl
  omega
theorem own_w {x y v : Int32} {a : Int} (hx : x.toInt = a) (hy : y.toInt = a + v.toInt) (hv : 0 ≤ v.toInt ∧ v.toInt ≤ 2) : (y - x) = v := by
  have a1 := c_isub y x
  have a2 := own_rng32 (y - x)
  have a3 := own_rng32 v
  apply Int32.toInt_inj.mp
  omega
theorem own_nat {x : Int32} (h : 0 ≤ x.toInt) : x.toInt = ((x.toInt.toNat : Nat) : Int) := by omega

theorem own_cs {s : State} {args : Array Value} {t : Term} {cs : Int32} (ev : t.eval args s none [] s = some (.int cs)) (k : (Jvm.Cond.not (Jvm.Cond.eq t (Jvm.Term.int (0 : Int32)))).value args s none s [] = some true) : ¬ cs = (0 : Int32) := by
  have k2 := not_v k
  have hw : (Jvm.Term.int (0 : Int32)).eval args s none [] s = some (.int (0 : Int32)) := rfl
  simp only [Cond.value, ev, hw] at k2
  simpa using k2
theorem d6_0 : decode prog_63_method_1_code 0 = .ok (.aload_n 0, 1) := by decide +kernel
theorem d6_1 : decode prog_63_method_1_code 1 = .ok (.invokespecial 1, 3) := by decide +kernel
theorem d6_4 : decode prog_63_method_1_code 4 = .ok (.aload_n 0, 1) := by decide +kernel
theorem d6_5 : decode prog_63_method_1_code 5 = .ok (.sipush 4096, 3) := by decide +kernel
theorem d6_8 : decode prog_63_method_1_code 8 = .ok (.newarray .char, 2) := by decide +kernel
theorem d6_10 : decode prog_63_method_1_code 10 = .ok (.putfield 7, 3) := by decide +kernel
theorem d6_13 : decode prog_63_method_1_code 13 = .ok (.aload_n 0, 1) := by decide +kernel
theorem d6_14 : decode prog_63_method_1_code 14 = .ok (.sipush 256, 3) := by decide +kernel
theorem d6_17 : decode prog_63_method_1_code 17 = .ok (.newarray .int, 2) := by decide +kernel
theorem d6_19 : decode prog_63_method_1_code 19 = .ok (.putfield 13, 3) := by decide +kernel
theorem d6_22 : decode prog_63_method_1_code 22 = .ok (.aload_n 0, 1) := by decide +kernel
theorem d6_23 : decode prog_63_method_1_code 23 = .ok (.sipush 256, 3) := by decide +kernel
theorem d6_26 : decode prog_63_method_1_code 26 = .ok (.newarray .int, 2) := by decide +kernel
theorem d6_28 : decode prog_63_method_1_code 28 = .ok (.putfield 17, 3) := by decide +kernel
theorem d6_31 : decode prog_63_method_1_code 31 = .ok (.aload_n 0, 1) := by decide +kernel
theorem d6_32 : decode prog_63_method_1_code 32 = .ok (.bipush 64, 2) := by decide +kernel
theorem d6_34 : decode prog_63_method_1_code 34 = .ok (.newarray .int, 2) := by decide +kernel
theorem d6_36 : decode prog_63_method_1_code 36 = .ok (.putfield 20, 3) := by decide +kernel
theorem d6_39 : decode prog_63_method_1_code 39 = .ok (.aload_n 0, 1) := by decide +kernel
theorem d6_40 : decode prog_63_method_1_code 40 = .ok (.bipush 64, 2) := by decide +kernel
theorem d6_42 : decode prog_63_method_1_code 42 = .ok (.newarray .int, 2) := by decide +kernel
theorem d6_44 : decode prog_63_method_1_code 44 = .ok (.putfield 23, 3) := by decide +kernel
theorem d6_47 : decode prog_63_method_1_code 47 = .ok (.aload_n 0, 1) := by decide +kernel
theorem d6_48 : decode prog_63_method_1_code 48 = .ok (.bipush 64, 2) := by decide +kernel
theorem d6_50 : decode prog_63_method_1_code 50 = .ok (.anewarray 26, 3) := by decide +kernel
theorem d6_53 : decode prog_63_method_1_code 53 = .ok (.putfield 28, 3) := by decide +kernel
theorem d6_56 : decode prog_63_method_1_code 56 = .ok (.return_, 1) := by decide +kernel
theorem pn_6 : plainName "com/example/vestwright/vestwright/io/Records" = true := by first | (simp [plainName, overriddenIn]; done) | decide +kernel
theorem ef_6 (m : MethodId) (x0 : Addr) : entryFrame m #[(.ref x0)] 1 = mkF m 0 #[.val (.ref x0)] [] := by first | (simp [entryFrame, mkF, argsToLocals, Value.category]; done) | rfl
def Q6 (Z : State) (aa : Addr) (h0 : Heap) (n0 : Nat) (v : Option Value) (h : Heap) (L : List Loc) : Prop := ∃ bt : Addr, ∃ bs : Addr, ∃ be : Addr, ∃ bf : Addr, ∃ bn : Addr, ∃ bx : Addr, v = none ∧ Fr n0 L ∧ Keep h0 h [aa] ∧ Fld Z h aa "com/example/vestwright/vestwright/io/Records" "text" "[C" (.ref bt) ∧ Fld Z h aa "com/example/vestwright/vestwright/io/Records" "starts" "[I" (.ref bs) ∧ Fld Z h aa "com/example/vestwright/vestwright/io/Records" "ends" "[I" (.ref be) ∧ Fld Z h aa "com/example/vestwright/vestwright/io/Records" "firstFields" "[I" (.ref bf) ∧ Fld Z h aa "com/example/vestwright/vestwright/io/Records" "lines" "[I" (.ref bn) ∧ Fld Z h aa "com/example/vestwright/vestwright/io/Records" "faults" "[Lcom/example/vestwright/vestwright/io/CsvFormatException;" (.ref bx) ∧ Fld Z h aa "com/example/vestwright/vestwright/io/Records" "textUsed" "I" (.int (0 : Int32)) ∧ Fld Z h aa "com/example/vestwright/vestwright/io/Records" "fields" "I" (.int (0 : Int32)) ∧ Fld Z h aa "com/example/vestwright/vestwright/io/Records" "records" "I" (.int (0 : Int32)) ∧ Txt Z h bt 4096 ∧ AryI Z h bs .int 256 (fun _ => (0 : Int32)) ∧ AryI Z h be .int 256 (fun _ => (0 : Int32)) ∧ AryI Z h bf .int 64 (fun _ => (0 : Int32)) ∧ AryI Z h bn .int 64 (fun _ => (0 : Int32)) ∧ h0.size ≤ bt ∧ h0.size ≤ bs ∧ h0.size ≤ be ∧ h0.size ≤ bf ∧ h0.size ≤ bn ∧ bt ≠ bs ∧ bt ≠ be ∧ bt ≠ bf ∧ bt ≠ bn ∧ bs ≠ be ∧ bs ≠ bf ∧ bs ≠ bn ∧ be ≠ bf ∧ be ≠ bn ∧ bf ≠ bn ∧ aa ≠ bt ∧ aa ≠ bs ∧ aa ≠ be ∧ aa ≠ bf ∧ aa ≠ bn
set_option maxRecDepth 65536 in
set_option maxHeartbeats 40000000 in
theorem rm6 (l : Launch) (Z : State) (a0 : Array Value) (hw : ∀ d ∈ tables_1, d.before a0 Z = true) (ws : List Jvm.Cond) (aa : Addr) (h0 : Heap) (n0 : Nat) (Z0 : n0 ≤ h0.size) (F_text_aa : Fld Z h0 aa "com/example/vestwright/vestwright/io/Records" "text" "[C" .null) (F_starts_aa : Fld Z h0 aa "com/example/vestwright/vestwright/io/Records" "starts" "[I" .null) (F_ends_aa : Fld Z h0 aa "com/example/vestwright/vestwright/io/Records" "ends" "[I" .null) (F_firstFields_aa : Fld Z h0 aa "com/example/vestwright/vestwright/io/Records" "firstFields" "[I" .null) (F_lines_aa : Fld Z h0 aa "com/example/vestwright/vestwright/io/Records" "lines" "[I" .null) (F_faults_aa : Fld Z h0 aa "com/example/vestwright/vestwright/io/Records" "faults" "[Lcom/example/vestwright/vestwright/io/CsvFormatException;" .null) (F_textUsed_aa : Fld Z h0 aa "com/example/vestwright/vestwright/io/Records" "textUsed" "I" (.int (0 : Int32))) (F_fields_aa : Fld Z h0 aa "com/example/vestwright/vestwright/io/Records" "fields" "I" (.int (0 : Int32))) (F_records_aa : Fld Z h0 aa "com/example/vestwright/vestwright/io/Records" "records" "I" (.int (0 : Int32))) (E_aa : Exa Z h0 aa "com/example/vestwright/vestwright/io/Records") (g_aa : n0 ≤ aa) :
    MetFree l (⟨"com/example/vestwright/vestwright/io/Records", "<init>", "()V"⟩ : MethodName) (head1 (Jvm.Cond.code (⟨"com/example/vestwright/vestwright/io/Records", "<init>", "()V"⟩ : MethodName) prog_63_method_1_code 1 none :: ws) ({ frames := 1, cells := 6, slots := 4800, locals := 12 } : Room)) (fun a U => a = #[(.ref aa)] ∧ Z.Warmed39 U.vm ∧ U.heap = h0) (fun _ _ _ _ _ => True) (fun _ U o U' => ∃ v L, o = .returned v ∧ Q6 Z aa h0 n0 v U'.heap L ∧ FrameEnd U o U' L ({ frames := 1, cells := 6, slots := 4800, locals := 12 } : Room).cells ({ frames := 1, cells := 6, slots := 4800, locals := 12 } : Room).slots) := by
  refine MetFree.of_bodySF (plainFor_of_name pn_6) hisR ?_
  intro p e s m args below meth c s₁ Bd hml0 hP hK
  obtain ⟨rfl, hZ, hh⟩ := hP
  have hx := Bd.exec
  have hby := Bd.bytes
  have hml : c.maxLocals = 1 := hml0
  have hown : s.vm.findClass "com/example/vestwright/vestwright/io/Records" = some m.cls := findClass_of_methodNamed Bd.named
  have hnm := (name_of_methodNamed Bd.named Bd.method).1
  have X0 : Stand p l e ({ frames := 1, cells := 6, slots := 4800, locals := 12 } : Room) s m #[(.ref aa)] below meth c s₁ [] 0 0 := Stand.of_body Bd
  have e0 : s₁.heap = h0 := by rw [← hh, Bd.state]; rfl
  have N0 := Fr.nil n0
  have K0 := Keep.refl h0 ([aa] : List Addr)
  show Go p e below s (Q6 Z aa h0 n0) ({ frames := 1, cells := 6, slots := 4800, locals := 12 } : Room).cells ({ frames := 1, cells := 6, slots := 4800, locals := 12 } : Room).slots (s₁.setTop (entryFrame m #[(.ref aa)] 1))
  rw [ef_6]
  show Go _ _ _ _ _ _ _ (s₁.setTop (mkF m 0 #[.val (.ref aa)] []))
  refine Go.step (fun t k => XS.aloadN X0.here hx rfl (hb hby d6_0) rfl rfl k) ?_
  show Go _ _ _ _ _ _ _ (s₁.setTop (mkF m 1 #[.val (.ref aa)] [(.ref aa)]))
  obtain ⟨T1, X1, e1, st1⟩ := initO X0 hx hZ hown (hw _ (List.mem_of_getElem? (i := 33) rfl)) (hw _ (List.mem_of_getElem? (i := 21) rfl)) (hw _ (List.mem_of_getElem? (i := 22) rfl)) e0 (g := (mkF m 1 #[.val (.ref aa)] [(.ref aa)])) rfl (by rw [hml]; rfl) rfl (hb hby d6_1) (by decide) (W := 0) (by show 2 * 0 + _ ≤ _; exact Nat.le_of_eq rfl) (by decide)
  refine Go.step st1 ?_
  show Go _ _ _ _ _ _ _ (T1.setTop (mkF m 4 #[.val (.ref aa)] []))
  refine Go.step (fun t k => XS.aloadN X1.here hx rfl (hb hby d6_4) rfl rfl k) ?_
  show Go _ _ _ _ _ _ _ (T1.setTop (mkF m 5 #[.val (.ref aa)] [(.ref aa)]))
  refine Go.step (fun t k => XS.sipush X1.here hx rfl (hb hby d6_5) k) ?_
  show Go _ _ _ _ _ _ _ (T1.setTop (mkF m 8 #[.val (.ref aa)] [(.int (4096 : Int32)), (.ref aa)]))
  obtain ⟨T2, h2, k2, X2, e2, E2, A2, st2⟩ := newP X1 hx hZ (hw _ (List.mem_of_getElem? (i := 34) rfl)) e1 (g := (mkF m 8 #[.val (.ref aa)] [(.int (4096 : Int32)), (.ref aa)])) rfl (hb hby d6_8) rfl (by decide) (cap := 4096) (by decide) (by decide) (by decide) (by decide)
  obtain ⟨bt, gz2⟩ : ∃ z, z = h0.size := ⟨_, rfl⟩
  have ne_aa_bt : aa ≠ bt := Nat.ne_of_lt (Nat.lt_of_lt_of_le F_text_aa.lt (Nat.le_of_eq gz2.symm))
  have g_bt : n0 ≤ bt := Nat.le_trans Z0 (Nat.le_of_eq gz2.symm)
  have sz_bt : h0.size ≤ bt := Nat.le_trans K0.1 (Nat.le_of_eq gz2.symm)
  rw [← gz2] at A2 st2
  replace F_text_aa := F_text_aa.ext E2
  replace F_starts_aa := F_starts_aa.ext E2
  replace F_ends_aa := F_ends_aa.ext E2
  replace F_firstFields_aa := F_firstFields_aa.ext E2
  replace F_lines_aa := F_lines_aa.ext E2
  replace F_faults_aa := F_faults_aa.ext E2
  replace F_textUsed_aa := F_textUsed_aa.ext E2
  replace F_fields_aa := F_fields_aa.ext E2
  replace F_records_aa := F_records_aa.ext E2
  replace E_aa := E_aa.ext E2
  have Z2 := Nat.le_trans Z0 E2.1
  have K2 := K0.ext E2
  have T_bt : Txt Z h2 bt 4096 := Txt.new A2 rfl
  refine Go.step st2 ?_
  show Go _ _ _ _ _ _ _ (T2.setTop (mkF m 10 #[.val (.ref aa)] [(.ref bt), (.ref aa)]))
  obtain ⟨T3, h3, X3, e3, W3, st3⟩ := putF X2 hx hZ hown (host := "") (Or.inl (hw _ (List.mem_of_getElem? (i := 35) rfl))) Via.refl e2 F_text_aa E_aa (Or.inl (hw _ (List.mem_of_getElem? (i := 36) rfl))) (hw _ (List.mem_of_getElem? (i := 28) rfl)) (ty := (.array .char)) (by decide) rfl rfl (g := (mkF m 10 #[.val (.ref aa)] [(.ref bt), (.ref aa)])) rfl rfl (hb hby d6_10)
  replace F_starts_aa := F_starts_aa.other W3 (Or.inr (slot_ne (Or.inl (hw _ (List.mem_of_getElem? (i := 39) rfl))) (Or.inl (hw _ (List.mem_of_getElem? (i := 36) rfl))) (by decide) (t := (.array .int)) (t' := (.array .char)) (by decide) (by decide)))
  replace F_ends_aa := F_ends_aa.other W3 (Or.inr (slot_ne (Or.inl (hw _ (List.mem_of_getElem? (i := 41) rfl))) (Or.inl (hw _ (List.mem_of_getElem? (i := 36) rfl))) (by decide) (t := (.array .int)) (t' := (.array .char)) (by decide) (by decide)))
  replace F_firstFields_aa := F_firstFields_aa.other W3 (Or.inr (slot_ne (Or.inl (hw _ (List.mem_of_getElem? (i := 43) rfl))) (Or.inl (hw _ (List.mem_of_getElem? (i := 36) rfl))) (by decide) (t := (.array .int)) (t' := (.array .char)) (by decide) (by decide)))
  replace F_lines_aa := F_lines_aa.other W3 (Or.inr (slot_ne (Or.inl (hw _ (List.mem_of_getElem? (i := 45) rfl))) (Or.inl (hw _ (List.mem_of_getElem? (i := 36) rfl))) (by decide) (t := (.array .int)) (t' := (.array .char)) (by decide) (by decide)))
  replace F_faults_aa := F_faults_aa.other W3 (Or.inr (slot_ne (Or.inl (hw _ (List.mem_of_getElem? (i := 49) rfl))) (Or.inl (hw _ (List.mem_of_getElem? (i := 36) rfl))) (by decide) (t := (.array (.object "com/example/vestwright/vestwright/io/CsvFormatException"))) (t' := (.array .char)) (by decide) (by decide)))
  replace F_textUsed_aa := F_textUsed_aa.other W3 (Or.inr (slot_ne (Or.inl (hw _ (List.mem_of_getElem? (i := 97) rfl))) (Or.inl (hw _ (List.mem_of_getElem? (i := 36) rfl))) (by decide) (t := .int) (t' := (.array .char)) (by decide) (by decide)))
  replace F_fields_aa := F_fields_aa.other W3 (Or.inr (slot_ne (Or.inl (hw _ (List.mem_of_getElem? (i := 58) rfl))) (Or.inl (hw _ (List.mem_of_getElem? (i := 36) rfl))) (by decide) (t := .int) (t' := (.array .char)) (by decide) (by decide)))
  replace F_records_aa := F_records_aa.other W3 (Or.inr (slot_ne (Or.inl (hw _ (List.mem_of_getElem? (i := 56) rfl))) (Or.inl (hw _ (List.mem_of_getElem? (i := 36) rfl))) (by decide) (t := .int) (t' := (.array .char)) (by decide) (by decide)))
  replace E_aa := E_aa.wr W3
  replace T_bt := T_bt.other W3 (Ne.symm ne_aa_bt)
  have Z3 := Nat.le_trans Z2 (Keep.of_wr W3).1
  have N3 := Fr.snoc X3 N0 g_aa
  have K3 := K2.wr W3 (Or.inl (List.mem_of_getElem? (i := 0) rfl))
  replace F_text_aa := F_text_aa.same W3
  refine Go.step st3 ?_
  show Go _ _ _ _ _ _ _ (T3.setTop (mkF m 13 #[.val (.ref aa)] []))
  refine Go.step (fun t k => XS.aloadN X3.here hx rfl (hb hby d6_13) rfl rfl k) ?_
  show Go _ _ _ _ _ _ _ (T3.setTop (mkF m 14 #[.val (.ref aa)] [(.ref aa)]))
  refine Go.step (fun t k => XS.sipush X3.here hx rfl (hb hby d6_14) k) ?_
  show Go _ _ _ _ _ _ _ (T3.setTop (mkF m 17 #[.val (.ref aa)] [(.int (256 : Int32)), (.ref aa)]))
  obtain ⟨T4, h4, k4, X4, e4, E4, A4, st4⟩ := newP X3 hx hZ (hw _ (List.mem_of_getElem? (i := 37) rfl)) e3 (g := (mkF m 17 #[.val (.ref aa)] [(.int (256 : Int32)), (.ref aa)])) rfl (hb hby d6_17) rfl (by decide) (cap := 256) (by decide) (by decide) (by decide) (by decide)
  obtain ⟨bs, gz4⟩ : ∃ z, z = h3.size := ⟨_, rfl⟩
  have ne_aa_bs : aa ≠ bs := Nat.ne_of_lt (Nat.lt_of_lt_of_le F_text_aa.lt (Nat.le_of_eq gz4.symm))
  have ne_bt_bs : bt ≠ bs := Nat.ne_of_lt (Nat.lt_of_lt_of_le T_bt.lt (Nat.le_of_eq gz4.symm))
  have g_bs : n0 ≤ bs := Nat.le_trans Z3 (Nat.le_of_eq gz4.symm)
  have sz_bs : h0.size ≤ bs := Nat.le_trans K3.1 (Nat.le_of_eq gz4.symm)
  rw [← gz4] at A4 st4
  replace F_text_aa := F_text_aa.ext E4
  replace F_starts_aa := F_starts_aa.ext E4
  replace F_ends_aa := F_ends_aa.ext E4
  replace F_firstFields_aa := F_firstFields_aa.ext E4
  replace F_lines_aa := F_lines_aa.ext E4
  replace F_faults_aa := F_faults_aa.ext E4
  replace F_textUsed_aa := F_textUsed_aa.ext E4
  replace F_fields_aa := F_fields_aa.ext E4
  replace F_records_aa := F_records_aa.ext E4
  replace E_aa := E_aa.ext E4
  replace T_bt := T_bt.ext E4
  have Z4 := Nat.le_trans Z3 E4.1
  have K4 := K3.ext E4
  have A_bs : AryI Z h4 bs .int 256 (fun _ => (0 : Int32)) := Ary.new A4 rfl
  refine Go.step st4 ?_
  show Go _ _ _ _ _ _ _ (T4.setTop (mkF m 19 #[.val (.ref aa)] [(.ref bs), (.ref aa)]))
  obtain ⟨T5, h5, X5, e5, W5, st5⟩ := putF X4 hx hZ hown (host := "") (Or.inl (hw _ (List.mem_of_getElem? (i := 38) rfl))) Via.refl e4 F_starts_aa E_aa (Or.inl (hw _ (List.mem_of_getElem? (i := 39) rfl))) (hw _ (List.mem_of_getElem? (i := 28) rfl)) (ty := (.array .int)) (by decide) rfl rfl (g := (mkF m 19 #[.val (.ref aa)] [(.ref bs), (.ref aa)])) rfl rfl (hb hby d6_19)
  replace F_text_aa := F_text_aa.other W5 (Or.inr (slot_ne (Or.inl (hw _ (List.mem_of_getElem? (i := 36) rfl))) (Or.inl (hw _ (List.mem_of_getElem? (i := 39) rfl))) (by decide) (t := (.array .char)) (t' := (.array .int)) (by decide) (by decide)))
  replace F_ends_aa := F_ends_aa.other W5 (Or.inr (slot_ne (Or.inl (hw _ (List.mem_of_getElem? (i := 41) rfl))) (Or.inl (hw _ (List.mem_of_getElem? (i := 39) rfl))) (by decide) (t := (.array .int)) (t' := (.array .int)) (by decide) (by decide)))
  replace F_firstFields_aa := F_firstFields_aa.other W5 (Or.inr (slot_ne (Or.inl (hw _ (List.mem_of_getElem? (i := 43) rfl))) (Or.inl (hw _ (List.mem_of_getElem? (i := 39) rfl))) (by decide) (t := (.array .int)) (t' := (.array .int)) (by decide) (by decide)))
  replace F_lines_aa := F_lines_aa.other W5 (Or.inr (slot_ne (Or.inl (hw _ (List.mem_of_getElem? (i := 45) rfl))) (Or.inl (hw _ (List.mem_of_getElem? (i := 39) rfl))) (by decide) (t := (.array .int)) (t' := (.array .int)) (by decide) (by decide)))
  replace F_faults_aa := F_faults_aa.other W5 (Or.inr (slot_ne (Or.inl (hw _ (List.mem_of_getElem? (i := 49) rfl))) (Or.inl (hw _ (List.mem_of_getElem? (i := 39) rfl))) (by decide) (t := (.array (.object "com/example/vestwright/vestwright/io/CsvFormatException"))) (t' := (.array .int)) (by decide) (by decide)))
  replace F_textUsed_aa := F_textUsed_aa.other W5 (Or.inr (slot_ne (Or.inl (hw _ (List.mem_of_getElem? (i := 97) rfl))) (Or.inl (hw _ (List.mem_of_getElem? (i := 39) rfl))) (by decide) (t := .int) (t' := (.array .int)) (by decide) (by decide)))
  replace F_fields_aa := F_fields_aa.other W5 (Or.inr (slot_ne (Or.inl (hw _ (List.mem_of_getElem? (i := 58) rfl))) (Or.inl (hw _ (List.mem_of_getElem? (i := 39) rfl))) (by decide) (t := .int) (t' := (.array .int)) (by decide) (by decide)))
  replace F_records_aa := F_records_aa.other W5 (Or.inr (slot_ne (Or.inl (hw _ (List.mem_of_getElem? (i := 56) rfl))) (Or.inl (hw _ (List.mem_of_getElem? (i := 39) rfl))) (by decide) (t := .int) (t' := (.array .int)) (by decide) (by decide)))
  replace E_aa := E_aa.wr W5
  replace T_bt := T_bt.other W5 (Ne.symm ne_aa_bt)
  replace A_bs := A_bs.other W5 (Ne.symm ne_aa_bs)
  have Z5 := Nat.le_trans Z4 (Keep.of_wr W5).1
  have N5 := Fr.snoc X5 N3 g_aa
  have K5 := K4.wr W5 (Or.inl (List.mem_of_getElem? (i := 0) rfl))
  replace F_starts_aa := F_starts_aa.same W5
  refine Go.step st5 ?_
  show Go _ _ _ _ _ _ _ (T5.setTop (mkF m 22 #[.val (.ref aa)] []))
  refine Go.step (fun t k => XS.aloadN X5.here hx rfl (hb hby d6_22) rfl rfl k) ?_
  show Go _ _ _ _ _ _ _ (T5.setTop (mkF m 23 #[.val (.ref aa)] [(.ref aa)]))
  refine Go.step (fun t k => XS.sipush X5.here hx rfl (hb hby d6_23) k) ?_
  show Go _ _ _ _ _ _ _ (T5.setTop (mkF m 26 #[.val (.ref aa)] [(.int (256 : Int32)), (.ref aa)]))
  obtain ⟨T6, h6, k6, X6, e6, E6, A6, st6⟩ := newP X5 hx hZ (hw _ (List.mem_of_getElem? (i := 37) rfl)) e5 (g := (mkF m 26 #[.val (.ref aa)] [(.int (256 : Int32)), (.ref aa)])) rfl (hb hby d6_26) rfl (by decide) (cap := 256) (by decide) (by decide) (by decide) (by decide)
  obtain ⟨be, gz6⟩ : ∃ z, z = h5.size := ⟨_, rfl⟩
  have ne_aa_be : aa ≠ be := Nat.ne_of_lt (Nat.lt_of_lt_of_le F_text_aa.lt (Nat.le_of_eq gz6.symm))
  have ne_bt_be : bt ≠ be := Nat.ne_of_lt (Nat.lt_of_lt_of_le T_bt.lt (Nat.le_of_eq gz6.symm))
  have ne_bs_be : bs ≠ be := Nat.ne_of_lt (Nat.lt_of_lt_of_le A_bs.lt (Nat.le_of_eq gz6.symm))
  have g_be : n0 ≤ be := Nat.le_trans Z5 (Nat.le_of_eq gz6.symm)
  have sz_be : h0.size ≤ be := Nat.le_trans K5.1 (Nat.le_of_eq gz6.symm)
  rw [← gz6] at A6 st6
  replace F_text_aa := F_text_aa.ext E6
  replace F_starts_aa := F_starts_aa.ext E6
  replace F_ends_aa := F_ends_aa.ext E6
  replace F_firstFields_aa := F_firstFields_aa.ext E6
  replace F_lines_aa := F_lines_aa.ext E6
  replace F_faults_aa := F_faults_aa.ext E6
  replace F_textUsed_aa := F_textUsed_aa.ext E6
  replace F_fields_aa := F_fields_aa.ext E6
  replace F_records_aa := F_records_aa.ext E6
  replace E_aa := E_aa.ext E6
  replace T_bt := T_bt.ext E6
  replace A_bs := A_bs.ext E6
  have Z6 := Nat.le_trans Z5 E6.1
  have K6 := K5.ext E6
  have A_be : AryI Z h6 be .int 256 (fun _ => (0 : Int32)) := Ary.new A6 rfl
  refine Go.step st6 ?_
  show Go _ _ _ _ _ _ _ (T6.setTop (mkF m 28 #[.val (.ref aa)] [(.ref be), (.ref aa)]))
  obtain ⟨T7, h7, X7, e7, W7, st7⟩ := putF X6 hx hZ hown (host := "") (Or.inl (hw _ (List.mem_of_getElem? (i := 40) rfl))) Via.refl e6 F_ends_aa E_aa (Or.inl (hw _ (List.mem_of_getElem? (i := 41) rfl))) (hw _ (List.mem_of_getElem? (i := 28) rfl)) (ty := (.array .int)) (by decide) rfl rfl (g := (mkF m 28 #[.val (.ref aa)] [(.ref be), (.ref aa)])) rfl rfl (hb hby d6_28)
  replace F_text_aa := F_text_aa.other W7 (Or.inr (slot_ne (Or.inl (hw _ (List.mem_of_getElem? (i := 36) rfl))) (Or.inl (hw _ (List.mem_of_getElem? (i := 41) rfl))) (by decide) (t := (.array .char)) (t' := (.array .int)) (by decide) (by decide)))
  replace F_starts_aa := F_starts_aa.other W7 (Or.inr (slot_ne (Or.inl (hw _ (List.mem_of_getElem? (i := 39) rfl))) (Or.inl (hw _ (List.mem_of_getElem? (i := 41) rfl))) (by decide) (t := (.array .int)) (t' := (.array .int)) (by decide) (by decide)))
  replace F_firstFields_aa := F_firstFields_aa.other W7 (Or.inr (slot_ne (Or.inl (hw _ (List.mem_of_getElem? (i := 43) rfl))) (Or.inl (hw _ (List.mem_of_getElem? (i := 41) rfl))) (by decide) (t := (.array .int)) (t' := (.array .int)) (by decide) (by decide)))
  replace F_lines_aa := F_lines_aa.other W7 (Or.inr (slot_ne (Or.inl (hw _ (List.mem_of_getElem? (i := 45) rfl))) (Or.inl (hw _ (List.mem_of_getElem? (i := 41) rfl))) (by decide) (t := (.array .int)) (t' := (.array .int)) (by decide) (by decide)))
  replace F_faults_aa := F_faults_aa.other W7 (Or.inr (slot_ne (Or.inl (hw _ (List.mem_of_getElem? (i := 49) rfl))) (Or.inl (hw _ (List.mem_of_getElem? (i := 41) rfl))) (by decide) (t := (.array (.object "com/example/vestwright/vestwright/io/CsvFormatException"))) (t' := (.array .int)) (by decide) (by decide)))
  replace F_textUsed_aa := F_textUsed_aa.other W7 (Or.inr (slot_ne (Or.inl (hw _ (List.mem_of_getElem? (i := 97) rfl))) (Or.inl (hw _ (List.mem_of_getElem? (i := 41) rfl))) (by decide) (t := .int) (t' := (.array .int)) (by decide) (by decide)))
  replace F_fields_aa := F_fields_aa.other W7 (Or.inr (slot_ne (Or.inl (hw _ (List.mem_of_getElem? (i := 58) rfl))) (Or.inl (hw _ (List.mem_of_getElem? (i := 41) rfl))) (by decide) (t := .int) (t' := (.array .int)) (by decide) (by decide)))
  replace F_records_aa := F_records_aa.other W7 (Or.inr (slot_ne (Or.inl (hw _ (List.mem_of_getElem? (i := 56) rfl))) (Or.inl (hw _ (List.mem_of_getElem? (i := 41) rfl))) (by decide) (t := .int) (t' := (.array .int)) (by decide) (by decide)))
  replace E_aa := E_aa.wr W7
  replace T_bt := T_bt.other W7 (Ne.symm ne_aa_bt)
  replace A_bs := A_bs.other W7 (Ne.symm ne_aa_bs)
  replace A_be := A_be.other W7 (Ne.symm ne_aa_be)
  have Z7 := Nat.le_trans Z6 (Keep.of_wr W7).1
  have N7 := Fr.snoc X7 N5 g_aa
  have K7 := K6.wr W7 (Or.inl (List.mem_of_getElem? (i := 0) rfl))
  replace F_ends_aa := F_ends_aa.same W7
  refine Go.step st7 ?_
  show Go _ _ _ _ _ _ _ (T7.setTop (mkF m 31 #[.val (.ref aa)] []))
  refine Go.step (fun t k => XS.aloadN X7.here hx rfl (hb hby d6_31) rfl rfl k) ?_
  show Go _ _ _ _ _ _ _ (T7.setTop (mkF m 32 #[.val (.ref aa)] [(.ref aa)]))
  refine Go.step (fun t k => XS.bipush X7.here hx rfl (hb hby d6_32) k) ?_
  show Go _ _ _ _ _ _ _ (T7.setTop (mkF m 34 #[.val (.ref aa)] [(.int (64 : Int32)), (.ref aa)]))
  obtain ⟨T8, h8, k8, X8, e8, E8, A8, st8⟩ := newP X7 hx hZ (hw _ (List.mem_of_getElem? (i := 37) rfl)) e7 (g := (mkF m 34 #[.val (.ref aa)] [(.int (64 : Int32)), (.ref aa)])) rfl (hb hby d6_34) rfl (by decide) (cap := 64) (by decide) (by decide) (by decide) (by decide)
  obtain ⟨bf, gz8⟩ : ∃ z, z = h7.size := ⟨_, rfl⟩
  have ne_aa_bf : aa ≠ bf := Nat.ne_of_lt (Nat.lt_of_lt_of_le F_text_aa.lt (Nat.le_of_eq gz8.symm))
  have ne_bt_bf : bt ≠ bf := Nat.ne_of_lt (Nat.lt_of_lt_of_le T_bt.lt (Nat.le_of_eq gz8.symm))
  have ne_bs_bf : bs ≠ bf := Nat.ne_of_lt (Nat.lt_of_lt_of_le A_bs.lt (Nat.le_of_eq gz8.symm))
  have ne_be_bf : be ≠ bf := Nat.ne_of_lt (Nat.lt_of_lt_of_le A_be.lt (Nat.le_of_eq gz8.symm))
  have g_bf : n0 ≤ bf := Nat.le_trans Z7 (Nat.le_of_eq gz8.symm)
  have sz_bf : h0.size ≤ bf := Nat.le_trans K7.1 (Nat.le_of_eq gz8.symm)
  rw [← gz8] at A8 st8
  replace F_text_aa := F_text_aa.ext E8
  replace F_starts_aa := F_starts_aa.ext E8
  replace F_ends_aa := F_ends_aa.ext E8
  replace F_firstFields_aa := F_firstFields_aa.ext E8
  replace F_lines_aa := F_lines_aa.ext E8
  replace F_faults_aa := F_faults_aa.ext E8
  replace F_textUsed_aa := F_textUsed_aa.ext E8
  replace F_fields_aa := F_fields_aa.ext E8
  replace F_records_aa := F_records_aa.ext E8
  replace E_aa := E_aa.ext E8
  replace T_bt := T_bt.ext E8
  replace A_bs := A_bs.ext E8
  replace A_be := A_be.ext E8
  have Z8 := Nat.le_trans Z7 E8.1
  have K8 := K7.ext E8
  have A_bf : AryI Z h8 bf .int 64 (fun _ => (0 : Int32)) := Ary.new A8 rfl
  refine Go.step st8 ?_
  show Go _ _ _ _ _ _ _ (T8.setTop (mkF m 36 #[.val (.ref aa)] [(.ref bf), (.ref aa)]))
  obtain ⟨T9, h9, X9, e9, W9, st9⟩ := putF X8 hx hZ hown (host := "") (Or.inl (hw _ (List.mem_of_getElem? (i := 42) rfl))) Via.refl e8 F_firstFields_aa E_aa (Or.inl (hw _ (List.mem_of_getElem? (i := 43) rfl))) (hw _ (List.mem_of_getElem? (i := 28) rfl)) (ty := (.array .int)) (by decide) rfl rfl (g := (mkF m 36 #[.val (.ref aa)] [(.ref bf), (.ref aa)])) rfl rfl (hb hby d6_36)
  replace F_text_aa := F_text_aa.other W9 (Or.inr (slot_ne (Or.inl (hw _ (List.mem_of_getElem? (i := 36) rfl))) (Or.inl (hw _ (List.mem_of_getElem? (i := 43) rfl))) (by decide) (t := (.array .char)) (t' := (.array .int)) (by decide) (by decide)))
  replace F_starts_aa := F_starts_aa.other W9 (Or.inr (slot_ne (Or.inl (hw _ (List.mem_of_getElem? (i := 39) rfl))) (Or.inl (hw _ (List.mem_of_getElem? (i := 43) rfl))) (by decide) (t := (.array .int)) (t' := (.array .int)) (by decide) (by decide)))
  replace F_ends_aa := F_ends_aa.other W9 (Or.inr (slot_ne (Or.inl (hw _ (List.mem_of_getElem? (i := 41) rfl))) (Or.inl (hw _ (List.mem_of_getElem? (i := 43) rfl))) (by decide) (t := (.array .int)) (t' := (.array .int)) (by decide) (by decide)))
  replace F_lines_aa := F_lines_aa.other W9 (Or.inr (slot_ne (Or.inl (hw _ (List.mem_of_getElem? (i := 45) rfl))) (Or.inl (hw _ (List.mem_of_getElem? (i := 43) rfl))) (by decide) (t := (.array .int)) (t' := (.array .int)) (by decide) (by decide)))
  replace F_faults_aa := F_faults_aa.other W9 (Or.inr (slot_ne (Or.inl (hw _ (List.mem_of_getElem? (i := 49) rfl))) (Or.inl (hw _ (List.mem_of_getElem? (i := 43) rfl))) (by decide) (t := (.array (.object "com/example/vestwright/vestwright/io/CsvFormatException"))) (t' := (.array .int)) (by decide) (by decide)))
  replace F_textUsed_aa := F_textUsed_aa.other W9 (Or.inr (slot_ne (Or.inl (hw _ (List.mem_of_getElem? (i := 97) rfl))) (Or.inl (hw _ (List.mem_of_getElem? (i := 43) rfl))) (by decide) (t := .int) (t' := (.array .int)) (by decide) (by decide)))
  replace F_fields_aa := F_fields_aa.other W9 (Or.inr (slot_ne (Or.inl (hw _ (List.mem_of_getElem? (i := 58) rfl))) (Or.inl (hw _ (List.mem_of_getElem? (i := 43) rfl))) (by decide) (t := .int) (t' := (.array .int)) (by decide) (by decide)))
  replace F_records_aa := F_records_aa.other W9 (Or.inr (slot_ne (Or.inl (hw _ (List.mem_of_getElem? (i := 56) rfl))) (Or.inl (hw _ (List.mem_of_getElem? (i := 43) rfl))) (by decide) (t := .int) (t' := (.array .int)) (by decide) (by decide)))
  replace E_aa := E_aa.wr W9
  replace T_bt := T_bt.other W9 (Ne.symm ne_aa_bt)
  replace A_bs := A_bs.other W9 (Ne.symm ne_aa_bs)
  replace A_be := A_be.other W9 (Ne.symm ne_aa_be)
  replace A_bf := A_bf.other W9 (Ne.symm ne_aa_bf)
  have Z9 := Nat.le_trans Z8 (Keep.of_wr W9).1
  have N9 := Fr.snoc X9 N7 g_aa
  have K9 := K8.wr W9 (Or.inl (List.mem_of_getElem? (i := 0) rfl))
  replace F_firstFields_aa := F_firstFields_aa.same W9
  refine Go.step st9 ?_
  show Go _ _ _ _ _ _ _ (T9.setTop (mkF m 39 #[.val (.ref aa)] []))
  refine Go.step (fun t k => XS.aloadN X9.here hx rfl (hb hby d6_39) rfl rfl k) ?_
  show Go _ _ _ _ _ _ _ (T9.setTop (mkF m 40 #[.val (.ref aa)] [(.ref aa)]))
  refine Go.step (fun t k => XS.bipush X9.here hx rfl (hb hby d6_40) k) ?_
  show Go _ _ _ _ _ _ _ (T9.setTop (mkF m 42 #[.val (.ref aa)] [(.int (64 : Int32)), (.ref aa)]))
  obtain ⟨T10, h10, k10, X10, e10, E10, A10, st10⟩ := newP X9 hx hZ (hw _ (List.mem_of_getElem? (i := 37) rfl)) e9 (g := (mkF m 42 #[.val (.ref aa)] [(.int (64 : Int32)), (.ref aa)])) rfl (hb hby d6_42) rfl (by decide) (cap := 64) (by decide) (by decide) (by decide) (by decide)
  obtain ⟨bn, gz10⟩ : ∃ z, z = h9.size := ⟨_, rfl⟩
  have ne_aa_bn : aa ≠ bn := Nat.ne_of_lt (Nat.lt_of_lt_of_le F_text_aa.lt (Nat.le_of_eq gz10.symm))
  have ne_bt_bn : bt ≠ bn := Nat.ne_of_lt (Nat.lt_of_lt_of_le T_bt.lt (Nat.le_of_eq gz10.symm))
  have ne_bs_bn : bs ≠ bn := Nat.ne_of_lt (Nat.lt_of_lt_of_le A_bs.lt (Nat.le_of_eq gz10.symm))
  have ne_be_bn : be ≠ bn := Nat.ne_of_lt (Nat.lt_of_lt_of_le A_be.lt (Nat.le_of_eq gz10.symm))
  have ne_bf_bn : bf ≠ bn := Nat.ne_of_lt (Nat.lt_of_lt_of_le A_bf.lt (Nat.le_of_eq gz10.symm))
  have g_bn : n0 ≤ bn := Nat.le_trans Z9 (Nat.le_of_eq gz10.symm)
  have sz_bn : h0.size ≤ bn := Nat.le_trans K9.1 (Nat.le_of_eq gz10.symm)
  rw [← gz10] at A10 st10
  replace F_text_aa := F_text_aa.ext E10
  replace F_starts_aa := F_starts_aa.ext E10
  replace F_ends_aa := F_ends_aa.ext E10
  replace F_firstFields_aa := F_firstFields_aa.ext E10
  replace F_lines_aa := F_lines_aa.ext E10
  replace F_faults_aa := F_faults_aa.ext E10
  replace F_textUsed_aa := F_textUsed_aa.ext E10
  replace F_fields_aa := F_fields_aa.ext E10
  replace F_records_aa := F_records_aa.ext E10
  replace E_aa := E_aa.ext E10
  replace T_bt := T_bt.ext E10
  replace A_bs := A_bs.ext E10
  replace A_be := A_be.ext E10
  replace A_bf := A_bf.ext E10
  have Z10 := Nat.le_trans Z9 E10.1
  have K10 := K9.ext E10
  have A_bn : AryI Z h10 bn .int 64 (fun _ => (0 : Int32)) := Ary.new A10 rfl
  refine Go.step st10 ?_
  show Go _ _ _ _ _ _ _ (T10.setTop (mkF m 44 #[.val (.ref aa)] [(.ref bn), (.ref aa)]))
  obtain ⟨T11, h11, X11, e11, W11, st11⟩ := putF X10 hx hZ hown (host := "") (Or.inl (hw _ (List.mem_of_getElem? (i := 44) rfl))) Via.refl e10 F_lines_aa E_aa (Or.inl (hw _ (List.mem_of_getElem? (i := 45) rfl))) (hw _ (List.mem_of_getElem? (i := 28) rfl)) (ty := (.array .int)) (by decide) rfl rfl (g := (mkF m 44 #[.val (.ref aa)] [(.ref bn), (.ref aa)])) rfl rfl (hb hby d6_44)
  replace F_text_aa := F_text_aa.other W11 (Or.inr (slot_ne (Or.inl (hw _ (List.mem_of_getElem? (i := 36) rfl))) (Or.inl (hw _ (List.mem_of_getElem? (i := 45) rfl))) (by decide) (t := (.array .char)) (t' := (.array .int)) (by decide) (by decide)))
  replace F_starts_aa := F_starts_aa.other W11 (Or.inr (slot_ne (Or.inl (hw _ (List.mem_of_getElem? (i := 39) rfl))) (Or.inl (hw _ (List.mem_of_getElem? (i := 45) rfl))) (by decide) (t := (.array .int)) (t' := (.array .int)) (by decide) (by decide)))
  replace F_ends_aa := F_ends_aa.other W11 (Or.inr (slot_ne (Or.inl (hw _ (List.mem_of_getElem? (i := 41) rfl))) (Or.inl (hw _ (List.mem_of_getElem? (i := 45) rfl))) (by decide) (t := (.array .int)) (t' := (.array .int)) (by decide) (by decide)))
  replace F_firstFields_aa := F_firstFields_aa.other W11 (Or.inr (slot_ne (Or.inl (hw _ (List.mem_of_getElem? (i := 43) rfl))) (Or.inl (hw _ (List.mem_of_getElem? (i := 45) rfl))) (by decide) (t := (.array .int)) (t' := (.array .int)) (by decide) (by decide)))
  replace F_faults_aa := F_faults_aa.other W11 (Or.inr (slot_ne (Or.inl (hw _ (List.mem_of_getElem? (i := 49) rfl))) (Or.inl (hw _ (List.mem_of_getElem? (i := 45) rfl))) (by decide) (t := (.array (.object "com/example/vestwright/vestwright/io/CsvFormatException"))) (t' := (.array .int)) (by decide) (by decide)))
  replace F_textUsed_aa := F_textUsed_aa.other W11 (Or.inr (slot_ne (Or.inl (hw _ (List.mem_of_getElem? (i := 97) rfl))) (Or.inl (hw _ (List.mem_of_getElem? (i := 45) rfl))) (by decide) (t := .int) (t' := (.array .int)) (by decide) (by decide)))
  replace F_fields_aa := F_fields_aa.other W11 (Or.inr (slot_ne (Or.inl (hw _ (List.mem_of_getElem? (i := 58) rfl))) (Or.inl (hw _ (List.mem_of_getElem? (i := 45) rfl))) (by decide) (t := .int) (t' := (.array .int)) (by decide) (by decide)))
  replace F_records_aa := F_records_aa.other W11 (Or.inr (slot_ne (Or.inl (hw _ (List.mem_of_getElem? (i := 56) rfl))) (Or.inl (hw _ (List.mem_of_getElem? (i := 45) rfl))) (by decide) (t := .int) (t' := (.array .int)) (by decide) (by decide)))
  replace E_aa := E_aa.wr W11
  replace T_bt := T_bt.other W11 (Ne.symm ne_aa_bt)
  replace A_bs := A_bs.other W11 (Ne.symm ne_aa_bs)
  replace A_be := A_be.other W11 (Ne.symm ne_aa_be)
  replace A_bf := A_bf.other W11 (Ne.symm ne_aa_bf)
  replace A_bn := A_bn.other W11 (Ne.symm ne_aa_bn)
  have Z11 := Nat.le_trans Z10 (Keep.of_wr W11).1
  have N11 := Fr.snoc X11 N9 g_aa
  have K11 := K10.wr W11 (Or.inl (List.mem_of_getElem? (i := 0) rfl))
  replace F_lines_aa := F_lines_aa.same W11
  refine Go.step st11 ?_
  show Go _ _ _ _ _ _ _ (T11.setTop (mkF m 47 #[.val (.ref aa)] []))
  refine Go.step (fun t k => XS.aloadN X11.here hx rfl (hb hby d6_47) rfl rfl k) ?_
  show Go _ _ _ _ _ _ _ (T11.setTop (mkF m 48 #[.val (.ref aa)] [(.ref aa)]))
  refine Go.step (fun t k => XS.bipush X11.here hx rfl (hb hby d6_48) k) ?_
  show Go _ _ _ _ _ _ _ (T11.setTop (mkF m 50 #[.val (.ref aa)] [(.int (64 : Int32)), (.ref aa)]))
  obtain ⟨T12, h12, k12, X12, e12, E12, A12, O12, st12⟩ := newR X11 hx hZ hown (hw _ (List.mem_of_getElem? (i := 46) rfl)) (hw _ (List.mem_of_getElem? (i := 47) rfl)) e11 (g := (mkF m 50 #[.val (.ref aa)] [(.int (64 : Int32)), (.ref aa)])) rfl (hb hby d6_50) rfl (by decide) (cap := 64) (by decide) (by decide) (by decide) (by decide)
  obtain ⟨bx, gz12⟩ : ∃ z, z = h11.size := ⟨_, rfl⟩
  have ne_aa_bx : aa ≠ bx := Nat.ne_of_lt (Nat.lt_of_lt_of_le F_text_aa.lt (Nat.le_of_eq gz12.symm))
  have ne_bt_bx : bt ≠ bx := Nat.ne_of_lt (Nat.lt_of_lt_of_le T_bt.lt (Nat.le_of_eq gz12.symm))
  have ne_bs_bx : bs ≠ bx := Nat.ne_of_lt (Nat.lt_of_lt_of_le A_bs.lt (Nat.le_of_eq gz12.symm))
  have ne_be_bx : be ≠ bx := Nat.ne_of_lt (Nat.lt_of_lt_of_le A_be.lt (Nat.le_of_eq gz12.symm))
  have ne_bf_bx : bf ≠ bx := Nat.ne_of_lt (Nat.lt_of_lt_of_le A_bf.lt (Nat.le_of_eq gz12.symm))
  have ne_bn_bx : bn ≠ bx := Nat.ne_of_lt (Nat.lt_of_lt_of_le A_bn.lt (Nat.le_of_eq gz12.symm))
  have g_bx : n0 ≤ bx := Nat.le_trans Z11 (Nat.le_of_eq gz12.symm)
  have sz_bx : h0.size ≤ bx := Nat.le_trans K11.1 (Nat.le_of_eq gz12.symm)
  rw [← gz12] at A12 st12
  replace F_text_aa := F_text_aa.ext E12
  replace F_starts_aa := F_starts_aa.ext E12
  replace F_ends_aa := F_ends_aa.ext E12
  replace F_firstFields_aa := F_firstFields_aa.ext E12
  replace F_lines_aa := F_lines_aa.ext E12
  replace F_faults_aa := F_faults_aa.ext E12
  replace F_textUsed_aa := F_textUsed_aa.ext E12
  replace F_fields_aa := F_fields_aa.ext E12
  replace F_records_aa := F_records_aa.ext E12
  replace E_aa := E_aa.ext E12
  replace T_bt := T_bt.ext E12
  replace A_bs := A_bs.ext E12
  replace A_be := A_be.ext E12
  replace A_bf := A_bf.ext E12
  replace A_bn := A_bn.ext E12
  have Z12 := Nat.le_trans Z11 E12.1
  have K12 := K11.ext E12
  have A_bx : Ary Z h12 bx (.object "com/example/vestwright/vestwright/io/CsvFormatException") 64 (fun _ => .null) := Ary.new A12 rfl
  refine Go.step st12 ?_
  show Go _ _ _ _ _ _ _ (T12.setTop (mkF m 53 #[.val (.ref aa)] [(.ref bx), (.ref aa)]))
  obtain ⟨T13, h13, X13, e13, W13, st13⟩ := putF X12 hx hZ hown (host := "") (Or.inl (hw _ (List.mem_of_getElem? (i := 48) rfl))) Via.refl e12 F_faults_aa E_aa (Or.inl (hw _ (List.mem_of_getElem? (i := 49) rfl))) (hw _ (List.mem_of_getElem? (i := 28) rfl)) (ty := (.array (.object "com/example/vestwright/vestwright/io/CsvFormatException"))) (by decide) rfl rfl (g := (mkF m 53 #[.val (.ref aa)] [(.ref bx), (.ref aa)])) rfl rfl (hb hby d6_53)
  replace F_text_aa := F_text_aa.other W13 (Or.inr (slot_ne (Or.inl (hw _ (List.mem_of_getElem? (i := 36) rfl))) (Or.inl (hw _ (List.mem_of_getElem? (i := 49) rfl))) (by decide) (t := (.array .char)) (t' := (.array (.object "com/example/vestwright/vestwright/io/CsvFormatException"))) (by decide) (by decide)))
  replace F_starts_aa := F_starts_aa.other W13 (Or.inr (slot_ne (Or.inl (hw _ (List.mem_of_getElem? (i := 39) rfl))) (Or.inl (hw _ (List.mem_of_getElem? (i := 49) rfl))) (by decide) (t := (.array .int)) (t' := (.array (.object "com/example/vestwright/vestwright/io/CsvFormatException"))) (by decide) (by decide)))
  replace F_ends_aa := F_ends_aa.other W13 (Or.inr (slot_ne (Or.inl (hw _ (List.mem_of_getElem? (i := 41) rfl))) (Or.inl (hw _ (List.mem_of_getElem? (i := 49) rfl))) (by decide) (t := (.array .int)) (t' := (.array (.object "com/example/vestwright/vestwright/io/CsvFormatException"))) (by decide) (by decide)))
  replace F_firstFields_aa := F_firstFields_aa.other W13 (Or.inr (slot_ne (Or.inl (hw _ (List.mem_of_getElem? (i := 43) rfl))) (Or.inl (hw _ (List.mem_of_getElem? (i := 49) rfl))) (by decide) (t := (.array .int)) (t' := (.array (.object "com/example/vestwright/vestwright/io/CsvFormatException"))) (by decide) (by decide)))
  replace F_lines_aa := F_lines_aa.other W13 (Or.inr (slot_ne (Or.inl (hw _ (List.mem_of_getElem? (i := 45) rfl))) (Or.inl (hw _ (List.mem_of_getElem? (i := 49) rfl))) (by decide) (t := (.array .int)) (t' := (.array (.object "com/example/vestwright/vestwright/io/CsvFormatException"))) (by decide) (by decide)))
  replace F_textUsed_aa := F_textUsed_aa.other W13 (Or.inr (slot_ne (Or.inl (hw _ (List.mem_of_getElem? (i := 97) rfl))) (Or.inl (hw _ (List.mem_of_getElem? (i := 49) rfl))) (by decide) (t := .int) (t' := (.array (.object "com/example/vestwright/vestwright/io/CsvFormatException"))) (by decide) (by decide)))
  replace F_fields_aa := F_fields_aa.other W13 (Or.inr (slot_ne (Or.inl (hw _ (List.mem_of_getElem? (i := 58) rfl))) (Or.inl (hw _ (List.mem_of_getElem? (i := 49) rfl))) (by decide) (t := .int) (t' := (.array (.object "com/example/vestwright/vestwright/io/CsvFormatException"))) (by decide) (by decide)))
  replace F_records_aa := F_records_aa.other W13 (Or.inr (slot_ne (Or.inl (hw _ (List.mem_of_getElem? (i := 56) rfl))) (Or.inl (hw _ (List.mem_of_getElem? (i := 49) rfl))) (by decide) (t := .int) (t' := (.array (.object "com/example/vestwright/vestwright/io/CsvFormatException"))) (by decide) (by decide)))
  replace E_aa := E_aa.wr W13
  replace T_bt := T_bt.other W13 (Ne.symm ne_aa_bt)
  replace A_bs := A_bs.other W13 (Ne.symm ne_aa_bs)
  replace A_be := A_be.other W13 (Ne.symm ne_aa_be)
  replace A_bf := A_bf.other W13 (Ne.symm ne_aa_bf)
  replace A_bn := A_bn.other W13 (Ne.symm ne_aa_bn)
  replace A_bx := A_bx.other W13 (Ne.symm ne_aa_bx)
  have Z13 := Nat.le_trans Z12 (Keep.of_wr W13).1
  have N13 := Fr.snoc X13 N11 g_aa
  have K13 := K12.wr W13 (Or.inl (List.mem_of_getElem? (i := 0) rfl))
  replace F_faults_aa := F_faults_aa.same W13
  refine Go.step st13 ?_
  show Go _ _ _ _ _ _ _ (T13.setTop (mkF m 56 #[.val (.ref aa)] []))
  refine Go.retV X13 Bd.notSynchronized hx Bd.returns (hb hby d6_56) (by decide) (by decide) ?_
  rw [e13]
  exact ⟨bt, bs, be, bf, bn, bx, rfl, N13, K13, F_text_aa, F_starts_aa, F_ends_aa, F_firstFields_aa, F_lines_aa, F_faults_aa, F_textUsed_aa, F_fields_aa, F_records_aa, T_bt, A_bs, A_be, A_bf, A_bn, sz_bt, sz_bs, sz_be, sz_bf, sz_bn, ne_bt_bs, ne_bt_be, ne_bt_bf, ne_bt_bn, ne_bs_be, ne_bs_bf, ne_bs_bn, ne_be_bf, ne_be_bn, ne_bf_bn, ne_aa_bt, ne_aa_bs, ne_aa_be, ne_aa_bf, ne_aa_bn⟩
theorem d7_0 : decode prog_63_method_3_code 0 = .ok (.aload_n 0, 1) := by decide +kernel
theorem d7_1 : decode prog_63_method_3_code 1 = .ok (.getfield 39, 3) := by decide +kernel
theorem d7_4 : decode prog_63_method_3_code 4 = .ok (.iconst 1, 1) := by decide +kernel
theorem d7_5 : decode prog_63_method_3_code 5 = .ok (.iadd, 1) := by decide +kernel
theorem d7_6 : decode prog_63_method_3_code 6 = .ok (.aload_n 0, 1) := by decide +kernel
theorem d7_7 : decode prog_63_method_3_code 7 = .ok (.getfield 20, 3) := by decide +kernel
theorem d7_10 : decode prog_63_method_3_code 10 = .ok (.arraylength, 1) := by decide +kernel
theorem d7_11 : decode prog_63_method_3_code 11 = .ok (.if_icmp .ne 57, 3) := by decide +kernel
theorem d7_68 : decode prog_63_method_3_code 68 = .ok (.aload_n 0, 1) := by decide +kernel
theorem d7_69 : decode prog_63_method_3_code 69 = .ok (.getfield 20, 3) := by decide +kernel
theorem d7_72 : decode prog_63_method_3_code 72 = .ok (.aload_n 0, 1) := by decide +kernel
theorem d7_73 : decode prog_63_method_3_code 73 = .ok (.getfield 39, 3) := by decide +kernel
theorem d7_76 : decode prog_63_method_3_code 76 = .ok (.aload_n 0, 1) := by decide +kernel
theorem d7_77 : decode prog_63_method_3_code 77 = .ok (.getfield 36, 3) := by decide +kernel
theorem d7_80 : decode prog_63_method_3_code 80 = .ok (.iastore, 1) := by decide +kernel
theorem d7_81 : decode prog_63_method_3_code 81 = .ok (.aload_n 0, 1) := by decide +kernel
theorem d7_82 : decode prog_63_method_3_code 82 = .ok (.getfield 23, 3) := by decide +kernel
theorem d7_85 : decode prog_63_method_3_code 85 = .ok (.aload_n 0, 1) := by decide +kernel
theorem d7_86 : decode prog_63_method_3_code 86 = .ok (.getfield 39, 3) := by decide +kernel
theorem d7_89 : decode prog_63_method_3_code 89 = .ok (.iload_n 1, 1) := by decide +kernel
theorem d7_90 : decode prog_63_method_3_code 90 = .ok (.iastore, 1) := by decide +kernel
theorem d7_91 : decode prog_63_method_3_code 91 = .ok (.return_, 1) := by decide +kernel
theorem pn_7 : plainName "com/example/vestwright/vestwright/io/Records" = true := by first | (simp [plainName, overriddenIn]; done) | decide +kernel
theorem ef_7 (m : MethodId) (x0 : Addr) (x1 : Int32) : entryFrame m #[(.ref x0), (.int x1)] 2 = mkF m 0 #[.val (.ref x0), .val (.int x1)] [] := by first | (simp [entryFrame, mkF, argsToLocals, Value.category]; done) | rfl
def Q7 (Z : State) (aa : Addr) (lv : Int32) (bt : Addr) (bs : Addr) (be : Addr) (bf : Addr) (bn : Addr) (bx : Addr) (tu : Int32) (fv : Int32) (rv : Int32) (kr : Nat) (gf : Nat → Int32) (gn_ : Nat → Int32) (h0 : Heap) (n0 : Nat) (v : Option Value) (h : Heap) (L : List Loc) : Prop := v = none ∧ Fr n0 L ∧ Keep h0 h [bf, bn] ∧ AryI Z h bf .int 64 (up gf kr fv) ∧ AryI Z h bn .int 64 (up gn_ kr lv)
set_option maxRecDepth 65536 in
set_option maxHeartbeats 40000000 in
theorem rm7 (l : Launch) (Z : State) (a0 : Array Value) (hw : ∀ d ∈ tables_1, d.before a0 Z = true) (ws : List Jvm.Cond) (aa : Addr) (lv : Int32) (bt : Addr) (bs : Addr) (be : Addr) (bf : Addr) (bn : Addr) (bx : Addr) (tu : Int32) (fv : Int32) (rv : Int32) (kr : Nat) (gf : Nat → Int32) (gn_ : Nat → Int32) (h0 : Heap) (n0 : Nat) (Z0 : n0 ≤ h0.size) (F_text_aa : Fld Z h0 aa "com/example/vestwright/vestwright/io/Records" "text" "[C" (.ref bt)) (F_starts_aa : Fld Z h0 aa "com/example/vestwright/vestwright/io/Records" "starts" "[I" (.ref bs)) (F_ends_aa : Fld Z h0 aa "com/example/vestwright/vestwright/io/Records" "ends" "[I" (.ref be)) (F_firstFields_aa : Fld Z h0 aa "com/example/vestwright/vestwright/io/Records" "firstFields" "[I" (.ref bf)) (F_lines_aa : Fld Z h0 aa "com/example/vestwright/vestwright/io/Records" "lines" "[I" (.ref bn)) (F_faults_aa : Fld Z h0 aa "com/example/vestwright/vestwright/io/Records" "faults" "[Lcom/example/vestwright/vestwright/io/CsvFormatException;" (.ref bx)) (F_textUsed_aa : Fld Z h0 aa "com/example/vestwright/vestwright/io/Records" "textUsed" "I" (.int tu)) (F_fields_aa : Fld Z h0 aa "com/example/vestwright/vestwright/io/Records" "fields" "I" (.int fv)) (F_records_aa : Fld Z h0 aa "com/example/vestwright/vestwright/io/Records" "records" "I" (.int rv)) (E_aa : Exa Z h0 aa "com/example/vestwright/vestwright/io/Records") (g_bf : n0 ≤ bf) (g_bn : n0 ≤ bn) (A_bf : AryI Z h0 bf .int 64 gf) (A_bn : AryI Z h0 bn .int 64 gn_) (ne_bf_bn : bf ≠ bn) (ne_aa_bf : aa ≠ bf) (ne_aa_bn : aa ≠ bn) (hrv : (rv.toInt = (kr : Int))) (hkr : (kr < 63)) :
    MetFree l (⟨"com/example/vestwright/vestwright/io/Records", "startRecord", "(I)V"⟩ : MethodName) (head1 (Jvm.Cond.code (⟨"com/example/vestwright/vestwright/io/Records", "startRecord", "(I)V"⟩ : MethodName) prog_63_method_3_code 2 none :: ws) ({ frames := 0, cells := 0, slots := 0, locals := 0 } : Room)) (fun a U => a = #[(.ref aa), (.int lv)] ∧ Z.Warmed39 U.vm ∧ U.heap = h0) (fun _ _ _ _ _ => True) (fun _ U o U' => ∃ v L, o = .returned v ∧ Q7 Z aa lv bt bs be bf bn bx tu fv rv kr gf gn_ h0 n0 v U'.heap L ∧ FrameEnd U o U' L ({ frames := 0, cells := 0, slots := 0, locals := 0 } : Room).cells ({ frames := 0, cells := 0, slots := 0, locals := 0 } : Room).slots) := by
  refine MetFree.of_bodySF (plainFor_of_name pn_7) hisR ?_
  intro p e s m args below meth c s₁ Bd hml0 hP hK
  obtain ⟨rfl, hZ, hh⟩ := hP
  have hx := Bd.exec
  have hby := Bd.bytes
  have hml : c.maxLocals = 2 := hml0
  have hown : s.vm.findClass "com/example/vestwright/vestwright/io/Records" = some m.cls := findClass_of_methodNamed Bd.named
  have hnm := (name_of_methodNamed Bd.named Bd.method).1
  have X0 : Stand p l e ({ frames := 0, cells := 0, slots := 0, locals := 0 } : Room) s m #[(.ref aa), (.int lv)] below meth c s₁ [] 0 0 := Stand.of_body Bd
  have e0 : s₁.heap = h0 := by rw [← hh, Bd.state]; rfl
  have N0 := Fr.nil n0
  have K0 := Keep.refl h0 ([bf, bn] : List Addr)
  show Go p e below s (Q7 Z aa lv bt bs be bf bn bx tu fv rv kr gf gn_ h0 n0) ({ frames := 0, cells := 0, slots := 0, locals := 0 } : Room).cells ({ frames := 0, cells := 0, slots := 0, locals := 0 } : Room).slots (s₁.setTop (entryFrame m #[(.ref aa), (.int lv)] 2))
  rw [ef_7]
  show Go _ _ _ _ _ _ _ (s₁.setTop (mkF m 0 #[.val (.ref aa), .val (.int lv)] []))
  refine Go.step (fun t k => XS.aloadN X0.here hx rfl (hb hby d7_0) rfl rfl k) ?_
  show Go _ _ _ _ _ _ _ (s₁.setTop (mkF m 1 #[.val (.ref aa), .val (.int lv)] [(.ref aa)]))
  obtain ⟨T1, X1, e1, st1⟩ := getF X0 hx hZ hown (host := "") (Or.inl (hw _ (List.mem_of_getElem? (i := 55) rfl))) Via.refl e0 F_records_aa (g := (mkF m 1 #[.val (.ref aa), .val (.int lv)] [(.ref aa)])) rfl rfl (hb hby d7_1)
  refine Go.step st1 ?_
  show Go _ _ _ _ _ _ _ (T1.setTop (mkF m 4 #[.val (.ref aa), .val (.int lv)] [(.int rv)]))
  refine Go.step (fun t k => XS.iconst X1.here hx rfl (hb hby d7_4) k) ?_
  show Go _ _ _ _ _ _ _ (T1.setTop (mkF m 5 #[.val (.ref aa), .val (.int lv)] [(.int (1 : Int32)), (.int rv)]))
  refine Go.step (fun t k => XS.iadd X1.here hx rfl (hb hby d7_5) rfl k) ?_
  show Go _ _ _ _ _ _ _ (T1.setTop (mkF m 6 #[.val (.ref aa), .val (.int lv)] [(.int (rv + (1 : Int32)))]))
  refine Go.step (fun t k => XS.aloadN X1.here hx rfl (hb hby d7_6) rfl rfl k) ?_
  show Go _ _ _ _ _ _ _ (T1.setTop (mkF m 7 #[.val (.ref aa), .val (.int lv)] [(.ref aa), (.int (rv + (1 : Int32)))]))
  obtain ⟨T2, X2, e2, st2⟩ := getF X1 hx hZ hown (host := "") (Or.inl (hw _ (List.mem_of_getElem? (i := 42) rfl))) Via.refl e1 F_firstFields_aa (g := (mkF m 7 #[.val (.ref aa), .val (.int lv)] [(.ref aa), (.int (rv + (1 : Int32)))])) rfl rfl (hb hby d7_7)
  refine Go.step st2 ?_
  show Go _ _ _ _ _ _ _ (T2.setTop (mkF m 10 #[.val (.ref aa), .val (.int lv)] [(.ref bf), (.int (rv + (1 : Int32)))]))
  refine Go.step (own_len X2 hx hZ e2 A_bf (z := (64 : Int32)) rfl (f := (mkF m 10 #[.val (.ref aa), .val (.int lv)] [(.ref bf), (.int (rv + (1 : Int32)))])) rfl rfl (hb hby d7_10)) ?_
  show Go _ _ _ _ _ _ _ (T2.setTop (mkF m 11 #[.val (.ref aa), .val (.int lv)] [(.int (64 : Int32)), (.int (rv + (1 : Int32)))]))
  refine Go.step (fun t k => XS.icmpYes X2.here hx rfl (pc0 := 11) (pc' := 68) rfl (hb hby d7_11) rfl (feq (own_neq_ (j := 64) (own_inc hrv (by omega)) rfl (by omega) : ¬ (rv + (1 : Int32)) = (64 : Int32))).2 (by decide) (by decide) k) ?_
  show Go _ _ _ _ _ _ _ (T2.setTop (mkF m 68 #[.val (.ref aa), .val (.int lv)] []))
  refine Go.step (fun t k => XS.aloadN X2.here hx rfl (hb hby d7_68) rfl rfl k) ?_
  show Go _ _ _ _ _ _ _ (T2.setTop (mkF m 69 #[.val (.ref aa), .val (.int lv)] [(.ref aa)]))
  obtain ⟨T4, X4, e4, st4⟩ := getF X2 hx hZ hown (host := "") (Or.inl (hw _ (List.mem_of_getElem? (i := 42) rfl))) Via.refl e2 F_firstFields_aa (g := (mkF m 69 #[.val (.ref aa), .val (.int lv)] [(.ref aa)])) rfl rfl (hb hby d7_69)
  refine Go.step st4 ?_
  show Go _ _ _ _ _ _ _ (T4.setTop (mkF m 72 #[.val (.ref aa), .val (.int lv)] [(.ref bf)]))
  refine Go.step (fun t k => XS.aloadN X4.here hx rfl (hb hby d7_72) rfl rfl k) ?_
  show Go _ _ _ _ _ _ _ (T4.setTop (mkF m 73 #[.val (.ref aa), .val (.int lv)] [(.ref aa), (.ref bf)]))
  obtain ⟨T5, X5, e5, st5⟩ := getF X4 hx hZ hown (host := "") (Or.inl (hw _ (List.mem_of_getElem? (i := 55) rfl))) Via.refl e4 F_records_aa (g := (mkF m 73 #[.val (.ref aa), .val (.int lv)] [(.ref aa), (.ref bf)])) rfl rfl (hb hby d7_73)
  refine Go.step st5 ?_
  show Go _ _ _ _ _ _ _ (T5.setTop (mkF m 76 #[.val (.ref aa), .val (.int lv)] [(.int rv), (.ref bf)]))
  refine Go.step (fun t k => XS.aloadN X5.here hx rfl (hb hby d7_76) rfl rfl k) ?_
  show Go _ _ _ _ _ _ _ (T5.setTop (mkF m 77 #[.val (.ref aa), .val (.int lv)] [(.ref aa), (.int rv), (.ref bf)]))
  obtain ⟨T6, X6, e6, st6⟩ := getF X5 hx hZ hown (host := "") (Or.inl (hw _ (List.mem_of_getElem? (i := 57) rfl))) Via.refl e5 F_fields_aa (g := (mkF m 77 #[.val (.ref aa), .val (.int lv)] [(.ref aa), (.int rv), (.ref bf)])) rfl rfl (hb hby d7_77)
  refine Go.step st6 ?_
  show Go _ _ _ _ _ _ _ (T6.setTop (mkF m 80 #[.val (.ref aa), .val (.int lv)] [(.int fv), (.int rv), (.ref bf)]))
  obtain ⟨T7, h7, X7, e7, W7, st7⟩ := own_stI X6 hx hZ e6 A_bf kr hrv (by omega) (f := (mkF m 80 #[.val (.ref aa), .val (.int lv)] [(.int fv), (.int rv), (.ref bf)])) rfl rfl (hb hby d7_80)
  replace F_text_aa := F_text_aa.other W7 (Or.inl ne_aa_bf)
  replace F_starts_aa := F_starts_aa.other W7 (Or.inl ne_aa_bf)
  replace F_ends_aa := F_ends_aa.other W7 (Or.inl ne_aa_bf)
  replace F_firstFields_aa := F_firstFields_aa.other W7 (Or.inl ne_aa_bf)
  replace F_lines_aa := F_lines_aa.other W7 (Or.inl ne_aa_bf)
  replace F_faults_aa := F_faults_aa.other W7 (Or.inl ne_aa_bf)
  replace F_textUsed_aa := F_textUsed_aa.other W7 (Or.inl ne_aa_bf)
  replace F_fields_aa := F_fields_aa.other W7 (Or.inl ne_aa_bf)
  replace F_records_aa := F_records_aa.other W7 (Or.inl ne_aa_bf)
  replace E_aa := E_aa.wr W7
  replace A_bn := A_bn.other W7 (Ne.symm ne_bf_bn)
  have Z7 := Nat.le_trans Z0 (Keep.of_wr W7).1
  have N7 := Fr.snoc X7 N0 g_bf
  have K7 := K0.wr W7 (Or.inl (List.mem_of_getElem? (i := 0) rfl))
  replace A_bf := A_bf.setI W7
  refine Go.step st7 ?_
  show Go _ _ _ _ _ _ _ (T7.setTop (mkF m 81 #[.val (.ref aa), .val (.int lv)] []))
  refine Go.step (fun t k => XS.aloadN X7.here hx rfl (hb hby d7_81) rfl rfl k) ?_
  show Go _ _ _ _ _ _ _ (T7.setTop (mkF m 82 #[.val (.ref aa), .val (.int lv)] [(.ref aa)]))
  obtain ⟨T8, X8, e8, st8⟩ := getF X7 hx hZ hown (host := "") (Or.inl (hw _ (List.mem_of_getElem? (i := 44) rfl))) Via.refl e7 F_lines_aa (g := (mkF m 82 #[.val (.ref aa), .val (.int lv)] [(.ref aa)])) rfl rfl (hb hby d7_82)
  refine Go.step st8 ?_
  show Go _ _ _ _ _ _ _ (T8.setTop (mkF m 85 #[.val (.ref aa), .val (.int lv)] [(.ref bn)]))
  refine Go.step (fun t k => XS.aloadN X8.here hx rfl (hb hby d7_85) rfl rfl k) ?_
  show Go _ _ _ _ _ _ _ (T8.setTop (mkF m 86 #[.val (.ref aa), .val (.int lv)] [(.ref aa), (.ref bn)]))
  obtain ⟨T9, X9, e9, st9⟩ := getF X8 hx hZ hown (host := "") (Or.inl (hw _ (List.mem_of_getElem? (i := 55) rfl))) Via.refl e8 F_records_aa (g := (mkF m 86 #[.val (.ref aa), .val (.int lv)] [(.ref aa), (.ref bn)])) rfl rfl (hb hby d7_86)
  refine Go.step st9 ?_
  show Go _ _ _ _ _ _ _ (T9.setTop (mkF m 89 #[.val (.ref aa), .val (.int lv)] [(.int rv), (.ref bn)]))
  refine Go.step (fun t k => XS.iloadN X9.here hx rfl (hb hby d7_89) rfl k) ?_
  show Go _ _ _ _ _ _ _ (T9.setTop (mkF m 90 #[.val (.ref aa), .val (.int lv)] [(.int lv), (.int rv), (.ref bn)]))
  obtain ⟨T10, h10, X10, e10, W10, st10⟩ := own_stI X9 hx hZ e9 A_bn kr hrv (by omega) (f := (mkF m 90 #[.val (.ref aa), .val (.int lv)] [(.int lv), (.int rv), (.ref bn)])) rfl rfl (hb hby d7_90)
  replace F_text_aa := F_text_aa.other W10 (Or.inl ne_aa_bn)
  replace F_starts_aa := F_starts_aa.other W10 (Or.inl ne_aa_bn)
  replace F_ends_aa := F_ends_aa.other W10 (Or.inl ne_aa_bn)
  replace F_firstFields_aa := F_firstFields_aa.other W10 (Or.inl ne_aa_bn)
  replace F_lines_aa := F_lines_aa.other W10 (Or.inl ne_aa_bn)
  replace F_faults_aa := F_faults_aa.other W10 (Or.inl ne_aa_bn)
  replace F_textUsed_aa := F_textUsed_aa.other W10 (Or.inl ne_aa_bn)
  replace F_fields_aa := F_fields_aa.other W10 (Or.inl ne_aa_bn)
  replace F_records_aa := F_records_aa.other W10 (Or.inl ne_aa_bn)
  replace E_aa := E_aa.wr W10
  replace A_bf := A_bf.other W10 ne_bf_bn
  have Z10 := Nat.le_trans Z7 (Keep.of_wr W10).1
  have N10 := Fr.snoc X10 N7 g_bn
  have K10 := K7.wr W10 (Or.inl (List.mem_of_getElem? (i := 1) rfl))
  replace A_bn := A_bn.setI W10
  refine Go.step st10 ?_
  show Go _ _ _ _ _ _ _ (T10.setTop (mkF m 91 #[.val (.ref aa), .val (.int lv)] []))
  refine Go.retV X10 Bd.notSynchronized hx Bd.returns (hb hby d7_91) (by decide) (by decide) ?_
  rw [e10]
  exact ⟨rfl, N10, K10, A_bf, A_bn⟩
theorem d9_0 : decode prog_63_method_4_code 0 = .ok (.aload_n 0, 1) := by decide +kernel
theorem d9_1 : decode prog_63_method_4_code 1 = .ok (.dup, 1) := by decide +kernel
theorem d9_2 : decode prog_63_method_4_code 2 = .ok (.getfield 39, 3) := by decide +kernel
theorem d9_5 : decode prog_63_method_4_code 5 = .ok (.iconst 1, 1) := by decide +kernel
theorem d9_6 : decode prog_63_method_4_code 6 = .ok (.iadd, 1) := by decide +kernel
theorem d9_7 : decode prog_63_method_4_code 7 = .ok (.putfield 39, 3) := by decide +kernel
theorem d9_10 : decode prog_63_method_4_code 10 = .ok (.aload_n 0, 1) := by decide +kernel
theorem d9_11 : decode prog_63_method_4_code 11 = .ok (.getfield 20, 3) := by decide +kernel
theorem d9_14 : decode prog_63_method_4_code 14 = .ok (.aload_n 0, 1) := by decide +kernel
theorem d9_15 : decode prog_63_method_4_code 15 = .ok (.getfield 39, 3) := by decide +kernel
theorem d9_18 : decode prog_63_method_4_code 18 = .ok (.aload_n 0, 1) := by decide +kernel
theorem d9_19 : decode prog_63_method_4_code 19 = .ok (.getfield 36, 3) := by decide +kernel
theorem d9_22 : decode prog_63_method_4_code 22 = .ok (.iastore, 1) := by decide +kernel
theorem d9_23 : decode prog_63_method_4_code 23 = .ok (.return_, 1) := by decide +kernel
theorem pn_9 : plainName "com/example/vestwright/vestwright/io/Records" = true := by first | (simp [plainName, overriddenIn]; done) | decide +kernel
theorem ef_9 (m : MethodId) (x0 : Addr) : entryFrame m #[(.ref x0)] 1 = mkF m 0 #[.val (.ref x0)] [] := by first | (simp [entryFrame, mkF, argsToLocals, Value.category]; done) | rfl
def Q9 (Z : State) (aa : Addr) (bt : Addr) (bs : Addr) (be : Addr) (bf : Addr) (bn : Addr) (bx : Addr) (tu : Int32) (fv : Int32) (rv : Int32) (kr : Nat) (gf : Nat → Int32) (h0 : Heap) (n0 : Nat) (v : Option Value) (h : Heap) (L : List Loc) : Prop := v = none ∧ Fr n0 L ∧ Keep h0 h [aa, bf] ∧ Fld Z h aa "com/example/vestwright/vestwright/io/Records" "text" "[C" (.ref bt) ∧ Fld Z h aa "com/example/vestwright/vestwright/io/Records" "starts" "[I" (.ref bs) ∧ Fld Z h aa "com/example/vestwright/vestwright/io/Records" "ends" "[I" (.ref be) ∧ Fld Z h aa "com/example/vestwright/vestwright/io/Records" "firstFields" "[I" (.ref bf) ∧ Fld Z h aa "com/example/vestwright/vestwright/io/Records" "lines" "[I" (.ref bn) ∧ Fld Z h aa "com/example/vestwright/vestwright/io/Records" "faults" "[Lcom/example/vestwright/vestwright/io/CsvFormatException;" (.ref bx) ∧ Fld Z h aa "com/example/vestwright/vestwright/io/Records" "textUsed" "I" (.int tu) ∧ Fld Z h aa "com/example/vestwright/vestwright/io/Records" "fields" "I" (.int fv) ∧ Fld Z h aa "com/example/vestwright/vestwright/io/Records" "records" "I" (.int (rv + (1 : Int32))) ∧ AryI Z h bf .int 64 (up gf (kr + 1) fv)
set_option maxRecDepth 65536 in
set_option maxHeartbeats 40000000 in
theorem rm9 (l : Launch) (Z : State) (a0 : Array Value) (hw : ∀ d ∈ tables_1, d.before a0 Z = true) (ws : List Jvm.Cond) (aa : Addr) (bt : Addr) (bs : Addr) (be : Addr) (bf : Addr) (bn : Addr) (bx : Addr) (tu : Int32) (fv : Int32) (rv : Int32) (kr : Nat) (gf : Nat → Int32) (h0 : Heap) (n0 : Nat) (Z0 : n0 ≤ h0.size) (F_text_aa : Fld Z h0 aa "com/example/vestwright/vestwright/io/Records" "text" "[C" (.ref bt)) (F_starts_aa : Fld Z h0 aa "com/example/vestwright/vestwright/io/Records" "starts" "[I" (.ref bs)) (F_ends_aa : Fld Z h0 aa "com/example/vestwright/vestwright/io/Records" "ends" "[I" (.ref be)) (F_firstFields_aa : Fld Z h0 aa "com/example/vestwright/vestwright/io/Records" "firstFields" "[I" (.ref bf)) (F_lines_aa : Fld Z h0 aa "com/example/vestwright/vestwright/io/Records" "lines" "[I" (.ref bn)) (F_faults_aa : Fld Z h0 aa "com/example/vestwright/vestwright/io/Records" "faults" "[Lcom/example/vestwright/vestwright/io/CsvFormatException;" (.ref bx)) (F_textUsed_aa : Fld Z h0 aa "com/example/vestwright/vestwright/io/Records" "textUsed" "I" (.int tu)) (F_fields_aa : Fld Z h0 aa "com/example/vestwright/vestwright/io/Records" "fields" "I" (.int fv)) (F_records_aa : Fld Z h0 aa "com/example/vestwright/vestwright/io/Records" "records" "I" (.int rv)) (E_aa : Exa Z h0 aa "com/example/vestwright/vestwright/io/Records") (g_aa : n0 ≤ aa) (g_bf : n0 ≤ bf) (A_bf : AryI Z h0 bf .int 64 gf) (ne_aa_bf : aa ≠ bf) (hrv : (rv.toInt = (kr : Int))) (hkr : (kr < 63)) :
    MetFree l (⟨"com/example/vestwright/vestwright/io/Records", "endRecord", "()V"⟩ : MethodName) (head1 (Jvm.Cond.code (⟨"com/example/vestwright/vestwright/io/Records", "endRecord", "()V"⟩ : MethodName) prog_63_method_4_code 1 none :: ws) ({ frames := 0, cells := 0, slots := 0, locals := 0 } : Room)) (fun a U => a = #[(.ref aa)] ∧ Z.Warmed39 U.vm ∧ U.heap = h0) (fun _ _ _ _ _ => True) (fun _ U o U' => ∃ v L, o = .returned v ∧ Q9 Z aa bt bs be bf bn bx tu fv rv kr gf h0 n0 v U'.heap L ∧ FrameEnd U o U' L ({ frames := 0, cells := 0, slots := 0, locals := 0 } : Room).cells ({ frames := 0, cells := 0, slots := 0, locals := 0 } : Room).slots) := by
  refine MetFree.of_bodySF (plainFor_of_name pn_9) hisR ?_
  intro p e s m args below meth c s₁ Bd hml0 hP hK
  obtain ⟨rfl, hZ, hh⟩ := hP
  have hx := Bd.exec
  have hby := Bd.bytes
  have hml : c.maxLocals = 1 := hml0
  have hown : s.vm.findClass "com/example/vestwright/vestwright/io/Records" = some m.cls := findClass_of_methodNamed Bd.named
  have hnm := (name_of_methodNamed Bd.named Bd.method).1
  have X0 : Stand p l e ({ frames := 0, cells := 0, slots := 0, locals := 0 } : Room) s m #[(.ref aa)] below meth c s₁ [] 0 0 := Stand.of_body Bd
  have e0 : s₁.heap = h0 := by rw [← hh, Bd.state]; rfl
  have N0 := Fr.nil n0
  have K0 := Keep.refl h0 ([aa, bf] : List Addr)
  show Go p e below s (Q9 Z aa bt bs be bf bn bx tu fv rv kr gf h0 n0) ({ frames := 0, cells := 0, slots := 0, locals := 0 } : Room).cells ({ frames := 0, cells := 0, slots := 0, locals := 0 } : Room).slots (s₁.setTop (entryFrame m #[(.ref aa)] 1))
  rw [ef_9]
  show Go _ _ _ _ _ _ _ (s₁.setTop (mkF m 0 #[.val (.ref aa)] []))
  refine Go.step (fun t k => XS.aloadN X0.here hx rfl (hb hby d9_0) rfl rfl k) ?_
  show Go _ _ _ _ _ _ _ (s₁.setTop (mkF m 1 #[.val (.ref aa)] [(.ref aa)]))
  refine Go.step (fun t k => XS.dup X0.here hx rfl (hb hby d9_1) rfl rfl k) ?_
  show Go _ _ _ _ _ _ _ (s₁.setTop (mkF m 2 #[.val (.ref aa)] [(.ref aa), (.ref aa)]))
  obtain ⟨T1, X1, e1, st1⟩ := getF X0 hx hZ hown (host := "") (Or.inl (hw _ (List.mem_of_getElem? (i := 55) rfl))) Via.refl e0 F_records_aa (g := (mkF m 2 #[.val (.ref aa)] [(.ref aa), (.ref aa)])) rfl rfl (hb hby d9_2)
  refine Go.step st1 ?_
  show Go _ _ _ _ _ _ _ (T1.setTop (mkF m 5 #[.val (.ref aa)] [(.int rv), (.ref aa)]))
  refine Go.step (fun t k => XS.iconst X1.here hx rfl (hb hby d9_5) k) ?_
  show Go _ _ _ _ _ _ _ (T1.setTop (mkF m 6 #[.val (.ref aa)] [(.int (1 : Int32)), (.int rv), (.ref aa)]))
  refine Go.step (fun t k => XS.iadd X1.here hx rfl (hb hby d9_6) rfl k) ?_
  show Go _ _ _ _ _ _ _ (T1.setTop (mkF m 7 #[.val (.ref aa)] [(.int (rv + (1 : Int32))), (.ref aa)]))
  obtain ⟨T2, h2, X2, e2, W2, st2⟩ := putF X1 hx hZ hown (host := "") (Or.inl (hw _ (List.mem_of_getElem? (i := 55) rfl))) Via.refl e1 F_records_aa E_aa (Or.inl (hw _ (List.mem_of_getElem? (i := 56) rfl))) (hw _ (List.mem_of_getElem? (i := 28) rfl)) (ty := .int) (by decide) rfl rfl (g := (mkF m 7 #[.val (.ref aa)] [(.int (rv + (1 : Int32))), (.ref aa)])) rfl rfl (hb hby d9_7)
  replace F_text_aa := F_text_aa.other W2 (Or.inr (slot_ne (Or.inl (hw _ (List.mem_of_getElem? (i := 36) rfl))) (Or.inl (hw _ (List.mem_of_getElem? (i := 56) rfl))) (by decide) (t := (.array .char)) (t' := .int) (by decide) (by decide)))
  replace F_starts_aa := F_starts_aa.other W2 (Or.inr (slot_ne (Or.inl (hw _ (List.mem_of_getElem? (i := 39) rfl))) (Or.inl (hw _ (List.mem_of_getElem? (i := 56) rfl))) (by decide) (t := (.array .int)) (t' := .int) (by decide) (by decide)))
  replace F_ends_aa := F_ends_aa.other W2 (Or.inr (slot_ne (Or.inl (hw _ (List.mem_of_getElem? (i := 41) rfl))) (Or.inl (hw _ (List.mem_of_getElem? (i := 56) rfl))) (by decide) (t := (.array .int)) (t' := .int) (by decide) (by decide)))
  replace F_firstFields_aa := F_firstFields_aa.other W2 (Or.inr (slot_ne (Or.inl (hw _ (List.mem_of_getElem? (i := 43) rfl))) (Or.inl (hw _ (List.mem_of_getElem? (i := 56) rfl))) (by decide) (t := (.array .int)) (t' := .int) (by decide) (by decide)))
  replace F_lines_aa := F_lines_aa.other W2 (Or.inr (slot_ne (Or.inl (hw _ (List.mem_of_getElem? (i := 45) rfl))) (Or.inl (hw _ (List.mem_of_getElem? (i := 56) rfl))) (by decide) (t := (.array .int)) (t' := .int) (by decide) (by decide)))
  replace F_faults_aa := F_faults_aa.other W2 (Or.inr (slot_ne (Or.inl (hw _ (List.mem_of_getElem? (i := 49) rfl))) (Or.inl (hw _ (List.mem_of_getElem? (i := 56) rfl))) (by decide) (t := (.array (.object "com/example/vestwright/vestwright/io/CsvFormatException"))) (t' := .int) (by decide) (by decide)))
  replace F_textUsed_aa := F_textUsed_aa.other W2 (Or.inr (slot_ne (Or.inl (hw _ (List.mem_of_getElem? (i := 97) rfl))) (Or.inl (hw _ (List.mem_of_getElem? (i := 56) rfl))) (by decide) (t := .int) (t' := .int) (by decide) (by decide)))
  replace F_fields_aa := F_fields_aa.other W2 (Or.inr (slot_ne (Or.inl (hw _ (List.mem_of_getElem? (i := 58) rfl))) (Or.inl (hw _ (List.mem_of_getElem? (i := 56) rfl))) (by decide) (t := .int) (t' := .int) (by decide) (by decide)))
  replace E_aa := E_aa.wr W2
  replace A_bf := A_bf.other W2 (Ne.symm ne_aa_bf)
  have Z2 := Nat.le_trans Z0 (Keep.of_wr W2).1
  have N2 := Fr.snoc X2 N0 g_aa
  have K2 := K0.wr W2 (Or.inl (List.mem_of_getElem? (i := 0) rfl))
  replace F_records_aa := F_records_aa.same W2
  refine Go.step st2 ?_
  show Go _ _ _ _ _ _ _ (T2.setTop (mkF m 10 #[.val (.ref aa)] []))
  refine Go.step (fun t k => XS.aloadN X2.here hx rfl (hb hby d9_10) rfl rfl k) ?_
  show Go _ _ _ _ _ _ _ (T2.setTop (mkF m 11 #[.val (.ref aa)] [(.ref aa)]))
  obtain ⟨T3, X3, e3, st3⟩ := getF X2 hx hZ hown (host := "") (Or.inl (hw _ (List.mem_of_getElem? (i := 42) rfl))) Via.refl e2 F_firstFields_aa (g := (mkF m 11 #[.val (.ref aa)] [(.ref aa)])) rfl rfl (hb hby d9_11)
  refine Go.step st3 ?_
  show Go _ _ _ _ _ _ _ (T3.setTop (mkF m 14 #[.val (.ref aa)] [(.ref bf)]))
  refine Go.step (fun t k => XS.aloadN X3.here hx rfl (hb hby d9_14) rfl rfl k) ?_
  show Go _ _ _ _ _ _ _ (T3.setTop (mkF m 15 #[.val (.ref aa)] [(.ref aa), (.ref bf)]))
  obtain ⟨T4, X4, e4, st4⟩ := getF X3 hx hZ hown (host := "") (Or.inl (hw _ (List.mem_of_getElem? (i := 55) rfl))) Via.refl e3 F_records_aa (g := (mkF m 15 #[.val (.ref aa)] [(.ref aa), (.ref bf)])) rfl rfl (hb hby d9_15)
  refine Go.step st4 ?_
  show Go _ _ _ _ _ _ _ (T4.setTop (mkF m 18 #[.val (.ref aa)] [(.int (rv + (1 : Int32))), (.ref bf)]))
  refine Go.step (fun t k => XS.aloadN X4.here hx rfl (hb hby d9_18) rfl rfl k) ?_
  show Go _ _ _ _ _ _ _ (T4.setTop (mkF m 19 #[.val (.ref aa)] [(.ref aa), (.int (rv + (1 : Int32))), (.ref bf)]))
  obtain ⟨T5, X5, e5, st5⟩ := getF X4 hx hZ hown (host := "") (Or.inl (hw _ (List.mem_of_getElem? (i := 57) rfl))) Via.refl e4 F_fields_aa (g := (mkF m 19 #[.val (.ref aa)] [(.ref aa), (.int (rv + (1 : Int32))), (.ref bf)])) rfl rfl (hb hby d9_19)
  refine Go.step st5 ?_
  show Go _ _ _ _ _ _ _ (T5.setTop (mkF m 22 #[.val (.ref aa)] [(.int fv), (.int (rv + (1 : Int32))), (.ref bf)]))
  obtain ⟨T6, h6, X6, e6, W6, st6⟩ := own_stI X5 hx hZ e5 A_bf (kr + 1) (own_inc hrv (by omega)) (by omega) (f := (mkF m 22 #[.val (.ref aa)] [(.int fv), (.int (rv + (1 : Int32))), (.ref bf)])) rfl rfl (hb hby d9_22)
  replace F_text_aa := F_text_aa.other W6 (Or.inl ne_aa_bf)
  replace F_starts_aa := F_starts_aa.other W6 (Or.inl ne_aa_bf)
  replace F_ends_aa := F_ends_aa.other W6 (Or.inl ne_aa_bf)
  replace F_firstFields_aa := F_firstFields_aa.other W6 (Or.inl ne_aa_bf)
  replace F_lines_aa := F_lines_aa.other W6 (Or.inl ne_aa_bf)
  replace F_faults_aa := F_faults_aa.other W6 (Or.inl ne_aa_bf)
  replace F_textUsed_aa := F_textUsed_aa.other W6 (Or.inl ne_aa_bf)
  replace F_fields_aa := F_fields_aa.other W6 (Or.inl ne_aa_bf)
  replace F_records_aa := F_records_aa.other W6 (Or.inl ne_aa_bf)
  replace E_aa := E_aa.wr W6
  have Z6 := Nat.le_trans Z2 (Keep.of_wr W6).1
  have N6 := Fr.snoc X6 N2 g_bf
  have K6 := K2.wr W6 (Or.inl (List.mem_of_getElem? (i := 1) rfl))
  replace A_bf := A_bf.setI W6
  refine Go.step st6 ?_
  show Go _ _ _ _ _ _ _ (T6.setTop (mkF m 23 #[.val (.ref aa)] []))
  refine Go.retV X6 Bd.notSynchronized hx Bd.returns (hb hby d9_23) (by decide) (by decide) ?_
  rw [e6]
  exact ⟨rfl, N6, K6, F_text_aa, F_starts_aa, F_ends_aa, F_firstFields_aa, F_lines_aa, F_faults_aa, F_textUsed_aa, F_fields_aa, F_records_aa, A_bf⟩
theorem d2_0 : decode jdk_43_method_3_code 0 = .ok (.iload_n 0, 1) := by decide +kernel
theorem d2_1 : decode jdk_43_method_3_code 1 = .ok (.sipush 255, 3) := by decide +kernel
theorem d2_4 : decode jdk_43_method_3_code 4 = .ok (.if_icmp .gt 7, 3) := by decide +kernel
theorem d2_7 : decode jdk_43_method_3_code 7 = .ok (.iconst 1, 1) := by decide +kernel
theorem d2_8 : decode jdk_43_method_3_code 8 = .ok (.goto 4, 3) := by decide +kernel
theorem d2_12 : decode jdk_43_method_3_code 12 = .ok (.ireturn, 1) := by decide +kernel
theorem pn_2 : plainName "java/lang/StringLatin1" = true := by first | (simp [plainName, overriddenIn]; done) | decide +kernel
theorem ef_2 (m : MethodId) (x0 : Int32) : entryFrame m #[(.int x0)] 1 = mkF m 0 #[.val (.int x0)] [] := by first | (simp [entryFrame, mkF, argsToLocals, Value.category]; done) | rfl
def Q2 (Z : State) (cv : Int32) (h0 : Heap) (n0 : Nat) (v : Option Value) (h : Heap) (L : List Loc) : Prop := v = some (.int (1 : Int32)) ∧ Fr n0 L ∧ h = h0
set_option maxRecDepth 65536 in
set_option maxHeartbeats 40000000 in
theorem rm2 (l : Launch) (Z : State) (a0 : Array Value) (hw : ∀ d ∈ tables_1, d.before a0 Z = true) (ws : List Jvm.Cond) (cv : Int32) (h0 : Heap) (n0 : Nat) (Z0 : n0 ≤ h0.size) (h255 : (¬ (255 : Int32) < cv)) :
    MetFree l (⟨"java/lang/StringLatin1", "canEncode", "(C)Z"⟩ : MethodName) (head1 (Jvm.Cond.code (⟨"java/lang/StringLatin1", "canEncode", "(C)Z"⟩ : MethodName) jdk_43_method_3_code 1 (some .boolean) :: ws) ({ frames := 0, cells := 0, slots := 0, locals := 0 } : Room)) (fun a U => a = #[(.int cv)] ∧ Z.Warmed39 U.vm ∧ U.heap = h0) (fun _ _ _ _ _ => True) (fun _ U o U' => ∃ v L, o = .returned v ∧ Q2 Z cv h0 n0 v U'.heap L ∧ FrameEnd U o U' L ({ frames := 0, cells := 0, slots := 0, locals := 0 } : Room).cells ({ frames := 0, cells := 0, slots := 0, locals := 0 } : Room).slots) := by
  refine MetFree.of_bodySF (plainFor_of_name pn_2) hisR ?_
  intro p e s m args below meth c s₁ Bd hml0 hP hK
  obtain ⟨rfl, hZ, hh⟩ := hP
  have hx := Bd.exec
  have hby := Bd.bytes
  have hml : c.maxLocals = 1 := hml0
  have hown : s.vm.findClass "java/lang/StringLatin1" = some m.cls := findClass_of_methodNamed Bd.named
  have hnm := (name_of_methodNamed Bd.named Bd.method).1
  have X0 : Stand p l e ({ frames := 0, cells := 0, slots := 0, locals := 0 } : Room) s m #[(.int cv)] below meth c s₁ [] 0 0 := Stand.of_body Bd
  have e0 : s₁.heap = h0 := by rw [← hh, Bd.state]; rfl
  have N0 := Fr.nil n0
  show Go p e below s (Q2 Z cv h0 n0) ({ frames := 0, cells := 0, slots := 0, locals := 0 } : Room).cells ({ frames := 0, cells := 0, slots := 0, locals := 0 } : Room).slots (s₁.setTop (entryFrame m #[(.int cv)] 1))
  rw [ef_2]
  show Go _ _ _ _ _ _ _ (s₁.setTop (mkF m 0 #[.val (.int cv)] []))
  refine Go.step (fun t k => XS.iloadN X0.here hx rfl (hb hby d2_0) rfl k) ?_
  show Go _ _ _ _ _ _ _ (s₁.setTop (mkF m 1 #[.val (.int cv)] [(.int cv)]))
  refine Go.step (fun t k => XS.sipush X0.here hx rfl (hb hby d2_1) k) ?_
  show Go _ _ _ _ _ _ _ (s₁.setTop (mkF m 4 #[.val (.int cv)] [(.int (255 : Int32)), (.int cv)]))
  refine Go.step (fun t k => XS.icmpNo X0.here hx rfl (hb hby d2_4) rfl (flt (h255 : ¬ (255 : Int32) < cv)).2.2.1 k) ?_
  show Go _ _ _ _ _ _ _ (s₁.setTop (mkF m 7 #[.val (.int cv)] []))
  refine Go.step (fun t k => XS.iconst X0.here hx rfl (hb hby d2_7) k) ?_
  show Go _ _ _ _ _ _ _ (s₁.setTop (mkF m 8 #[.val (.int cv)] [(.int (1 : Int32))]))
  refine Go.step (fun t k => XS.goto X0.here hx rfl (pc0 := 8) (pc' := 12) rfl (hb hby d2_8) (by decide) (by decide) k) ?_
  show Go _ _ _ _ _ _ _ (s₁.setTop (mkF m 12 #[.val (.int cv)] [(.int (1 : Int32))]))
  refine Go.retN X0 Bd.notSynchronized hx (t := .boolean) Bd.returns (by simp) (hb hby d2_12) (by decide) (by decide) (1 : Int32) rfl ?_
  rw [e0]
  exact ⟨rfl, N0, rfl⟩
theorem d3_0 : decode jdk_43_method_46_code 0 = .ok (.iconst 1, 1) := by decide +kernel
theorem d3_1 : decode jdk_43_method_46_code 1 = .ok (.newarray .byte, 2) := by decide +kernel
theorem d3_3 : decode jdk_43_method_46_code 3 = .ok (.dup, 1) := by decide +kernel
theorem d3_4 : decode jdk_43_method_46_code 4 = .ok (.iconst 0, 1) := by decide +kernel
theorem d3_5 : decode jdk_43_method_46_code 5 = .ok (.iload_n 0, 1) := by decide +kernel
theorem d3_6 : decode jdk_43_method_46_code 6 = .ok (.i2b, 1) := by decide +kernel
theorem d3_7 : decode jdk_43_method_46_code 7 = .ok (.bastore, 1) := by decide +kernel
theorem d3_8 : decode jdk_43_method_46_code 8 = .ok (.areturn, 1) := by decide +kernel
theorem pn_3 : plainName "java/lang/StringLatin1" = true := by first | (simp [plainName, overriddenIn]; done) | decide +kernel
theorem ef_3 (m : MethodId) (x0 : Int32) : entryFrame m #[(.int x0)] 1 = mkF m 0 #[.val (.int x0)] [] := by first | (simp [entryFrame, mkF, argsToLocals, Value.category]; done) | rfl
def Q3 (Z : State) (cv : Int32) (h0 : Heap) (n0 : Nat) (v : Option Value) (h : Heap) (L : List Loc) : Prop := ∃ bv : Addr, v = some (.ref bv) ∧ Fr n0 L ∧ Keep h0 h [] ∧ h0.size ≤ bv ∧ AryI Z h bv .byte 1 (up (fun _ => (0 : Int32)) 0 (nar .byte (cv.toInt8.toInt32)))
set_option maxRecDepth 65536 in
set_option maxHeartbeats 40000000 in
theorem rm3 (l : Launch) (Z : State) (a0 : Array Value) (hw : ∀ d ∈ tables_1, d.before a0 Z = true) (ws : List Jvm.Cond) (cv : Int32) (h0 : Heap) (n0 : Nat) (Z0 : n0 ≤ h0.size) :
    MetFree l (⟨"java/lang/StringLatin1", "toBytes", "(C)[B"⟩ : MethodName) (head1 (Jvm.Cond.code (⟨"java/lang/StringLatin1", "toBytes", "(C)[B"⟩ : MethodName) jdk_43_method_46_code 1 (some (.array .byte)) :: ws) ({ frames := 0, cells := 1, slots := 1, locals := 0 } : Room)) (fun a U => a = #[(.int cv)] ∧ Z.Warmed39 U.vm ∧ U.heap = h0) (fun _ _ _ _ _ => True) (fun _ U o U' => ∃ v L, o = .returned v ∧ Q3 Z cv h0 n0 v U'.heap L ∧ FrameEnd U o U' L ({ frames := 0, cells := 1, slots := 1, locals := 0 } : Room).cells ({ frames := 0, cells := 1, slots := 1, locals := 0 } : Room).slots) := by
  refine MetFree.of_bodySF (plainFor_of_name pn_3) hisR ?_
  intro p e s m args below meth c s₁ Bd hml0 hP hK
  obtain ⟨rfl, hZ, hh⟩ := hP
  have hx := Bd.exec
  have hby := Bd.bytes
  have hml : c.maxLocals = 1 := hml0
  have hown : s.vm.findClass "java/lang/StringLatin1" = some m.cls := findClass_of_methodNamed Bd.named
  have hnm := (name_of_methodNamed Bd.named Bd.method).1
  have X0 : Stand p l e ({ frames := 0, cells := 1, slots := 1, locals := 0 } : Room) s m #[(.int cv)] below meth c s₁ [] 0 0 := Stand.of_body Bd
  have e0 : s₁.heap = h0 := by rw [← hh, Bd.state]; rfl
  have N0 := Fr.nil n0
  have K0 := Keep.refl h0 ([] : List Addr)
  show Go p e below s (Q3 Z cv h0 n0) ({ frames := 0, cells := 1, slots := 1, locals := 0 } : Room).cells ({ frames := 0, cells := 1, slots := 1, locals := 0 } : Room).slots (s₁.setTop (entryFrame m #[(.int cv)] 1))
  rw [ef_3]
  show Go _ _ _ _ _ _ _ (s₁.setTop (mkF m 0 #[.val (.int cv)] []))
  refine Go.step (fun t k => XS.iconst X0.here hx rfl (hb hby d3_0) k) ?_
  show Go _ _ _ _ _ _ _ (s₁.setTop (mkF m 1 #[.val (.int cv)] [(.int (1 : Int32))]))
  obtain ⟨T1, h1, k1, X1, e1, E1, A1, st1⟩ := newP X0 hx hZ (hw _ (List.mem_of_getElem? (i := 15) rfl)) e0 (g := (mkF m 1 #[.val (.int cv)] [(.int (1 : Int32))])) rfl (hb hby d3_1) rfl (by decide) (cap := 1) (by decide) (by decide) (by decide) (by decide)
  obtain ⟨bv, gz1⟩ : ∃ z, z = h0.size := ⟨_, rfl⟩
  have g_bv : n0 ≤ bv := Nat.le_trans Z0 (Nat.le_of_eq gz1.symm)
  have sz_bv : h0.size ≤ bv := Nat.le_trans K0.1 (Nat.le_of_eq gz1.symm)
  rw [← gz1] at A1 st1
  have Z1 := Nat.le_trans Z0 E1.1
  have K1 := K0.ext E1
  have A_bv : AryI Z h1 bv .byte 1 (fun _ => (0 : Int32)) := Ary.new A1 rfl
  refine Go.step st1 ?_
  show Go _ _ _ _ _ _ _ (T1.setTop (mkF m 3 #[.val (.int cv)] [(.ref bv)]))
  refine Go.step (fun t k => XS.dup X1.here hx rfl (hb hby d3_3) rfl rfl k) ?_
  show Go _ _ _ _ _ _ _ (T1.setTop (mkF m 4 #[.val (.int cv)] [(.ref bv), (.ref bv)]))
  refine Go.step (fun t k => XS.iconst X1.here hx rfl (hb hby d3_4) k) ?_
  show Go _ _ _ _ _ _ _ (T1.setTop (mkF m 5 #[.val (.int cv)] [(.int (0 : Int32)), (.ref bv), (.ref bv)]))
  refine Go.step (fun t k => XS.iloadN X1.here hx rfl (hb hby d3_5) rfl k) ?_
  show Go _ _ _ _ _ _ _ (T1.setTop (mkF m 6 #[.val (.int cv)] [(.int cv), (.int (0 : Int32)), (.ref bv), (.ref bv)]))
  refine Go.step (fun t k => XS.i2b X1.here hx rfl (hb hby d3_6) rfl k) ?_
  show Go _ _ _ _ _ _ _ (T1.setTop (mkF m 7 #[.val (.int cv)] [(.int (cv.toInt8.toInt32)), (.int (0 : Int32)), (.ref bv), (.ref bv)]))
  obtain ⟨T2, h2, X2, e2, W2, st2⟩ := own_stB X1 hx hZ e1 A_bv 0 rfl (by decide) (f := (mkF m 7 #[.val (.int cv)] [(.int (cv.toInt8.toInt32)), (.int (0 : Int32)), (.ref bv), (.ref bv)])) rfl rfl (hb hby d3_7)
  have Z2 := Nat.le_trans Z1 (Keep.of_wr W2).1
  have N2 := Fr.snoc X2 N0 g_bv
  have K2 := K1.wr W2 (Or.inr sz_bv)
  replace A_bv := A_bv.setI W2
  refine Go.step st2 ?_
  show Go _ _ _ _ _ _ _ (T2.setTop (mkF m 8 #[.val (.int cv)] [(.ref bv)]))
  refine Go.retA X2 Bd.notSynchronized hx Bd.returns rfl rfl rfl (hb hby d3_8) (by decide) (by decide) ?_
  rw [e2]
  exact ⟨bv, rfl, N2, K2, sz_bv, A_bv⟩
theorem d4_0 : decode jdk_42_method_151_code 0 = .ok (.aload_n 0, 1) := by decide +kernel
theorem d4_1 : decode jdk_42_method_151_code 1 = .ok (.invokespecial 1, 3) := by decide +kernel
theorem d4_4 : decode jdk_42_method_151_code 4 = .ok (.aload_n 0, 1) := by decide +kernel
theorem d4_5 : decode jdk_42_method_151_code 5 = .ok (.aload_n 1, 1) := by decide +kernel
theorem d4_6 : decode jdk_42_method_151_code 6 = .ok (.putfield 9, 3) := by decide +kernel
theorem d4_9 : decode jdk_42_method_151_code 9 = .ok (.aload_n 0, 1) := by decide +kernel
theorem d4_10 : decode jdk_42_method_151_code 10 = .ok (.iload_n 2, 1) := by decide +kernel
theorem d4_11 : decode jdk_42_method_151_code 11 = .ok (.putfield 15, 3) := by decide +kernel
theorem d4_14 : decode jdk_42_method_151_code 14 = .ok (.return_, 1) := by decide +kernel
theorem pn_4 : plainName "java/lang/String" = true := by first | (simp [plainName, overriddenIn]; done) | decide +kernel
theorem ef_4 (m : MethodId) (x0 : Addr) (x1 : Addr) (x2 : Int32) : entryFrame m #[(.ref x0), (.ref x1), (.int x2)] 3 = mkF m 0 #[.val (.ref x0), .val (.ref x1), .val (.int x2)] [] := by first | (simp [entryFrame, mkF, argsToLocals, Value.category]; done) | rfl
def Q4 (Z : State) (aa : Addr) (bv : Addr) (cd : Int32) (h0 : Heap) (n0 : Nat) (v : Option Value) (h : Heap) (L : List Loc) : Prop := v = none ∧ Fr n0 L ∧ Keep h0 h [aa] ∧ Fld Z h aa "java/lang/String" "value" "[B" (.ref bv) ∧ Fld Z h aa "java/lang/String" "coder" "B" (.int (0 : Int32))
set_option maxRecDepth 65536 in
set_option maxHeartbeats 40000000 in
theorem rm4 (l : Launch) (Z : State) (a0 : Array Value) (hw : ∀ d ∈ tables_1, d.before a0 Z = true) (ws : List Jvm.Cond) (aa : Addr) (bv : Addr) (cd : Int32) (h0 : Heap) (n0 : Nat) (Z0 : n0 ≤ h0.size) (F_value_aa : Fld Z h0 aa "java/lang/String" "value" "[B" .null) (F_coder_aa : Fld Z h0 aa "java/lang/String" "coder" "B" (.int (0 : Int32))) (E_aa : Exa Z h0 aa "java/lang/String") (g_aa : n0 ≤ aa) (hcd : (cd = (0 : Int32))) :
    MetFree l (⟨"java/lang/String", "<init>", "([BB)V"⟩ : MethodName) (head1 (Jvm.Cond.code (⟨"java/lang/String", "<init>", "([BB)V"⟩ : MethodName) jdk_42_method_151_code 3 none :: ws) ({ frames := 1, cells := 0, slots := 0, locals := 12 } : Room)) (fun a U => a = #[(.ref aa), (.ref bv), (.int cd)] ∧ Z.Warmed39 U.vm ∧ U.heap = h0) (fun _ _ _ _ _ => True) (fun _ U o U' => ∃ v L, o = .returned v ∧ Q4 Z aa bv cd h0 n0 v U'.heap L ∧ FrameEnd U o U' L ({ frames := 1, cells := 0, slots := 0, locals := 12 } : Room).cells ({ frames := 1, cells := 0, slots := 0, locals := 12 } : Room).slots) := by
  refine MetFree.of_bodySF (plainFor_of_name pn_4) hisR ?_
  intro p e s m args below meth c s₁ Bd hml0 hP hK
  obtain ⟨rfl, hZ, hh⟩ := hP
  have hx := Bd.exec
  have hby := Bd.bytes
  have hml : c.maxLocals = 3 := hml0
  have hown : s.vm.findClass "java/lang/String" = some m.cls := findClass_of_methodNamed Bd.named
  have hnm := (name_of_methodNamed Bd.named Bd.method).1
  have X0 : Stand p l e ({ frames := 1, cells := 0, slots := 0, locals := 12 } : Room) s m #[(.ref aa), (.ref bv), (.int cd)] below meth c s₁ [] 0 0 := Stand.of_body Bd
  have e0 : s₁.heap = h0 := by rw [← hh, Bd.state]; rfl
  have N0 := Fr.nil n0
  have K0 := Keep.refl h0 ([aa] : List Addr)
  show Go p e below s (Q4 Z aa bv cd h0 n0) ({ frames := 1, cells := 0, slots := 0, locals := 12 } : Room).cells ({ frames := 1, cells := 0, slots := 0, locals := 12 } : Room).slots (s₁.setTop (entryFrame m #[(.ref aa), (.ref bv), (.int cd)] 3))
  rw [ef_4]
  show Go _ _ _ _ _ _ _ (s₁.setTop (mkF m 0 #[.val (.ref aa), .val (.ref bv), .val (.int cd)] []))
  refine Go.step (fun t k => XS.aloadN X0.here hx rfl (hb hby d4_0) rfl rfl k) ?_
  show Go _ _ _ _ _ _ _ (s₁.setTop (mkF m 1 #[.val (.ref aa), .val (.ref bv), .val (.int cd)] [(.ref aa)]))
  obtain ⟨T1, X1, e1, st1⟩ := initO X0 hx hZ hown (hw _ (List.mem_of_getElem? (i := 20) rfl)) (hw _ (List.mem_of_getElem? (i := 21) rfl)) (hw _ (List.mem_of_getElem? (i := 22) rfl)) e0 (g := (mkF m 1 #[.val (.ref aa), .val (.ref bv), .val (.int cd)] [(.ref aa)])) rfl (by rw [hml]; rfl) rfl (hb hby d4_1) (by decide) (W := 0) (by show 2 * 0 + _ ≤ _; exact Nat.le_of_eq rfl) (by decide)
  refine Go.step st1 ?_
  show Go _ _ _ _ _ _ _ (T1.setTop (mkF m 4 #[.val (.ref aa), .val (.ref bv), .val (.int cd)] []))
  refine Go.step (fun t k => XS.aloadN X1.here hx rfl (hb hby d4_4) rfl rfl k) ?_
  show Go _ _ _ _ _ _ _ (T1.setTop (mkF m 5 #[.val (.ref aa), .val (.ref bv), .val (.int cd)] [(.ref aa)]))
  refine Go.step (fun t k => XS.aloadN X1.here hx rfl (hb hby d4_5) rfl rfl k) ?_
  show Go _ _ _ _ _ _ _ (T1.setTop (mkF m 6 #[.val (.ref aa), .val (.ref bv), .val (.int cd)] [(.ref bv), (.ref aa)]))
  obtain ⟨T2, h2, X2, e2, W2, st2⟩ := putF X1 hx hZ hown (host := "") (Or.inl (hw _ (List.mem_of_getElem? (i := 23) rfl))) Via.refl e1 F_value_aa E_aa (Or.inr ⟨(hw _ (List.mem_of_getElem? (i := 24) rfl)), rfl, hnm⟩) (hw _ (List.mem_of_getElem? (i := 11) rfl)) (ty := (.array .byte)) (by decide) rfl rfl (g := (mkF m 6 #[.val (.ref aa), .val (.ref bv), .val (.int cd)] [(.ref bv), (.ref aa)])) rfl rfl (hb hby d4_6)
  replace F_coder_aa := F_coder_aa.other W2 (Or.inr (slot_ne (Or.inr (hw _ (List.mem_of_getElem? (i := 26) rfl))) (Or.inr (hw _ (List.mem_of_getElem? (i := 24) rfl))) (by decide) (t := .byte) (t' := (.array .byte)) (by decide) (by decide)))
  replace E_aa := E_aa.wr W2
  have Z2 := Nat.le_trans Z0 (Keep.of_wr W2).1
  have N2 := Fr.snoc X2 N0 g_aa
  have K2 := K0.wr W2 (Or.inl (List.mem_of_getElem? (i := 0) rfl))
  replace F_value_aa := F_value_aa.same W2
  refine Go.step st2 ?_
  show Go _ _ _ _ _ _ _ (T2.setTop (mkF m 9 #[.val (.ref aa), .val (.ref bv), .val (.int cd)] []))
  refine Go.step (fun t k => XS.aloadN X2.here hx rfl (hb hby d4_9) rfl rfl k) ?_
  show Go _ _ _ _ _ _ _ (T2.setTop (mkF m 10 #[.val (.ref aa), .val (.ref bv), .val (.int cd)] [(.ref aa)]))
  refine Go.step (fun t k => XS.iloadN X2.here hx rfl (hb hby d4_10) rfl k) ?_
  show Go _ _ _ _ _ _ _ (T2.setTop (mkF m 11 #[.val (.ref aa), .val (.ref bv), .val (.int cd)] [(.int cd), (.ref aa)]))
  obtain ⟨T3, h3, X3, e3, W3, st3⟩ := putFN X2 hx hZ hown (hw _ (List.mem_of_getElem? (i := 25) rfl)) Via.refl e2 F_coder_aa E_aa (Or.inr ⟨(hw _ (List.mem_of_getElem? (i := 26) rfl)), rfl, hnm⟩) (hw _ (List.mem_of_getElem? (i := 11) rfl)) (ty := .byte) (v' := (.int (0 : Int32))) (by decide) (by rw [hcd]; rfl) rfl (g := (mkF m 11 #[.val (.ref aa), .val (.ref bv), .val (.int cd)] [(.int cd), (.ref aa)])) rfl rfl (hb hby d4_11)
  replace F_value_aa := F_value_aa.other W3 (Or.inr (slot_ne (Or.inr (hw _ (List.mem_of_getElem? (i := 24) rfl))) (Or.inr (hw _ (List.mem_of_getElem? (i := 26) rfl))) (by decide) (t := (.array .byte)) (t' := .byte) (by decide) (by decide)))
  replace E_aa := E_aa.wr W3
  have Z3 := Nat.le_trans Z2 (Keep.of_wr W3).1
  have N3 := Fr.snoc X3 N2 g_aa
  have K3 := K2.wr W3 (Or.inl (List.mem_of_getElem? (i := 0) rfl))
  replace F_coder_aa := F_coder_aa.same W3
  refine Go.step st3 ?_
  show Go _ _ _ _ _ _ _ (T3.setTop (mkF m 14 #[.val (.ref aa), .val (.ref bv), .val (.int cd)] []))
  refine Go.retV X3 Bd.notSynchronized hx Bd.returns (hb hby d4_14) (by decide) (by decide) ?_
  rw [e3]
  exact ⟨rfl, N3, K3, F_value_aa, F_coder_aa⟩
theorem d1_0 : decode jdk_42_method_139_code 0 = .ok (.getstatic 38, 3) := by decide +kernel
theorem d1_3 : decode jdk_42_method_139_code 3 = .ok (.ifCond .eq 23, 3) := by decide +kernel
theorem d1_6 : decode jdk_42_method_139_code 6 = .ok (.iload_n 0, 1) := by decide +kernel
theorem d1_7 : decode jdk_42_method_139_code 7 = .ok (.invokestatic 1015, 3) := by decide +kernel
theorem d1_10 : decode jdk_42_method_139_code 10 = .ok (.ifCond .eq 16, 3) := by decide +kernel
theorem d1_13 : decode jdk_42_method_139_code 13 = .ok (.new 10, 3) := by decide +kernel
theorem d1_16 : decode jdk_42_method_139_code 16 = .ok (.dup, 1) := by decide +kernel
theorem d1_17 : decode jdk_42_method_139_code 17 = .ok (.iload_n 0, 1) := by decide +kernel
theorem d1_18 : decode jdk_42_method_139_code 18 = .ok (.invokestatic 1018, 3) := by decide +kernel
theorem d1_21 : decode jdk_42_method_139_code 21 = .ok (.iconst 0, 1) := by decide +kernel
theorem d1_22 : decode jdk_42_method_139_code 22 = .ok (.invokespecial 209, 3) := by decide +kernel
theorem d1_25 : decode jdk_42_method_139_code 25 = .ok (.areturn, 1) := by decide +kernel
theorem pn_1 : plainName "java/lang/String" = true := by first | (simp [plainName, overriddenIn]; done) | decide +kernel
theorem pd_1_0 : parseMethodDescriptor "(C)Z" = some ⟨[.char], some .boolean⟩ := by decide +kernel
theorem pd_1_1 : parseMethodDescriptor "(C)[B" = some ⟨[.char], some (.array .byte)⟩ := by decide +kernel
theorem pd_1_2 : parseMethodDescriptor "([BB)V" = some ⟨[(.array .byte), .byte], none⟩ := by decide +kernel
theorem ef_1 (m : MethodId) (x0 : Int32) : entryFrame m #[(.int x0)] 1 = mkF m 0 #[.val (.int x0)] [] := by first | (simp [entryFrame, mkF, argsToLocals, Value.category]; done) | rfl
def Q1 (Z : State) (cv : Int32) (cs : Int32) (h0 : Heap) (n0 : Nat) (v : Option Value) (h : Heap) (L : List Loc) : Prop := ∃ bl : Addr, ∃ bv : Addr, v = some (.ref bl) ∧ Fr n0 L ∧ Keep h0 h [] ∧ h0.size ≤ bl ∧ h0.size ≤ bv ∧ Exa Z h bl "java/lang/String" ∧ Fld Z h bl "java/lang/String" "value" "[B" (.ref bv) ∧ Fld Z h bl "java/lang/String" "coder" "B" (.int (0 : Int32)) ∧ AryI Z h bv .byte 1 (up (fun _ => (0 : Int32)) 0 (nar .byte (cv.toInt8.toInt32))) ∧ bl ≠ bv
set_option maxRecDepth 65536 in
set_option maxHeartbeats 40000000 in
theorem rm1 (l : Launch) (Z : State) (a0 : Array Value) (hw : ∀ d ∈ tables_1, d.before a0 Z = true) (ws : List Jvm.Cond) (cv : Int32) (cs : Int32) (h0 : Heap) (n0 : Nat) (Z0 : n0 ≤ h0.size) (old : Old Z n0 h0) (hcs : (Sta Z Z.heap "java/lang/String" "COMPACT_STRINGS" "Z" (.int cs))) (hc0 : (¬ cs = (0 : Int32))) (h255 : (¬ (255 : Int32) < cv)) :
    MetFree l (⟨"java/lang/String", "valueOf", "(C)Ljava/lang/String;"⟩ : MethodName) (head1 (Jvm.Cond.code (⟨"java/lang/String", "valueOf", "(C)Ljava/lang/String;"⟩ : MethodName) jdk_42_method_139_code 1 (some (.object "java/lang/String")) :: ws) ({ frames := 2, cells := 2, slots := 5, locals := 27 } : Room)) (fun a U => a = #[(.int cv)] ∧ Z.Warmed39 U.vm ∧ U.heap = h0) (fun _ _ _ _ _ => True) (fun _ U o U' => ∃ v L, o = .returned v ∧ Q1 Z cv cs h0 n0 v U'.heap L ∧ FrameEnd U o U' L ({ frames := 2, cells := 2, slots := 5, locals := 27 } : Room).cells ({ frames := 2, cells := 2, slots := 5, locals := 27 } : Room).slots) := by
  refine MetFree.of_bodySF (plainFor_of_name pn_1) hisR ?_
  intro p e s m args below meth c s₁ Bd hml0 hP hK
  obtain ⟨rfl, hZ, hh⟩ := hP
  have hx := Bd.exec
  have hby := Bd.bytes
  have hml : c.maxLocals = 1 := hml0
  have hown : s.vm.findClass "java/lang/String" = some m.cls := findClass_of_methodNamed Bd.named
  have hnm := (name_of_methodNamed Bd.named Bd.method).1
  have X0 : Stand p l e ({ frames := 2, cells := 2, slots := 5, locals := 27 } : Room) s m #[(.int cv)] below meth c s₁ [] 0 0 := Stand.of_body Bd
  have e0 : s₁.heap = h0 := by rw [← hh, Bd.state]; rfl
  have N0 := Fr.nil n0
  have K0 := Keep.refl h0 ([] : List Addr)
  show Go p e below s (Q1 Z cv cs h0 n0) ({ frames := 2, cells := 2, slots := 5, locals := 27 } : Room).cells ({ frames := 2, cells := 2, slots := 5, locals := 27 } : Room).slots (s₁.setTop (entryFrame m #[(.int cv)] 1))
  rw [ef_1]
  show Go _ _ _ _ _ _ _ (s₁.setTop (mkF m 0 #[.val (.int cv)] []))
  have S_CS := Sta.ext old.2 hcs
  obtain ⟨T1, X1, e1, st1⟩ := getS2 X0 hx hZ hown (host := "") (Or.inl (hw _ (List.mem_of_getElem? (i := 5) rfl))) Via.refl e0 S_CS (g := (mkF m 0 #[.val (.int cv)] [])) rfl (hb hby d1_0)
  refine Go.step st1 ?_
  show Go _ _ _ _ _ _ _ (T1.setTop (mkF m 3 #[.val (.int cv)] [(.int cs)]))
  refine Go.step (fun t k => XS.ifNo X1.here hx rfl (hb hby d1_3) rfl ((if0 _ _).trans (feq (hc0 : ¬ cs = (0 : Int32))).1) k) ?_
  show Go _ _ _ _ _ _ _ (T1.setTop (mkF m 6 #[.val (.int cv)] []))
  refine Go.step (fun t k => XS.iloadN X1.here hx rfl (hb hby d1_6) rfl k) ?_
  show Go _ _ _ _ _ _ _ (T1.setTop (mkF m 7 #[.val (.int cv)] [(.int cv)]))
  obtain ⟨_, _, ⟨T2, L2, k2, n2⟩, -, X2, ⟨Lc2, hQ2, l2, y2, z2⟩, st2⟩ := Jvm.LawKit.callS X1 hx (y := (⟨"java/lang/StringLatin1", "canEncode", "(C)Z"⟩ : MethodName)) hown (mvT hZ (hw _ (List.mem_of_getElem? (i := 6) rfl))) (mvT hZ (hw _ (List.mem_of_getElem? (i := 7) rfl))) (mvT hZ (hw _ (List.mem_of_getElem? (i := 8) rfl))) (mvT hZ (hw _ (List.mem_of_getElem? (i := 9) rfl))) (by decide) (backOf (W := 0) (rm2 l Z a0 hw [] cv h0 n0 Z0 h255) hZ (hw _ (List.mem_of_getElem? (i := 9) rfl)) (hw _ (List.mem_of_getElem? (i := 8) rfl)) (by decide) (by decide)) (g := (mkF m 7 #[.val (.int cv)] [(.int cv)])) rfl (by rw [hml]; rfl) (argsL := [(.int cv)]) (rest := []) (lenOf pd_1_0 rfl) rfl (by show 2 * 0 + _ ≤ _; exact Nat.le_of_eq rfl) (hb hby d1_7) (fun _ _ => ⟨rfl, e1, (by decide : 0 + 0 ≤ _), (by decide : 0 + 0 ≤ _)⟩)
  dsimp only [Pt.U, Pt.locs, Pt.cells, Pt.slots] at X2 l2 y2 z2 st2 hQ2
  subst l2 y2 z2
  obtain ⟨rfl, N2q, K2q⟩ := hQ2
  have N2 := Fr.app N0 N2q
  refine Go.step st2 ?_
  show Go _ _ _ _ _ _ _ (T2.setTop (mkF m 10 #[.val (.int cv)] [(.int (1 : Int32))]))
  refine Go.step (fun t k => XS.ifNo X2.here hx rfl (hb hby d1_10) rfl ((if0 _ _).trans (feq (by decide : ¬ (1 : Int32) = (0 : Int32))).1) k) ?_
  show Go _ _ _ _ _ _ _ (T2.setTop (mkF m 13 #[.val (.int cv)] []))
  obtain ⟨T3, h3, X3, e3, E3, A3, D3, -, st3⟩ := newO X2 hx hZ hown (hw _ (List.mem_of_getElem? (i := 10) rfl)) (hw _ (List.mem_of_getElem? (i := 11) rfl)) (hw _ (List.mem_of_getElem? (i := 3) rfl)) K2q (g := (mkF m 13 #[.val (.int cv)] [])) rfl (hb hby d1_13) (by decide) (by decide)
  obtain ⟨bl, gz3⟩ : ∃ z, z = h0.size := ⟨_, rfl⟩
  have g_bl : n0 ≤ bl := Nat.le_trans Z0 (Nat.le_of_eq gz3.symm)
  have sz_bl : h0.size ≤ bl := Nat.le_trans K0.1 (Nat.le_of_eq gz3.symm)
  rw [← gz3] at A3 D3 st3
  replace old := Old.ext old E3
  replace S_CS := Sta.ext E3 S_CS
  have Z3 := Nat.le_trans Z0 E3.1
  have K3 := K0.ext E3
  have E_bl := A3
  have F_value_bl : Fld Z h3 bl "java/lang/String" "value" "[B" .null := D3 (Or.inr (hw _ (List.mem_of_getElem? (i := 24) rfl))) (ty := (.array .byte)) (by decide)
  have F_coder_bl : Fld Z h3 bl "java/lang/String" "coder" "B" (.int (0 : Int32)) := D3 (Or.inr (hw _ (List.mem_of_getElem? (i := 26) rfl))) (ty := .byte) (by decide)
  refine Go.step st3 ?_
  show Go _ _ _ _ _ _ _ (T3.setTop (mkF m 16 #[.val (.int cv)] [(.ref bl)]))
  refine Go.step (fun t k => XS.dup X3.here hx rfl (hb hby d1_16) rfl rfl k) ?_
  show Go _ _ _ _ _ _ _ (T3.setTop (mkF m 17 #[.val (.int cv)] [(.ref bl), (.ref bl)]))
  refine Go.step (fun t k => XS.iloadN X3.here hx rfl (hb hby d1_17) rfl k) ?_
  show Go _ _ _ _ _ _ _ (T3.setTop (mkF m 18 #[.val (.int cv)] [(.int cv), (.ref bl), (.ref bl)]))
  obtain ⟨_, _, ⟨T4, L4, k4, n4⟩, -, X4, ⟨Lc4, hQ4, l4, y4, z4⟩, st4⟩ := Jvm.LawKit.callS X3 hx (y := (⟨"java/lang/StringLatin1", "toBytes", "(C)[B"⟩ : MethodName)) hown (mvT hZ (hw _ (List.mem_of_getElem? (i := 12) rfl))) (mvT hZ (hw _ (List.mem_of_getElem? (i := 13) rfl))) (mvT hZ (hw _ (List.mem_of_getElem? (i := 8) rfl))) (mvT hZ (hw _ (List.mem_of_getElem? (i := 14) rfl))) (by decide) (backOf (W := 2) (rm3 l Z a0 hw [] cv h3 n0 Z3) hZ (hw _ (List.mem_of_getElem? (i := 14) rfl)) (hw _ (List.mem_of_getElem? (i := 8) rfl)) (by decide) (by decide)) (g := (mkF m 18 #[.val (.int cv)] [(.int cv), (.ref bl), (.ref bl)])) rfl (by rw [hml]; rfl) (argsL := [(.int cv)]) (rest := [(.ref bl), (.ref bl)]) (lenOf pd_1_1 rfl) rfl (by show 2 * 0 + _ ≤ _; exact Nat.le_of_eq rfl) (hb hby d1_18) (fun _ _ => ⟨rfl, e3, (by decide : 1 + 1 ≤ _), (by decide : 4 + 1 ≤ _)⟩)
  dsimp only [Pt.U, Pt.locs, Pt.cells, Pt.slots] at X4 l4 y4 z4 st4 hQ4
  subst l4 y4 z4
  obtain ⟨bv, rfl, N4q, K4q, o4_nw_bv, o4_A_bv⟩ := hQ4
  have N4 := Fr.app N2 N4q
  have ne_bl_bv : bl ≠ bv := Nat.ne_of_lt (Nat.lt_of_lt_of_le E_bl.lt o4_nw_bv)
  have g_bv : n0 ≤ bv := Nat.le_trans Z3 o4_nw_bv
  have sz_bv : h0.size ≤ bv := Nat.le_trans K3.1 o4_nw_bv
  replace old := Old.keep old K4q all0
  replace E_bl := E_bl.keep K4q
  replace F_value_bl := F_value_bl.keep K4q nin0
  replace F_coder_bl := F_coder_bl.keep K4q nin0
  have Z4 := Nat.le_trans Z3 K4q.1
  have K4' := K3.trans K4q all0
  have A_bv := o4_A_bv
  refine Go.step st4 ?_
  show Go _ _ _ _ _ _ _ (T4.setTop (mkF m 21 #[.val (.int cv)] [(.ref bv), (.ref bl), (.ref bl)]))
  refine Go.step (fun t k => XS.iconst X4.here hx rfl (hb hby d1_21) k) ?_
  show Go _ _ _ _ _ _ _ (T4.setTop (mkF m 22 #[.val (.int cv)] [(.int (0 : Int32)), (.ref bv), (.ref bl), (.ref bl)]))
  obtain ⟨_, _, ⟨T5, L5, k5, n5⟩, -, X5, ⟨Lc5, hQ5, l5, y5, z5⟩, st5⟩ := X4.specialBack hx (y := (⟨"java/lang/String", "<init>", "([BB)V"⟩ : MethodName)) rfl hown (mvT hZ (hw _ (List.mem_of_getElem? (i := 16) rfl))) (mvT hZ (hw _ (List.mem_of_getElem? (i := 17) rfl))) (mvT hZ (hw _ (List.mem_of_getElem? (i := 19) rfl))) (by decide) (backOf (W := 1) (rm4 l Z a0 hw [] bl bv (0 : Int32) T4.heap n0 Z4 F_value_bl F_coder_bl E_bl g_bl rfl) hZ (hw _ (List.mem_of_getElem? (i := 19) rfl)) (hw _ (List.mem_of_getElem? (i := 3) rfl)) (by decide) (by decide)) (g := (mkF m 22 #[.val (.int cv)] [(.int (0 : Int32)), (.ref bv), (.ref bl), (.ref bl)])) rfl (by rw [hml]; rfl) (Steps.refl _) (a := bl) (argsL := [(.ref bv), (.int (0 : Int32))]) (rest := [(.ref bl)]) (lenOf pd_1_2 rfl) rfl (by show 2 * 0 + _ ≤ _; exact Nat.le_of_eq rfl) (hb hby d1_22) (fun _ _ => ⟨rfl, rfl, (by decide : 2 + 0 ≤ _), (by decide : 5 + 0 ≤ _)⟩)
  dsimp only [Pt.U, Pt.locs, Pt.cells, Pt.slots] at X5 l5 y5 z5 st5 hQ5
  subst l5 y5 z5
  obtain ⟨rfl, N5q, K5q, o5_F_value_bl, o5_F_coder_bl⟩ := hQ5
  have N5 := Fr.app N4 N5q
  replace old := Old.keep old K5q (allS g_bl all0)
  replace E_bl := E_bl.keep K5q
  replace A_bv := A_bv.keep K5q (ninS (Ne.symm ne_bl_bv) nin0)
  have Z5 := Nat.le_trans Z4 K5q.1
  have K5' := K4'.trans K5q (allS (Or.inr sz_bl) all0)
  have F_value_bl := o5_F_value_bl
  have F_coder_bl := o5_F_coder_bl
  refine Go.step (fun t k => st5.trans k) ?_
  show Go _ _ _ _ _ _ _ (T5.setTop (mkF m 25 #[.val (.int cv)] [(.ref bl)]))
  refine Go.retA X5 Bd.notSynchronized hx Bd.returns rfl rfl rfl (hb hby d1_25) (by decide) (by decide) ?_
  exact ⟨bl, bv, rfl, N5, K5', sz_bl, sz_bv, E_bl, F_value_bl, F_coder_bl, A_bv, ne_bl_bv⟩
theorem d13_0 : decode jdk_42_method_152_code 0 = .ok (.getstatic 38, 3) := by decide +kernel
theorem d13_3 : decode jdk_42_method_152_code 3 = .ok (.ifCond .eq 10, 3) := by decide +kernel
theorem d13_6 : decode jdk_42_method_152_code 6 = .ok (.aload_n 0, 1) := by decide +kernel
theorem d13_7 : decode jdk_42_method_152_code 7 = .ok (.getfield 15, 3) := by decide +kernel
theorem d13_10 : decode jdk_42_method_152_code 10 = .ok (.goto 4, 3) := by decide +kernel
theorem d13_14 : decode jdk_42_method_152_code 14 = .ok (.ireturn, 1) := by decide +kernel
theorem pn_13 : plainName "java/lang/String" = true := by first | (simp [plainName, overriddenIn]; done) | decide +kernel
theorem ef_13 (m : MethodId) (x0 : Addr) : entryFrame m #[(.ref x0)] 1 = mkF m 0 #[.val (.ref x0)] [] := by first | (simp [entryFrame, mkF, argsToLocals, Value.category]; done) | rfl
def Q13 (Z : State) (aa : Addr) (cs : Int32) (h0 : Heap) (n0 : Nat) (v : Option Value) (h : Heap) (L : List Loc) : Prop := v = some (.int (0 : Int32)) ∧ Fr n0 L ∧ h = h0
set_option maxRecDepth 65536 in
set_option maxHeartbeats 40000000 in
theorem rm13 (l : Launch) (Z : State) (a0 : Array Value) (hw : ∀ d ∈ tables_1, d.before a0 Z = true) (ws : List Jvm.Cond) (aa : Addr) (cs : Int32) (h0 : Heap) (n0 : Nat) (Z0 : n0 ≤ h0.size) (old : Old Z n0 h0) (hcs : (Sta Z Z.heap "java/lang/String" "COMPACT_STRINGS" "Z" (.int cs))) (hc0 : (¬ cs = (0 : Int32))) (F_coder_aa : Fld Z h0 aa "java/lang/String" "coder" "B" (.int (0 : Int32))) :
    MetFree l (⟨"java/lang/String", "coder", "()B"⟩ : MethodName) (head1 (Jvm.Cond.code (⟨"java/lang/String", "coder", "()B"⟩ : MethodName) jdk_42_method_152_code 1 (some .byte) :: ws) ({ frames := 0, cells := 0, slots := 0, locals := 0 } : Room)) (fun a U => a = #[(.ref aa)] ∧ Z.Warmed39 U.vm ∧ U.heap = h0) (fun _ _ _ _ _ => True) (fun _ U o U' => ∃ v L, o = .returned v ∧ Q13 Z aa cs h0 n0 v U'.heap L ∧ FrameEnd U o U' L ({ frames := 0, cells := 0, slots := 0, locals := 0 } : Room).cells ({ frames := 0, cells := 0, slots := 0, locals := 0 } : Room).slots) := by
  refine MetFree.of_bodySF (plainFor_of_name pn_13) hisR ?_
  intro p e s m args below meth c s₁ Bd hml0 hP hK
  obtain ⟨rfl, hZ, hh⟩ := hP
  have hx := Bd.exec
  have hby := Bd.bytes
  have hml : c.maxLocals = 1 := hml0
  have hown : s.vm.findClass "java/lang/String" = some m.cls := findClass_of_methodNamed Bd.named
  have hnm := (name_of_methodNamed Bd.named Bd.method).1
  have X0 : Stand p l e ({ frames := 0, cells := 0, slots := 0, locals := 0 } : Room) s m #[(.ref aa)] below meth c s₁ [] 0 0 := Stand.of_body Bd
  have e0 : s₁.heap = h0 := by rw [← hh, Bd.state]; rfl
  have N0 := Fr.nil n0
  show Go p e below s (Q13 Z aa cs h0 n0) ({ frames := 0, cells := 0, slots := 0, locals := 0 } : Room).cells ({ frames := 0, cells := 0, slots := 0, locals := 0 } : Room).slots (s₁.setTop (entryFrame m #[(.ref aa)] 1))
  rw [ef_13]
  show Go _ _ _ _ _ _ _ (s₁.setTop (mkF m 0 #[.val (.ref aa)] []))
  have S_CS := Sta.ext old.2 hcs
  obtain ⟨T1, X1, e1, st1⟩ := getS2 X0 hx hZ hown (host := "") (Or.inl (hw _ (List.mem_of_getElem? (i := 5) rfl))) Via.refl e0 S_CS (g := (mkF m 0 #[.val (.ref aa)] [])) rfl (hb hby d13_0)
  refine Go.step st1 ?_
  show Go _ _ _ _ _ _ _ (T1.setTop (mkF m 3 #[.val (.ref aa)] [(.int cs)]))
  refine Go.step (fun t k => XS.ifNo X1.here hx rfl (hb hby d13_3) rfl ((if0 _ _).trans (feq (hc0 : ¬ cs = (0 : Int32))).1) k) ?_
  show Go _ _ _ _ _ _ _ (T1.setTop (mkF m 6 #[.val (.ref aa)] []))
  refine Go.step (fun t k => XS.aloadN X1.here hx rfl (hb hby d13_6) rfl rfl k) ?_
  show Go _ _ _ _ _ _ _ (T1.setTop (mkF m 7 #[.val (.ref aa)] [(.ref aa)]))
  obtain ⟨T2, X2, e2, st2⟩ := getF X1 hx hZ hown (host := "") (Or.inl (hw _ (List.mem_of_getElem? (i := 25) rfl))) Via.refl e1 F_coder_aa (g := (mkF m 7 #[.val (.ref aa)] [(.ref aa)])) rfl rfl (hb hby d13_7)
  refine Go.step st2 ?_
  show Go _ _ _ _ _ _ _ (T2.setTop (mkF m 10 #[.val (.ref aa)] [(.int (0 : Int32))]))
  refine Go.step (fun t k => XS.goto X2.here hx rfl (pc0 := 10) (pc' := 14) rfl (hb hby d13_10) (by decide) (by decide) k) ?_
  show Go _ _ _ _ _ _ _ (T2.setTop (mkF m 14 #[.val (.ref aa)] [(.int (0 : Int32))]))
  refine Go.retN X2 Bd.notSynchronized hx (t := .byte) Bd.returns (by simp) (hb hby d13_14) (by decide) (by decide) (0 : Int32) rfl ?_
  rw [e2]
  exact ⟨rfl, N0, rfl⟩
theorem d16_0 : decode jdk_42_method_154_code 0 = .ok (.getstatic 38, 3) := by decide +kernel
theorem d16_3 : decode jdk_42_method_154_code 3 = .ok (.ifCond .eq 14, 3) := by decide +kernel
theorem d16_6 : decode jdk_42_method_154_code 6 = .ok (.aload_n 0, 1) := by decide +kernel
theorem d16_7 : decode jdk_42_method_154_code 7 = .ok (.getfield 15, 3) := by decide +kernel
theorem d16_10 : decode jdk_42_method_154_code 10 = .ok (.ifCond .ne 7, 3) := by decide +kernel
theorem d16_13 : decode jdk_42_method_154_code 13 = .ok (.iconst 1, 1) := by decide +kernel
theorem d16_14 : decode jdk_42_method_154_code 14 = .ok (.goto 4, 3) := by decide +kernel
theorem d16_18 : decode jdk_42_method_154_code 18 = .ok (.ireturn, 1) := by decide +kernel
theorem pn_16 : plainName "java/lang/String" = true := by first | (simp [plainName, overriddenIn]; done) | decide +kernel
theorem ef_16 (m : MethodId) (x0 : Addr) : entryFrame m #[(.ref x0)] 1 = mkF m 0 #[.val (.ref x0)] [] := by first | (simp [entryFrame, mkF, argsToLocals, Value.category]; done) | rfl
def Q16 (Z : State) (aa : Addr) (cs : Int32) (h0 : Heap) (n0 : Nat) (v : Option Value) (h : Heap) (L : List Loc) : Prop := v = some (.int (1 : Int32)) ∧ Fr n0 L ∧ h = h0
set_option maxRecDepth 65536 in
set_option maxHeartbeats 40000000 in
theorem rm16 (l : Launch) (Z : State) (a0 : Array Value) (hw : ∀ d ∈ tables_1, d.before a0 Z = true) (ws : List Jvm.Cond) (aa : Addr) (cs : Int32) (h0 : Heap) (n0 : Nat) (Z0 : n0 ≤ h0.size) (old : Old Z n0 h0) (hcs : (Sta Z Z.heap "java/lang/String" "COMPACT_STRINGS" "Z" (.int cs))) (hc0 : (¬ cs = (0 : Int32))) (F_coder_aa : Fld Z h0 aa "java/lang/String" "coder" "B" (.int (0 : Int32))) :
    MetFree l (⟨"java/lang/String", "isLatin1", "()Z"⟩ : MethodName) (head1 (Jvm.Cond.code (⟨"java/lang/String", "isLatin1", "()Z"⟩ : MethodName) jdk_42_method_154_code 1 (some .boolean) :: ws) ({ frames := 0, cells := 0, slots := 0, locals := 0 } : Room)) (fun a U => a = #[(.ref aa)] ∧ Z.Warmed39 U.vm ∧ U.heap = h0) (fun _ _ _ _ _ => True) (fun _ U o U' => ∃ v L, o = .returned v ∧ Q16 Z aa cs h0 n0 v U'.heap L ∧ FrameEnd U o U' L ({ frames := 0, cells := 0, slots := 0, locals := 0 } : Room).cells ({ frames := 0, cells := 0, slots := 0, locals := 0 } : Room).slots) := by
  refine MetFree.of_bodySF (plainFor_of_name pn_16) hisR ?_
  intro p e s m args below meth c s₁ Bd hml0 hP hK
  obtain ⟨rfl, hZ, hh⟩ := hP
  have hx := Bd.exec
  have hby := Bd.bytes
  have hml : c.maxLocals = 1 := hml0
  have hown : s.vm.findClass "java/lang/String" = some m.cls := findClass_of_methodNamed Bd.named
  have hnm := (name_of_methodNamed Bd.named Bd.method).1
  have X0 : Stand p l e ({ frames := 0, cells := 0, slots := 0, locals := 0 } : Room) s m #[(.ref aa)] below meth c s₁ [] 0 0 := Stand.of_body Bd
  have e0 : s₁.heap = h0 := by rw [← hh, Bd.state]; rfl
  have N0 := Fr.nil n0
  show Go p e below s (Q16 Z aa cs h0 n0) ({ frames := 0, cells := 0, slots := 0, locals := 0 } : Room).cells ({ frames := 0, cells := 0, slots := 0, locals := 0 } : Room).slots (s₁.setTop (entryFrame m #[(.ref aa)] 1))
  rw [ef_16]
  show Go _ _ _ _ _ _ _ (s₁.setTop (mkF m 0 #[.val (.ref aa)] []))
  have S_CS := Sta.ext old.2 hcs
  obtain ⟨T1, X1, e1, st1⟩ := getS2 X0 hx hZ hown (host := "") (Or.inl (hw _ (List.mem_of_getElem? (i := 5) rfl))) Via.refl e0 S_CS (g := (mkF m 0 #[.val (.ref aa)] [])) rfl (hb hby d16_0)
  refine Go.step st1 ?_
  show Go _ _ _ _ _ _ _ (T1.setTop (mkF m 3 #[.val (.ref aa)] [(.int cs)]))
  refine Go.step (fun t k => XS.ifNo X1.here hx rfl (hb hby d16_3) rfl ((if0 _ _).trans (feq (hc0 : ¬ cs = (0 : Int32))).1) k) ?_
  show Go _ _ _ _ _ _ _ (T1.setTop (mkF m 6 #[.val (.ref aa)] []))
  refine Go.step (fun t k => XS.aloadN X1.here hx rfl (hb hby d16_6) rfl rfl k) ?_
  show Go _ _ _ _ _ _ _ (T1.setTop (mkF m 7 #[.val (.ref aa)] [(.ref aa)]))
  obtain ⟨T2, X2, e2, st2⟩ := getF X1 hx hZ hown (host := "") (Or.inl (hw _ (List.mem_of_getElem? (i := 25) rfl))) Via.refl e1 F_coder_aa (g := (mkF m 7 #[.val (.ref aa)] [(.ref aa)])) rfl rfl (hb hby d16_7)
  refine Go.step st2 ?_
  show Go _ _ _ _ _ _ _ (T2.setTop (mkF m 10 #[.val (.ref aa)] [(.int (0 : Int32))]))
  refine Go.step (fun t k => XS.ifNo X2.here hx rfl (hb hby d16_10) rfl ((if0 _ _).trans (teq (by decide : (0 : Int32) = (0 : Int32))).2) k) ?_
  show Go _ _ _ _ _ _ _ (T2.setTop (mkF m 13 #[.val (.ref aa)] []))
  refine Go.step (fun t k => XS.iconst X2.here hx rfl (hb hby d16_13) k) ?_
  show Go _ _ _ _ _ _ _ (T2.setTop (mkF m 14 #[.val (.ref aa)] [(.int (1 : Int32))]))
  refine Go.step (fun t k => XS.goto X2.here hx rfl (pc0 := 14) (pc' := 18) rfl (hb hby d16_14) (by decide) (by decide) k) ?_
  show Go _ _ _ _ _ _ _ (T2.setTop (mkF m 18 #[.val (.ref aa)] [(.int (1 : Int32))]))
  refine Go.retN X2 Bd.notSynchronized hx (t := .boolean) Bd.returns (by simp) (hb hby d16_18) (by decide) (by decide) (1 : Int32) rfl ?_
  rw [e2]
  exact ⟨rfl, N0, rfl⟩
theorem d12_0 : decode jdk_42_method_54_code 0 = .ok (.aload_n 0, 1) := by decide +kernel
theorem d12_1 : decode jdk_42_method_54_code 1 = .ok (.getfield 9, 3) := by decide +kernel
theorem d12_4 : decode jdk_42_method_54_code 4 = .ok (.arraylength, 1) := by decide +kernel
theorem d12_5 : decode jdk_42_method_54_code 5 = .ok (.aload_n 0, 1) := by decide +kernel
theorem d12_6 : decode jdk_42_method_54_code 6 = .ok (.invokevirtual 335, 3) := by decide +kernel
theorem d12_9 : decode jdk_42_method_54_code 9 = .ok (.ishr, 1) := by decide +kernel
theorem d12_10 : decode jdk_42_method_54_code 10 = .ok (.ireturn, 1) := by decide +kernel
theorem pn_12 : plainName "java/lang/String" = true := by first | (simp [plainName, overriddenIn]; done) | decide +kernel
theorem pd_12_0 : parseMethodDescriptor "()B" = some ⟨[], some .byte⟩ := by decide +kernel
theorem ef_12 (m : MethodId) (x0 : Addr) : entryFrame m #[(.ref x0)] 1 = mkF m 0 #[.val (.ref x0)] [] := by first | (simp [entryFrame, mkF, argsToLocals, Value.category]; done) | rfl
def Q12 (Z : State) (aa : Addr) (cs : Int32) (bv : Addr) (nb : Nat) (zb : Int32) (gb : Nat → Int32) (h0 : Heap) (n0 : Nat) (v : Option Value) (h : Heap) (L : List Loc) : Prop := v = some (.int zb) ∧ Fr n0 L ∧ h = h0
set_option maxRecDepth 65536 in
set_option maxHeartbeats 40000000 in
theorem rm12 (l : Launch) (Z : State) (a0 : Array Value) (hw : ∀ d ∈ tables_1, d.before a0 Z = true) (ws : List Jvm.Cond) (aa : Addr) (cs : Int32) (bv : Addr) (nb : Nat) (zb : Int32) (gb : Nat → Int32) (h0 : Heap) (n0 : Nat) (Z0 : n0 ≤ h0.size) (old : Old Z n0 h0) (hcs : (Sta Z Z.heap "java/lang/String" "COMPACT_STRINGS" "Z" (.int cs))) (hc0 : (¬ cs = (0 : Int32))) (E_aa : Exa Z h0 aa "java/lang/String") (F_value_aa : Fld Z h0 aa "java/lang/String" "value" "[B" (.ref bv)) (F_coder_aa : Fld Z h0 aa "java/lang/String" "coder" "B" (.int (0 : Int32))) (A_bv : AryI Z h0 bv .byte nb gb) (hzb : (zb.toInt = (nb : Int))) :
    MetFree l (⟨"java/lang/String", "length", "()I"⟩ : MethodName) (head1 (Jvm.Cond.code (⟨"java/lang/String", "length", "()I"⟩ : MethodName) jdk_42_method_54_code 1 (some .int) :: ws) ({ frames := 1, cells := 0, slots := 0, locals := 13 } : Room)) (fun a U => a = #[(.ref aa)] ∧ Z.Warmed39 U.vm ∧ U.heap = h0) (fun _ _ _ _ _ => True) (fun _ U o U' => ∃ v L, o = .returned v ∧ Q12 Z aa cs bv nb zb gb h0 n0 v U'.heap L ∧ FrameEnd U o U' L ({ frames := 1, cells := 0, slots := 0, locals := 13 } : Room).cells ({ frames := 1, cells := 0, slots := 0, locals := 13 } : Room).slots) := by
  refine MetFree.of_bodySF (plainFor_of_name pn_12) hisR ?_
  intro p e s m args below meth c s₁ Bd hml0 hP hK
  obtain ⟨rfl, hZ, hh⟩ := hP
  have hx := Bd.exec
  have hby := Bd.bytes
  have hml : c.maxLocals = 1 := hml0
  have hown : s.vm.findClass "java/lang/String" = some m.cls := findClass_of_methodNamed Bd.named
  have hnm := (name_of_methodNamed Bd.named Bd.method).1
  have X0 : Stand p l e ({ frames := 1, cells := 0, slots := 0, locals := 13 } : Room) s m #[(.ref aa)] below meth c s₁ [] 0 0 := Stand.of_body Bd
  have e0 : s₁.heap = h0 := by rw [← hh, Bd.state]; rfl
  have N0 := Fr.nil n0
  show Go p e below s (Q12 Z aa cs bv nb zb gb h0 n0) ({ frames := 1, cells := 0, slots := 0, locals := 13 } : Room).cells ({ frames := 1, cells := 0, slots := 0, locals := 13 } : Room).slots (s₁.setTop (entryFrame m #[(.ref aa)] 1))
  rw [ef_12]
  show Go _ _ _ _ _ _ _ (s₁.setTop (mkF m 0 #[.val (.ref aa)] []))
  refine Go.step (fun t k => XS.aloadN X0.here hx rfl (hb hby d12_0) rfl rfl k) ?_
  show Go _ _ _ _ _ _ _ (s₁.setTop (mkF m 1 #[.val (.ref aa)] [(.ref aa)]))
  obtain ⟨T1, X1, e1, st1⟩ := getF X0 hx hZ hown (host := "") (Or.inl (hw _ (List.mem_of_getElem? (i := 23) rfl))) Via.refl e0 F_value_aa (g := (mkF m 1 #[.val (.ref aa)] [(.ref aa)])) rfl rfl (hb hby d12_1)
  refine Go.step st1 ?_
  show Go _ _ _ _ _ _ _ (T1.setTop (mkF m 4 #[.val (.ref aa)] [(.ref bv)]))
  refine Go.step (own_len X1 hx hZ e1 A_bv (z := zb) (own_tz hzb) (f := (mkF m 4 #[.val (.ref aa)] [(.ref bv)])) rfl rfl (hb hby d12_4)) ?_
  show Go _ _ _ _ _ _ _ (T1.setTop (mkF m 5 #[.val (.ref aa)] [(.int zb)]))
  refine Go.step (fun t k => XS.aloadN X1.here hx rfl (hb hby d12_5) rfl rfl k) ?_
  show Go _ _ _ _ _ _ _ (T1.setTop (mkF m 6 #[.val (.ref aa)] [(.ref aa), (.int zb)]))
  obtain ⟨cq3, kq3, q3a, q3b, q3c⟩ := isOf hZ e1 E_aa
  obtain ⟨_, _, ⟨T3, L3, k3, n3⟩, -, X3, ⟨Lc3, hQ3, l3, y3, z3⟩, st3⟩ := X1.virtualBack hx (y := (⟨"java/lang/String", "coder", "()B"⟩ : MethodName)) (z := (⟨"java/lang/String", "coder", "()B"⟩ : MethodName)) hown (mvT hZ (hw _ (List.mem_of_getElem? (i := 87) rfl))) (mvT hZ (hw _ (List.mem_of_getElem? (i := 88) rfl))) (notFace_of_selects (args := #[]) (mvT hZ (hw _ (List.mem_of_getElem? (i := 90) rfl)))) (mvT hZ (hw _ (List.mem_of_getElem? (i := 90) rfl))) (mvT hZ (hw _ (List.mem_of_getElem? (i := 89) rfl))) (by decide) (backOf (W := 1) (rm13 l Z a0 hw [] aa cs h0 n0 Z0 old hcs hc0 F_coder_aa) hZ (hw _ (List.mem_of_getElem? (i := 91) rfl)) (hw _ (List.mem_of_getElem? (i := 3) rfl)) (by decide) (by decide)) q3a q3c (g := (mkF m 6 #[.val (.ref aa)] [(.ref aa), (.int zb)])) rfl (by rw [hml]; rfl) (Steps.refl _) (argsL := []) (rest := [(.int zb)]) (lenOf pd_12_0 rfl) rfl (by show 2 * 0 + _ ≤ _; exact Nat.le_of_eq rfl) (hb hby d12_6) (fun _ _ => ⟨rfl, e1, (by decide : 0 + 0 ≤ _), (by decide : 0 + 0 ≤ _)⟩)
  dsimp only [Pt.U, Pt.locs, Pt.cells, Pt.slots] at X3 l3 y3 z3 st3 hQ3
  subst l3 y3 z3
  obtain ⟨rfl, N3q, K3q⟩ := hQ3
  have N3 := Fr.app N0 N3q
  refine Go.step (fun t k => st3.trans k) ?_
  show Go _ _ _ _ _ _ _ (T3.setTop (mkF m 9 #[.val (.ref aa)] [(.int (0 : Int32)), (.int zb)]))
  refine Go.step (fun t k => XS.ishr X3.here hx rfl (hb hby d12_9) rfl k) ?_
  show Go _ _ _ _ _ _ _ (T3.setTop (mkF m 10 #[.val (.ref aa)] [(.int (zb >>> ((0 : Int32) &&& 31)))]))
  refine Go.retI X3 Bd.notSynchronized hx Bd.returns (hb hby d12_10) (by decide) (by decide) ?_
  rw [K3q]
  exact ⟨(by rw [own_sh0]), N3, rfl⟩
theorem d19_0 : decode jdk_41_method_11_code 0 = .ok (.iload_n 0, 1) := by decide +kernel
theorem d19_1 : decode jdk_41_method_11_code 1 = .ok (.ifCond .lt 8, 3) := by decide +kernel
theorem d19_4 : decode jdk_41_method_11_code 4 = .ok (.iload_n 0, 1) := by decide +kernel
theorem d19_5 : decode jdk_41_method_11_code 5 = .ok (.iload_n 1, 1) := by decide +kernel
theorem d19_6 : decode jdk_41_method_11_code 6 = .ok (.if_icmp .lt 10, 3) := by decide +kernel
theorem d19_16 : decode jdk_41_method_11_code 16 = .ok (.iload_n 0, 1) := by decide +kernel
theorem d19_17 : decode jdk_41_method_11_code 17 = .ok (.ireturn, 1) := by decide +kernel
theorem pn_19 : plainName "jdk/internal/util/Preconditions" = true := by first | (simp [plainName, overriddenIn]; done) | decide +kernel
theorem ef_19 (m : MethodId) (x0 : Int32) (x1 : Int32) (x2 : Value) (hx2 : x2.isRef = true) : entryFrame m #[(.int x0), (.int x1), x2] 3 = mkF m 0 #[.val (.int x0), .val (.int x1), .val x2] [] := by rcases ref_cases hx2 with rfl | ⟨_, rfl⟩ <;> rfl
def Q19 (Z : State) (ii : Int32) (nn : Int32) (fm : Value) (h0 : Heap) (n0 : Nat) (v : Option Value) (h : Heap) (L : List Loc) : Prop := v = some (.int ii) ∧ Fr n0 L ∧ h = h0
set_option maxRecDepth 65536 in
set_option maxHeartbeats 40000000 in
theorem rm19 (l : Launch) (Z : State) (a0 : Array Value) (hw : ∀ d ∈ tables_1, d.before a0 Z = true) (ws : List Jvm.Cond) (ii : Int32) (nn : Int32) (fm : Value) (h0 : Heap) (n0 : Nat) (Z0 : n0 ≤ h0.size) (hfm : (fm.isRef = true)) (hi0 : (¬ ii < (0 : Int32))) (hin : (ii < nn)) :
    MetFree l (⟨"jdk/internal/util/Preconditions", "checkIndex", "(IILjava/util/function/BiFunction;)I"⟩ : MethodName) (head1 (Jvm.Cond.code (⟨"jdk/internal/util/Preconditions", "checkIndex", "(IILjava/util/function/BiFunction;)I"⟩ : MethodName) jdk_41_method_11_code 3 (some .int) :: ws) ({ frames := 0, cells := 0, slots := 0, locals := 0 } : Room)) (fun a U => a = #[(.int ii), (.int nn), fm] ∧ Z.Warmed39 U.vm ∧ U.heap = h0) (fun _ _ _ _ _ => True) (fun _ U o U' => ∃ v L, o = .returned v ∧ Q19 Z ii nn fm h0 n0 v U'.heap L ∧ FrameEnd U o U' L ({ frames := 0, cells := 0, slots := 0, locals := 0 } : Room).cells ({ frames := 0, cells := 0, slots := 0, locals := 0 } : Room).slots) := by
  refine MetFree.of_bodySF (plainFor_of_name pn_19) hisR ?_
  intro p e s m args below meth c s₁ Bd hml0 hP hK
  obtain ⟨rfl, hZ, hh⟩ := hP
  have hx := Bd.exec
  have hby := Bd.bytes
  have hml : c.maxLocals = 3 := hml0
  have hown : s.vm.findClass "jdk/internal/util/Preconditions" = some m.cls := findClass_of_methodNamed Bd.named
  have hnm := (name_of_methodNamed Bd.named Bd.method).1
  have X0 : Stand p l e ({ frames := 0, cells := 0, slots := 0, locals := 0 } : Room) s m #[(.int ii), (.int nn), fm] below meth c s₁ [] 0 0 := Stand.of_body Bd
  have e0 : s₁.heap = h0 := by rw [← hh, Bd.state]; rfl
  have N0 := Fr.nil n0
  show Go p e below s (Q19 Z ii nn fm h0 n0) ({ frames := 0, cells := 0, slots := 0, locals := 0 } : Room).cells ({ frames := 0, cells := 0, slots := 0, locals := 0 } : Room).slots (s₁.setTop (entryFrame m #[(.int ii), (.int nn), fm] 3))
  rw [ef_19 m ii nn fm hfm]
  show Go _ _ _ _ _ _ _ (s₁.setTop (mkF m 0 #[.val (.int ii), .val (.int nn), .val fm] []))
  refine Go.step (fun t k => XS.iloadN X0.here hx rfl (hb hby d19_0) rfl k) ?_
  show Go _ _ _ _ _ _ _ (s₁.setTop (mkF m 1 #[.val (.int ii), .val (.int nn), .val fm] [(.int ii)]))
  refine Go.step (fun t k => XS.ifNo X0.here hx rfl (hb hby d19_1) rfl ((if0 _ _).trans (flt (hi0 : ¬ ii < (0 : Int32))).1) k) ?_
  show Go _ _ _ _ _ _ _ (s₁.setTop (mkF m 4 #[.val (.int ii), .val (.int nn), .val fm] []))
  refine Go.step (fun t k => XS.iloadN X0.here hx rfl (hb hby d19_4) rfl k) ?_
  show Go _ _ _ _ _ _ _ (s₁.setTop (mkF m 5 #[.val (.int ii), .val (.int nn), .val fm] [(.int ii)]))
  refine Go.step (fun t k => XS.iloadN X0.here hx rfl (hb hby d19_5) rfl k) ?_
  show Go _ _ _ _ _ _ _ (s₁.setTop (mkF m 6 #[.val (.int ii), .val (.int nn), .val fm] [(.int nn), (.int ii)]))
  refine Go.step (fun t k => XS.icmpYes X0.here hx rfl (pc0 := 6) (pc' := 16) rfl (hb hby d19_6) rfl (tlt (hin : ii < nn)).1 (by decide) (by decide) k) ?_
  show Go _ _ _ _ _ _ _ (s₁.setTop (mkF m 16 #[.val (.int ii), .val (.int nn), .val fm] []))
  refine Go.step (fun t k => XS.iloadN X0.here hx rfl (hb hby d19_16) rfl k) ?_
  show Go _ _ _ _ _ _ _ (s₁.setTop (mkF m 17 #[.val (.int ii), .val (.int nn), .val fm] [(.int ii)]))
  refine Go.retI X0 Bd.notSynchronized hx Bd.returns (hb hby d19_17) (by decide) (by decide) ?_
  rw [e0]
  exact ⟨rfl, N0, rfl⟩
theorem d18_0 : decode jdk_42_method_155_code 0 = .ok (.iload_n 0, 1) := by decide +kernel
theorem d18_1 : decode jdk_42_method_155_code 1 = .ok (.iload_n 1, 1) := by decide +kernel
theorem d18_2 : decode jdk_42_method_155_code 2 = .ok (.getstatic 1053, 3) := by decide +kernel
theorem d18_5 : decode jdk_42_method_155_code 5 = .ok (.invokestatic 1059, 3) := by decide +kernel
theorem d18_8 : decode jdk_42_method_155_code 8 = .ok (.pop, 1) := by decide +kernel
theorem d18_9 : decode jdk_42_method_155_code 9 = .ok (.return_, 1) := by decide +kernel
theorem pn_18 : plainName "java/lang/String" = true := by first | (simp [plainName, overriddenIn]; done) | decide +kernel
theorem pd_18_0 : parseMethodDescriptor "(IILjava/util/function/BiFunction;)I" = some ⟨[.int, .int, (.object "java/util/function/BiFunction")], some .int⟩ := by decide +kernel
theorem ef_18 (m : MethodId) (x0 : Int32) (x1 : Int32) : entryFrame m #[(.int x0), (.int x1)] 2 = mkF m 0 #[.val (.int x0), .val (.int x1)] [] := by first | (simp [entryFrame, mkF, argsToLocals, Value.category]; done) | rfl
def Q18 (Z : State) (ii : Int32) (nn : Int32) (fm : Value) (h0 : Heap) (n0 : Nat) (v : Option Value) (h : Heap) (L : List Loc) : Prop := v = none ∧ Fr n0 L ∧ h = h0
set_option maxRecDepth 65536 in
set_option maxHeartbeats 40000000 in
theorem rm18 (l : Launch) (Z : State) (a0 : Array Value) (hw : ∀ d ∈ tables_1, d.before a0 Z = true) (ws : List Jvm.Cond) (ii : Int32) (nn : Int32) (fm : Value) (h0 : Heap) (n0 : Nat) (Z0 : n0 ≤ h0.size) (old : Old Z n0 h0) (hfs : (Sta Z Z.heap "jdk/internal/util/Preconditions" "SIOOBE_FORMATTER" "Ljava/util/function/BiFunction;" fm)) (hfr : (fm.isRef = true)) (hi0 : (¬ ii < (0 : Int32))) (hin : (ii < nn)) :
    MetFree l (⟨"java/lang/String", "checkIndex", "(II)V"⟩ : MethodName) (head1 (Jvm.Cond.code (⟨"java/lang/String", "checkIndex", "(II)V"⟩ : MethodName) jdk_42_method_155_code 2 none :: ws) ({ frames := 1, cells := 0, slots := 0, locals := 14 } : Room)) (fun a U => a = #[(.int ii), (.int nn)] ∧ Z.Warmed39 U.vm ∧ U.heap = h0) (fun _ _ _ _ _ => True) (fun _ U o U' => ∃ v L, o = .returned v ∧ Q18 Z ii nn fm h0 n0 v U'.heap L ∧ FrameEnd U o U' L ({ frames := 1, cells := 0, slots := 0, locals := 14 } : Room).cells ({ frames := 1, cells := 0, slots := 0, locals := 14 } : Room).slots) := by
  refine MetFree.of_bodySF (plainFor_of_name pn_18) hisR ?_
  intro p e s m args below meth c s₁ Bd hml0 hP hK
  obtain ⟨rfl, hZ, hh⟩ := hP
  have hx := Bd.exec
  have hby := Bd.bytes
  have hml : c.maxLocals = 2 := hml0
  have hown : s.vm.findClass "java/lang/String" = some m.cls := findClass_of_methodNamed Bd.named
  have hnm := (name_of_methodNamed Bd.named Bd.method).1
  have X0 : Stand p l e ({ frames := 1, cells := 0, slots := 0, locals := 14 } : Room) s m #[(.int ii), (.int nn)] below meth c s₁ [] 0 0 := Stand.of_body Bd
  have e0 : s₁.heap = h0 := by rw [← hh, Bd.state]; rfl
  have N0 := Fr.nil n0
  show Go p e below s (Q18 Z ii nn fm h0 n0) ({ frames := 1, cells := 0, slots := 0, locals := 14 } : Room).cells ({ frames := 1, cells := 0, slots := 0, locals := 14 } : Room).slots (s₁.setTop (entryFrame m #[(.int ii), (.int nn)] 2))
  rw [ef_18]
  show Go _ _ _ _ _ _ _ (s₁.setTop (mkF m 0 #[.val (.int ii), .val (.int nn)] []))
  have S_FM := Sta.ext old.2 hfs
  refine Go.step (fun t k => XS.iloadN X0.here hx rfl (hb hby d18_0) rfl k) ?_
  show Go _ _ _ _ _ _ _ (s₁.setTop (mkF m 1 #[.val (.int ii), .val (.int nn)] [(.int ii)]))
  refine Go.step (fun t k => XS.iloadN X0.here hx rfl (hb hby d18_1) rfl k) ?_
  show Go _ _ _ _ _ _ _ (s₁.setTop (mkF m 2 #[.val (.int ii), .val (.int nn)] [(.int nn), (.int ii)]))
  obtain ⟨T1, X1, e1, st1⟩ := getS2 X0 hx hZ hown (host := "") (Or.inl (hw _ (List.mem_of_getElem? (i := 117) rfl))) Via.refl e0 S_FM (g := (mkF m 2 #[.val (.int ii), .val (.int nn)] [(.int nn), (.int ii)])) rfl (hb hby d18_2)
  refine Go.step st1 ?_
  show Go _ _ _ _ _ _ _ (T1.setTop (mkF m 5 #[.val (.int ii), .val (.int nn)] [fm, (.int nn), (.int ii)]))
  obtain ⟨_, _, ⟨T2, L2, k2, n2⟩, -, X2, ⟨Lc2, hQ2, l2, y2, z2⟩, st2⟩ := Jvm.LawKit.callS X1 hx (y := (⟨"jdk/internal/util/Preconditions", "checkIndex", "(IILjava/util/function/BiFunction;)I"⟩ : MethodName)) hown (mvT hZ (hw _ (List.mem_of_getElem? (i := 119) rfl))) (mvT hZ (hw _ (List.mem_of_getElem? (i := 120) rfl))) (mvT hZ (hw _ (List.mem_of_getElem? (i := 118) rfl))) (mvT hZ (hw _ (List.mem_of_getElem? (i := 121) rfl))) (by decide) (backOf (W := 0) (rm19 l Z a0 hw [] ii nn fm h0 n0 Z0 hfr hi0 hin) hZ (hw _ (List.mem_of_getElem? (i := 121) rfl)) (hw _ (List.mem_of_getElem? (i := 118) rfl)) (by decide) (by decide)) (g := (mkF m 5 #[.val (.int ii), .val (.int nn)] [fm, (.int nn), (.int ii)])) rfl (by rw [hml]; rfl) (argsL := [(.int ii), (.int nn), fm]) (rest := []) (lenOf pd_18_0 rfl) rfl (by show 2 * 0 + _ ≤ _; exact Nat.le_of_eq rfl) (hb hby d18_5) (fun _ _ => ⟨rfl, e1, (by decide : 0 + 0 ≤ _), (by decide : 0 + 0 ≤ _)⟩)
  dsimp only [Pt.U, Pt.locs, Pt.cells, Pt.slots] at X2 l2 y2 z2 st2 hQ2
  subst l2 y2 z2
  obtain ⟨rfl, N2q, K2q⟩ := hQ2
  have N2 := Fr.app N0 N2q
  refine Go.step st2 ?_
  show Go _ _ _ _ _ _ _ (T2.setTop (mkF m 8 #[.val (.int ii), .val (.int nn)] [(.int ii)]))
  refine Go.step (fun t k => XS.pop X2.here hx rfl (hb hby d18_8) rfl rfl k) ?_
  show Go _ _ _ _ _ _ _ (T2.setTop (mkF m 9 #[.val (.int ii), .val (.int nn)] []))
  refine Go.retV X2 Bd.notSynchronized hx Bd.returns (hb hby d18_9) (by decide) (by decide) ?_
  rw [K2q]
  exact ⟨rfl, N2, rfl⟩
theorem d17_0 : decode jdk_43_method_2_code 0 = .ok (.iload_n 1, 1) := by decide +kernel
theorem d17_1 : decode jdk_43_method_2_code 1 = .ok (.aload_n 0, 1) := by decide +kernel
theorem d17_2 : decode jdk_43_method_2_code 2 = .ok (.arraylength, 1) := by decide +kernel
theorem d17_3 : decode jdk_43_method_2_code 3 = .ok (.invokestatic 9, 3) := by decide +kernel
theorem d17_6 : decode jdk_43_method_2_code 6 = .ok (.aload_n 0, 1) := by decide +kernel
theorem d17_7 : decode jdk_43_method_2_code 7 = .ok (.iload_n 1, 1) := by decide +kernel
theorem d17_8 : decode jdk_43_method_2_code 8 = .ok (.baload, 1) := by decide +kernel
theorem d17_9 : decode jdk_43_method_2_code 9 = .ok (.sipush 255, 3) := by decide +kernel
theorem d17_12 : decode jdk_43_method_2_code 12 = .ok (.iand, 1) := by decide +kernel
theorem d17_13 : decode jdk_43_method_2_code 13 = .ok (.i2c, 1) := by decide +kernel
theorem d17_14 : decode jdk_43_method_2_code 14 = .ok (.ireturn, 1) := by decide +kernel
theorem pn_17 : plainName "java/lang/StringLatin1" = true := by first | (simp [plainName, overriddenIn]; done) | decide +kernel
theorem pd_17_0 : parseMethodDescriptor "(II)V" = some ⟨[.int, .int], none⟩ := by decide +kernel
theorem ef_17 (m : MethodId) (x0 : Addr) (x1 : Int32) : entryFrame m #[(.ref x0), (.int x1)] 2 = mkF m 0 #[.val (.ref x0), .val (.int x1)] [] := by first | (simp [entryFrame, mkF, argsToLocals, Value.category]; done) | rfl
def Q17 (Z : State) (bv : Addr) (ii : Int32) (fm : Value) (nb : Nat) (zb : Int32) (gb : Nat → Int32) (ki : Nat) (h0 : Heap) (n0 : Nat) (v : Option Value) (h : Heap) (L : List Loc) : Prop := ∃ z : Int32, v = some (.int z) ∧ Fr n0 L ∧ h = h0
set_option maxRecDepth 65536 in
set_option maxHeartbeats 40000000 in
theorem rm17 (l : Launch) (Z : State) (a0 : Array Value) (hw : ∀ d ∈ tables_1, d.before a0 Z = true) (ws : List Jvm.Cond) (bv : Addr) (ii : Int32) (fm : Value) (nb : Nat) (zb : Int32) (gb : Nat → Int32) (ki : Nat) (h0 : Heap) (n0 : Nat) (Z0 : n0 ≤ h0.size) (old : Old Z n0 h0) (hfs : (Sta Z Z.heap "jdk/internal/util/Preconditions" "SIOOBE_FORMATTER" "Ljava/util/function/BiFunction;" fm)) (hfr : (fm.isRef = true)) (A_bv : AryI Z h0 bv .byte nb gb) (hzb : (zb.toInt = (nb : Int))) (hki : (ii.toInt = (ki : Int))) (hlt : (ki < nb)) :
    MetFree l (⟨"java/lang/StringLatin1", "charAt", "([BI)C"⟩ : MethodName) (head1 (Jvm.Cond.code (⟨"java/lang/StringLatin1", "charAt", "([BI)C"⟩ : MethodName) jdk_43_method_2_code 2 (some .char) :: ws) ({ frames := 2, cells := 0, slots := 0, locals := 27 } : Room)) (fun a U => a = #[(.ref bv), (.int ii)] ∧ Z.Warmed39 U.vm ∧ U.heap = h0) (fun _ _ _ _ _ => True) (fun _ U o U' => ∃ v L, o = .returned v ∧ Q17 Z bv ii fm nb zb gb ki h0 n0 v U'.heap L ∧ FrameEnd U o U' L ({ frames := 2, cells := 0, slots := 0, locals := 27 } : Room).cells ({ frames := 2, cells := 0, slots := 0, locals := 27 } : Room).slots) := by
  refine MetFree.of_bodySF (plainFor_of_name pn_17) hisR ?_
  intro p e s m args below meth c s₁ Bd hml0 hP hK
  obtain ⟨rfl, hZ, hh⟩ := hP
  have hx := Bd.exec
  have hby := Bd.bytes
  have hml : c.maxLocals = 2 := hml0
  have hown : s.vm.findClass "java/lang/StringLatin1" = some m.cls := findClass_of_methodNamed Bd.named
  have hnm := (name_of_methodNamed Bd.named Bd.method).1
  have X0 : Stand p l e ({ frames := 2, cells := 0, slots := 0, locals := 27 } : Room) s m #[(.ref bv), (.int ii)] below meth c s₁ [] 0 0 := Stand.of_body Bd
  have e0 : s₁.heap = h0 := by rw [← hh, Bd.state]; rfl
  have N0 := Fr.nil n0
  show Go p e below s (Q17 Z bv ii fm nb zb gb ki h0 n0) ({ frames := 2, cells := 0, slots := 0, locals := 27 } : Room).cells ({ frames := 2, cells := 0, slots := 0, locals := 27 } : Room).slots (s₁.setTop (entryFrame m #[(.ref bv), (.int ii)] 2))
  rw [ef_17]
  show Go _ _ _ _ _ _ _ (s₁.setTop (mkF m 0 #[.val (.ref bv), .val (.int ii)] []))
  refine Go.step (fun t k => XS.iloadN X0.here hx rfl (hb hby d17_0) rfl k) ?_
  show Go _ _ _ _ _ _ _ (s₁.setTop (mkF m 1 #[.val (.ref bv), .val (.int ii)] [(.int ii)]))
  refine Go.step (fun t k => XS.aloadN X0.here hx rfl (hb hby d17_1) rfl rfl k) ?_
  show Go _ _ _ _ _ _ _ (s₁.setTop (mkF m 2 #[.val (.ref bv), .val (.int ii)] [(.ref bv), (.int ii)]))
  refine Go.step (own_len X0 hx hZ e0 A_bv (z := zb) (own_tz hzb) (f := (mkF m 2 #[.val (.ref bv), .val (.int ii)] [(.ref bv), (.int ii)])) rfl rfl (hb hby d17_2)) ?_
  show Go _ _ _ _ _ _ _ (s₁.setTop (mkF m 3 #[.val (.ref bv), .val (.int ii)] [(.int zb), (.int ii)]))
  obtain ⟨_, _, ⟨T2, L2, k2, n2⟩, -, X2, ⟨Lc2, hQ2, l2, y2, z2⟩, st2⟩ := Jvm.LawKit.callS X0 hx (y := (⟨"java/lang/String", "checkIndex", "(II)V"⟩ : MethodName)) hown (mvT hZ (hw _ (List.mem_of_getElem? (i := 114) rfl))) (mvT hZ (hw _ (List.mem_of_getElem? (i := 115) rfl))) (mvT hZ (hw _ (List.mem_of_getElem? (i := 3) rfl))) (mvT hZ (hw _ (List.mem_of_getElem? (i := 116) rfl))) (by decide) (backOf (W := 0) (rm18 l Z a0 hw [] ii zb fm h0 n0 Z0 old hfs hfr (own_nn hki) (own_lt_ hki hzb hlt)) hZ (hw _ (List.mem_of_getElem? (i := 116) rfl)) (hw _ (List.mem_of_getElem? (i := 3) rfl)) (by decide) (by decide)) (g := (mkF m 3 #[.val (.ref bv), .val (.int ii)] [(.int zb), (.int ii)])) rfl (by rw [hml]; rfl) (argsL := [(.int ii), (.int zb)]) (rest := []) (lenOf pd_17_0 rfl) rfl (by show 2 * 0 + _ ≤ _; exact Nat.le_of_eq rfl) (hb hby d17_3) (fun _ _ => ⟨rfl, e0, (by decide : 0 + 0 ≤ _), (by decide : 0 + 0 ≤ _)⟩)
  dsimp only [Pt.U, Pt.locs, Pt.cells, Pt.slots] at X2 l2 y2 z2 st2 hQ2
  subst l2 y2 z2
  obtain ⟨rfl, N2q, K2q⟩ := hQ2
  have N2 := Fr.app N0 N2q
  refine Go.step st2 ?_
  show Go _ _ _ _ _ _ _ (T2.setTop (mkF m 6 #[.val (.ref bv), .val (.int ii)] []))
  refine Go.step (fun t k => XS.aloadN X2.here hx rfl (hb hby d17_6) rfl rfl k) ?_
  show Go _ _ _ _ _ _ _ (T2.setTop (mkF m 7 #[.val (.ref bv), .val (.int ii)] [(.ref bv)]))
  refine Go.step (fun t k => XS.iloadN X2.here hx rfl (hb hby d17_7) rfl k) ?_
  show Go _ _ _ _ _ _ _ (T2.setTop (mkF m 8 #[.val (.ref bv), .val (.int ii)] [(.int ii), (.ref bv)]))
  refine Go.step (own_ld X2 hx hZ K2q A_bv (j := ii) ki hki hlt (v := (.int (gb ki))) rfl (Or.inr (Or.inr (Or.inr ⟨rfl, rfl⟩))) (f := (mkF m 8 #[.val (.ref bv), .val (.int ii)] [(.int ii), (.ref bv)])) rfl rfl (hb hby d17_8)) ?_
  show Go _ _ _ _ _ _ _ (T2.setTop (mkF m 9 #[.val (.ref bv), .val (.int ii)] [(.int (gb ki))]))
  refine Go.step (fun t k => XS.sipush X2.here hx rfl (hb hby d17_9) k) ?_
  show Go _ _ _ _ _ _ _ (T2.setTop (mkF m 12 #[.val (.ref bv), .val (.int ii)] [(.int (255 : Int32)), (.int (gb ki))]))
  refine Go.step (fun t k => XS.iand X2.here hx rfl (hb hby d17_12) rfl k) ?_
  show Go _ _ _ _ _ _ _ (T2.setTop (mkF m 13 #[.val (.ref bv), .val (.int ii)] [(.int ((gb ki) &&& (255 : Int32)))]))
  refine Go.step (fun t k => XS.i2c X2.here hx rfl (hb hby d17_13) rfl k) ?_
  show Go _ _ _ _ _ _ _ (T2.setTop (mkF m 14 #[.val (.ref bv), .val (.int ii)] [(.int (((gb ki) &&& (255 : Int32)).toUInt32.toUInt16.toUInt32.toInt32))]))
  refine Go.retN X2 Bd.notSynchronized hx (t := .char) Bd.returns (by simp) (hb hby d17_14) (by decide) (by decide) (nar .char (((gb ki) &&& (255 : Int32)).toUInt32.toUInt16.toUInt32.toInt32)) rfl ?_
  rw [K2q]
  exact ⟨_, rfl, N2, rfl⟩
theorem d15_0 : decode jdk_42_method_56_code 0 = .ok (.aload_n 0, 1) := by decide +kernel
theorem d15_1 : decode jdk_42_method_56_code 1 = .ok (.invokevirtual 492, 3) := by decide +kernel
theorem d15_4 : decode jdk_42_method_56_code 4 = .ok (.ifCond .eq 12, 3) := by decide +kernel
theorem d15_7 : decode jdk_42_method_56_code 7 = .ok (.aload_n 0, 1) := by decide +kernel
theorem d15_8 : decode jdk_42_method_56_code 8 = .ok (.getfield 9, 3) := by decide +kernel
theorem d15_11 : decode jdk_42_method_56_code 11 = .ok (.iload_n 1, 1) := by decide +kernel
theorem d15_12 : decode jdk_42_method_56_code 12 = .ok (.invokestatic 495, 3) := by decide +kernel
theorem d15_15 : decode jdk_42_method_56_code 15 = .ok (.ireturn, 1) := by decide +kernel
theorem pn_15 : plainName "java/lang/String" = true := by first | (simp [plainName, overriddenIn]; done) | decide +kernel
theorem pd_15_0 : parseMethodDescriptor "()Z" = some ⟨[], some .boolean⟩ := by decide +kernel
theorem pd_15_1 : parseMethodDescriptor "([BI)C" = some ⟨[(.array .byte), .int], some .char⟩ := by decide +kernel
theorem ef_15 (m : MethodId) (x0 : Addr) (x1 : Int32) : entryFrame m #[(.ref x0), (.int x1)] 2 = mkF m 0 #[.val (.ref x0), .val (.int x1)] [] := by first | (simp [entryFrame, mkF, argsToLocals, Value.category]; done) | rfl
def Q15 (Z : State) (aa : Addr) (ii : Int32) (cs : Int32) (fm : Value) (bv : Addr) (nb : Nat) (zb : Int32) (gb : Nat → Int32) (ki : Nat) (h0 : Heap) (n0 : Nat) (v : Option Value) (h : Heap) (L : List Loc) : Prop := ∃ z : Int32, v = some (.int z) ∧ Fr n0 L ∧ h = h0
set_option maxRecDepth 65536 in
set_option maxHeartbeats 40000000 in
theorem rm15 (l : Launch) (Z : State) (a0 : Array Value) (hw : ∀ d ∈ tables_1, d.before a0 Z = true) (ws : List Jvm.Cond) (aa : Addr) (ii : Int32) (cs : Int32) (fm : Value) (bv : Addr) (nb : Nat) (zb : Int32) (gb : Nat → Int32) (ki : Nat) (h0 : Heap) (n0 : Nat) (Z0 : n0 ≤ h0.size) (old : Old Z n0 h0) (hcs : (Sta Z Z.heap "java/lang/String" "COMPACT_STRINGS" "Z" (.int cs))) (hc0 : (¬ cs = (0 : Int32))) (hfs : (Sta Z Z.heap "jdk/internal/util/Preconditions" "SIOOBE_FORMATTER" "Ljava/util/function/BiFunction;" fm)) (hfr : (fm.isRef = true)) (E_aa : Exa Z h0 aa "java/lang/String") (F_value_aa : Fld Z h0 aa "java/lang/String" "value" "[B" (.ref bv)) (F_coder_aa : Fld Z h0 aa "java/lang/String" "coder" "B" (.int (0 : Int32))) (A_bv : AryI Z h0 bv .byte nb gb) (hzb : (zb.toInt = (nb : Int))) (hki : (ii.toInt = (ki : Int))) (hlt : (ki < nb)) :
    MetFree l (⟨"java/lang/String", "charAt", "(I)C"⟩ : MethodName) (head1 (Jvm.Cond.code (⟨"java/lang/String", "charAt", "(I)C"⟩ : MethodName) jdk_42_method_56_code 2 (some .char) :: ws) ({ frames := 3, cells := 0, slots := 0, locals := 40 } : Room)) (fun a U => a = #[(.ref aa), (.int ii)] ∧ Z.Warmed39 U.vm ∧ U.heap = h0) (fun _ _ _ _ _ => True) (fun _ U o U' => ∃ v L, o = .returned v ∧ Q15 Z aa ii cs fm bv nb zb gb ki h0 n0 v U'.heap L ∧ FrameEnd U o U' L ({ frames := 3, cells := 0, slots := 0, locals := 40 } : Room).cells ({ frames := 3, cells := 0, slots := 0, locals := 40 } : Room).slots) := by
  refine MetFree.of_bodySF (plainFor_of_name pn_15) hisR ?_
  intro p e s m args below meth c s₁ Bd hml0 hP hK
  obtain ⟨rfl, hZ, hh⟩ := hP
  have hx := Bd.exec
  have hby := Bd.bytes
  have hml : c.maxLocals = 2 := hml0
  have hown : s.vm.findClass "java/lang/String" = some m.cls := findClass_of_methodNamed Bd.named
  have hnm := (name_of_methodNamed Bd.named Bd.method).1
  have X0 : Stand p l e ({ frames := 3, cells := 0, slots := 0, locals := 40 } : Room) s m #[(.ref aa), (.int ii)] below meth c s₁ [] 0 0 := Stand.of_body Bd
  have e0 : s₁.heap = h0 := by rw [← hh, Bd.state]; rfl
  have N0 := Fr.nil n0
  show Go p e below s (Q15 Z aa ii cs fm bv nb zb gb ki h0 n0) ({ frames := 3, cells := 0, slots := 0, locals := 40 } : Room).cells ({ frames := 3, cells := 0, slots := 0, locals := 40 } : Room).slots (s₁.setTop (entryFrame m #[(.ref aa), (.int ii)] 2))
  rw [ef_15]
  show Go _ _ _ _ _ _ _ (s₁.setTop (mkF m 0 #[.val (.ref aa), .val (.int ii)] []))
  refine Go.step (fun t k => XS.aloadN X0.here hx rfl (hb hby d15_0) rfl rfl k) ?_
  show Go _ _ _ _ _ _ _ (s₁.setTop (mkF m 1 #[.val (.ref aa), .val (.int ii)] [(.ref aa)]))
  obtain ⟨cq1, kq1, q1a, q1b, q1c⟩ := isOf hZ e0 E_aa
  obtain ⟨_, _, ⟨T1, L1, k1, n1⟩, -, X1, ⟨Lc1, hQ1, l1, y1, z1⟩, st1⟩ := X0.virtualBack hx (y := (⟨"java/lang/String", "isLatin1", "()Z"⟩ : MethodName)) (z := (⟨"java/lang/String", "isLatin1", "()Z"⟩ : MethodName)) hown (mvT hZ (hw _ (List.mem_of_getElem? (i := 106) rfl))) (mvT hZ (hw _ (List.mem_of_getElem? (i := 107) rfl))) (notFace_of_selects (args := #[]) (mvT hZ (hw _ (List.mem_of_getElem? (i := 109) rfl)))) (mvT hZ (hw _ (List.mem_of_getElem? (i := 109) rfl))) (mvT hZ (hw _ (List.mem_of_getElem? (i := 108) rfl))) (by decide) (backOf (W := 0) (rm16 l Z a0 hw [] aa cs h0 n0 Z0 old hcs hc0 F_coder_aa) hZ (hw _ (List.mem_of_getElem? (i := 110) rfl)) (hw _ (List.mem_of_getElem? (i := 3) rfl)) (by decide) (by decide)) q1a q1c (g := (mkF m 1 #[.val (.ref aa), .val (.int ii)] [(.ref aa)])) rfl (by rw [hml]; rfl) (Steps.refl _) (argsL := []) (rest := []) (lenOf pd_15_0 rfl) rfl (by show 2 * 0 + _ ≤ _; exact Nat.le_of_eq rfl) (hb hby d15_1) (fun _ _ => ⟨rfl, e0, (by decide : 0 + 0 ≤ _), (by decide : 0 + 0 ≤ _)⟩)
  dsimp only [Pt.U, Pt.locs, Pt.cells, Pt.slots] at X1 l1 y1 z1 st1 hQ1
  subst l1 y1 z1
  obtain ⟨rfl, N1q, K1q⟩ := hQ1
  have N1 := Fr.app N0 N1q
  refine Go.step (fun t k => st1.trans k) ?_
  show Go _ _ _ _ _ _ _ (T1.setTop (mkF m 4 #[.val (.ref aa), .val (.int ii)] [(.int (1 : Int32))]))
  refine Go.step (fun t k => XS.ifNo X1.here hx rfl (hb hby d15_4) rfl ((if0 _ _).trans (feq (by decide : ¬ (1 : Int32) = (0 : Int32))).1) k) ?_
  show Go _ _ _ _ _ _ _ (T1.setTop (mkF m 7 #[.val (.ref aa), .val (.int ii)] []))
  refine Go.step (fun t k => XS.aloadN X1.here hx rfl (hb hby d15_7) rfl rfl k) ?_
  show Go _ _ _ _ _ _ _ (T1.setTop (mkF m 8 #[.val (.ref aa), .val (.int ii)] [(.ref aa)]))
  obtain ⟨T2, X2, e2, st2⟩ := getF X1 hx hZ hown (host := "") (Or.inl (hw _ (List.mem_of_getElem? (i := 23) rfl))) Via.refl K1q F_value_aa (g := (mkF m 8 #[.val (.ref aa), .val (.int ii)] [(.ref aa)])) rfl rfl (hb hby d15_8)
  refine Go.step st2 ?_
  show Go _ _ _ _ _ _ _ (T2.setTop (mkF m 11 #[.val (.ref aa), .val (.int ii)] [(.ref bv)]))
  refine Go.step (fun t k => XS.iloadN X2.here hx rfl (hb hby d15_11) rfl k) ?_
  show Go _ _ _ _ _ _ _ (T2.setTop (mkF m 12 #[.val (.ref aa), .val (.int ii)] [(.int ii), (.ref bv)]))
  obtain ⟨_, _, ⟨T3, L3, k3, n3⟩, -, X3, ⟨Lc3, hQ3, l3, y3, z3⟩, st3⟩ := Jvm.LawKit.callS X2 hx (y := (⟨"java/lang/StringLatin1", "charAt", "([BI)C"⟩ : MethodName)) hown (mvT hZ (hw _ (List.mem_of_getElem? (i := 111) rfl))) (mvT hZ (hw _ (List.mem_of_getElem? (i := 112) rfl))) (mvT hZ (hw _ (List.mem_of_getElem? (i := 8) rfl))) (mvT hZ (hw _ (List.mem_of_getElem? (i := 113) rfl))) (by decide) (backOf (W := 0) (rm17 l Z a0 hw [] bv ii fm nb zb gb ki h0 n0 Z0 old hfs hfr A_bv hzb hki hlt) hZ (hw _ (List.mem_of_getElem? (i := 113) rfl)) (hw _ (List.mem_of_getElem? (i := 8) rfl)) (by decide) (by decide)) (g := (mkF m 12 #[.val (.ref aa), .val (.int ii)] [(.int ii), (.ref bv)])) rfl (by rw [hml]; rfl) (argsL := [(.ref bv), (.int ii)]) (rest := []) (lenOf pd_15_1 rfl) rfl (by show 2 * 0 + _ ≤ _; exact Nat.le_of_eq rfl) (hb hby d15_12) (fun _ _ => ⟨rfl, e2, (by decide : 0 + 0 ≤ _), (by decide : 0 + 0 ≤ _)⟩)
  dsimp only [Pt.U, Pt.locs, Pt.cells, Pt.slots] at X3 l3 y3 z3 st3 hQ3
  subst l3 y3 z3
  obtain ⟨z_3, rfl, N3q, K3q⟩ := hQ3
  have N3 := Fr.app N1 N3q
  refine Go.step st3 ?_
  show Go _ _ _ _ _ _ _ (T3.setTop (mkF m 15 #[.val (.ref aa), .val (.int ii)] [(.int z_3)]))
  refine Go.retN X3 Bd.notSynchronized hx (t := .char) Bd.returns (by simp) (hb hby d15_15) (by decide) (by decide) (nar .char z_3) rfl ?_
  rw [K3q]
  exact ⟨_, rfl, N3, rfl⟩
theorem d14_0 : decode prog_63_method_11_code 0 = .ok (.aload_n 0, 1) := by decide +kernel
theorem d14_1 : decode prog_63_method_11_code 1 = .ok (.getfield 32, 3) := by decide +kernel
theorem d14_4 : decode prog_63_method_11_code 4 = .ok (.iload_n 1, 1) := by decide +kernel
theorem d14_5 : decode prog_63_method_11_code 5 = .ok (.iadd, 1) := by decide +kernel
theorem d14_6 : decode prog_63_method_11_code 6 = .ok (.aload_n 0, 1) := by decide +kernel
theorem d14_7 : decode prog_63_method_11_code 7 = .ok (.getfield 7, 3) := by decide +kernel
theorem d14_10 : decode prog_63_method_11_code 10 = .ok (.arraylength, 1) := by decide +kernel
theorem d14_11 : decode prog_63_method_11_code 11 = .ok (.if_icmp .le 30, 3) := by decide +kernel
theorem d14_41 : decode prog_63_method_11_code 41 = .ok (.aload_n 0, 1) := by decide +kernel
theorem d14_42 : decode prog_63_method_11_code 42 = .ok (.getfield 36, 3) := by decide +kernel
theorem d14_45 : decode prog_63_method_11_code 45 = .ok (.aload_n 0, 1) := by decide +kernel
theorem d14_46 : decode prog_63_method_11_code 46 = .ok (.getfield 13, 3) := by decide +kernel
theorem d14_49 : decode prog_63_method_11_code 49 = .ok (.arraylength, 1) := by decide +kernel
theorem d14_50 : decode prog_63_method_11_code 50 = .ok (.if_icmp .ne 37, 3) := by decide +kernel
theorem d14_87 : decode prog_63_method_11_code 87 = .ok (.aload_n 0, 1) := by decide +kernel
theorem d14_88 : decode prog_63_method_11_code 88 = .ok (.getfield 32, 3) := by decide +kernel
theorem d14_91 : decode prog_63_method_11_code 91 = .ok (.istore_n 2, 1) := by decide +kernel
theorem d14_92 : decode prog_63_method_11_code 92 = .ok (.aload_n 0, 1) := by decide +kernel
theorem d14_93 : decode prog_63_method_11_code 93 = .ok (.getfield 13, 3) := by decide +kernel
theorem d14_96 : decode prog_63_method_11_code 96 = .ok (.aload_n 0, 1) := by decide +kernel
theorem d14_97 : decode prog_63_method_11_code 97 = .ok (.getfield 36, 3) := by decide +kernel
theorem d14_100 : decode prog_63_method_11_code 100 = .ok (.iload_n 2, 1) := by decide +kernel
theorem d14_101 : decode prog_63_method_11_code 101 = .ok (.iastore, 1) := by decide +kernel
theorem d14_102 : decode prog_63_method_11_code 102 = .ok (.aload_n 0, 1) := by decide +kernel
theorem d14_103 : decode prog_63_method_11_code 103 = .ok (.getfield 17, 3) := by decide +kernel
theorem d14_106 : decode prog_63_method_11_code 106 = .ok (.aload_n 0, 1) := by decide +kernel
theorem d14_107 : decode prog_63_method_11_code 107 = .ok (.getfield 36, 3) := by decide +kernel
theorem d14_110 : decode prog_63_method_11_code 110 = .ok (.iload_n 2, 1) := by decide +kernel
theorem d14_111 : decode prog_63_method_11_code 111 = .ok (.iload_n 1, 1) := by decide +kernel
theorem d14_112 : decode prog_63_method_11_code 112 = .ok (.iadd, 1) := by decide +kernel
theorem d14_113 : decode prog_63_method_11_code 113 = .ok (.iastore, 1) := by decide +kernel
theorem d14_114 : decode prog_63_method_11_code 114 = .ok (.aload_n 0, 1) := by decide +kernel
theorem d14_115 : decode prog_63_method_11_code 115 = .ok (.dup, 1) := by decide +kernel
theorem d14_116 : decode prog_63_method_11_code 116 = .ok (.getfield 36, 3) := by decide +kernel
theorem d14_119 : decode prog_63_method_11_code 119 = .ok (.iconst 1, 1) := by decide +kernel
theorem d14_120 : decode prog_63_method_11_code 120 = .ok (.iadd, 1) := by decide +kernel
theorem d14_121 : decode prog_63_method_11_code 121 = .ok (.putfield 36, 3) := by decide +kernel
theorem d14_124 : decode prog_63_method_11_code 124 = .ok (.aload_n 0, 1) := by decide +kernel
theorem d14_125 : decode prog_63_method_11_code 125 = .ok (.dup, 1) := by decide +kernel
theorem d14_126 : decode prog_63_method_11_code 126 = .ok (.getfield 32, 3) := by decide +kernel
theorem d14_129 : decode prog_63_method_11_code 129 = .ok (.iload_n 1, 1) := by decide +kernel
theorem d14_130 : decode prog_63_method_11_code 130 = .ok (.iadd, 1) := by decide +kernel
theorem d14_131 : decode prog_63_method_11_code 131 = .ok (.putfield 32, 3) := by decide +kernel
theorem d14_134 : decode prog_63_method_11_code 134 = .ok (.iload_n 2, 1) := by decide +kernel
theorem d14_135 : decode prog_63_method_11_code 135 = .ok (.ireturn, 1) := by decide +kernel
theorem pn_14 : plainName "com/example/vestwright/vestwright/io/Records" = true := by first | (simp [plainName, overriddenIn]; done) | decide +kernel
theorem ef_14 (m : MethodId) (x0 : Addr) (x1 : Int32) : entryFrame m #[(.ref x0), (.int x1)] 3 = mkF m 0 #[.val (.ref x0), .val (.int x1), .unset] [] := by first | (simp [entryFrame, mkF, argsToLocals, Value.category]; done) | rfl
def Q14 (Z : State) (aa : Addr) (lv : Int32) (bt : Addr) (bs : Addr) (be : Addr) (bf : Addr) (bn : Addr) (bx : Addr) (tu : Int32) (fv : Int32) (rv : Int32) (ku : Nat) (kl : Nat) (kf : Nat) (gs : Nat → Int32) (ge_ : Nat → Int32) (h0 : Heap) (n0 : Nat) (v : Option Value) (h : Heap) (L : List Loc) : Prop := v = some (.int tu) ∧ Fr n0 L ∧ Keep h0 h [aa, bs, be] ∧ Fld Z h aa "com/example/vestwright/vestwright/io/Records" "text" "[C" (.ref bt) ∧ Fld Z h aa "com/example/vestwright/vestwright/io/Records" "starts" "[I" (.ref bs) ∧ Fld Z h aa "com/example/vestwright/vestwright/io/Records" "ends" "[I" (.ref be) ∧ Fld Z h aa "com/example/vestwright/vestwright/io/Records" "firstFields" "[I" (.ref bf) ∧ Fld Z h aa "com/example/vestwright/vestwright/io/Records" "lines" "[I" (.ref bn) ∧ Fld Z h aa "com/example/vestwright/vestwright/io/Records" "faults" "[Lcom/example/vestwright/vestwright/io/CsvFormatException;" (.ref bx) ∧ Fld Z h aa "com/example/vestwright/vestwright/io/Records" "textUsed" "I" (.int (tu + lv)) ∧ Fld Z h aa "com/example/vestwright/vestwright/io/Records" "fields" "I" (.int (fv + (1 : Int32))) ∧ Fld Z h aa "com/example/vestwright/vestwright/io/Records" "records" "I" (.int rv) ∧ AryI Z h bs .int 256 (up gs kf tu) ∧ AryI Z h be .int 256 (up ge_ kf (tu + lv))
set_option maxRecDepth 65536 in
set_option maxHeartbeats 40000000 in
theorem rm14 (l : Launch) (Z : State) (a0 : Array Value) (hw : ∀ d ∈ tables_1, d.before a0 Z = true) (ws : List Jvm.Cond) (aa : Addr) (lv : Int32) (bt : Addr) (bs : Addr) (be : Addr) (bf : Addr) (bn : Addr) (bx : Addr) (tu : Int32) (fv : Int32) (rv : Int32) (ku : Nat) (kl : Nat) (kf : Nat) (gs : Nat → Int32) (ge_ : Nat → Int32) (h0 : Heap) (n0 : Nat) (Z0 : n0 ≤ h0.size) (F_text_aa : Fld Z h0 aa "com/example/vestwright/vestwright/io/Records" "text" "[C" (.ref bt)) (F_starts_aa : Fld Z h0 aa "com/example/vestwright/vestwright/io/Records" "starts" "[I" (.ref bs)) (F_ends_aa : Fld Z h0 aa "com/example/vestwright/vestwright/io/Records" "ends" "[I" (.ref be)) (F_firstFields_aa : Fld Z h0 aa "com/example/vestwright/vestwright/io/Records" "firstFields" "[I" (.ref bf)) (F_lines_aa : Fld Z h0 aa "com/example/vestwright/vestwright/io/Records" "lines" "[I" (.ref bn)) (F_faults_aa : Fld Z h0 aa "com/example/vestwright/vestwright/io/Records" "faults" "[Lcom/example/vestwright/vestwright/io/CsvFormatException;" (.ref bx)) (F_textUsed_aa : Fld Z h0 aa "com/example/vestwright/vestwright/io/Records" "textUsed" "I" (.int tu)) (F_fields_aa : Fld Z h0 aa "com/example/vestwright/vestwright/io/Records" "fields" "I" (.int fv)) (F_records_aa : Fld Z h0 aa "com/example/vestwright/vestwright/io/Records" "records" "I" (.int rv)) (E_aa : Exa Z h0 aa "com/example/vestwright/vestwright/io/Records") (g_aa : n0 ≤ aa) (g_bs : n0 ≤ bs) (g_be : n0 ≤ be) (T_bt : Txt Z h0 bt 4096) (A_bs : AryI Z h0 bs .int 256 gs) (A_be : AryI Z h0 be .int 256 ge_) (ne_bt_bs : bt ≠ bs) (ne_bt_be : bt ≠ be) (ne_bs_be : bs ≠ be) (ne_aa_bt : aa ≠ bt) (ne_aa_bs : aa ≠ bs) (ne_aa_be : aa ≠ be) (hku : (tu.toInt = (ku : Int))) (hkl : (lv.toInt = (kl : Int))) (hkf : (fv.toInt = (kf : Int))) (hf256 : (kf < 256)) (hsum : (ku + kl ≤ 4096)) :
    MetFree l (⟨"com/example/vestwright/vestwright/io/Records", "reserve", "(I)I"⟩ : MethodName) (head1 (Jvm.Cond.code (⟨"com/example/vestwright/vestwright/io/Records", "reserve", "(I)I"⟩ : MethodName) prog_63_method_11_code 3 (some .int) :: ws) ({ frames := 0, cells := 0, slots := 0, locals := 0 } : Room)) (fun a U => a = #[(.ref aa), (.int lv)] ∧ Z.Warmed39 U.vm ∧ U.heap = h0) (fun _ _ _ _ _ => True) (fun _ U o U' => ∃ v L, o = .returned v ∧ Q14 Z aa lv bt bs be bf bn bx tu fv rv ku kl kf gs ge_ h0 n0 v U'.heap L ∧ FrameEnd U o U' L ({ frames := 0, cells := 0, slots := 0, locals := 0 } : Room).cells ({ frames := 0, cells := 0, slots := 0, locals := 0 } : Room).slots) := by
  refine MetFree.of_bodySF (plainFor_of_name pn_14) hisR ?_
  intro p e s m args below meth c s₁ Bd hml0 hP hK
  obtain ⟨rfl, hZ, hh⟩ := hP
  have hx := Bd.exec
  have hby := Bd.bytes
  have hml : c.maxLocals = 3 := hml0
  have hown : s.vm.findClass "com/example/vestwright/vestwright/io/Records" = some m.cls := findClass_of_methodNamed Bd.named
  have hnm := (name_of_methodNamed Bd.named Bd.method).1
  have X0 : Stand p l e ({ frames := 0, cells := 0, slots := 0, locals := 0 } : Room) s m #[(.ref aa), (.int lv)] below meth c s₁ [] 0 0 := Stand.of_body Bd
  have e0 : s₁.heap = h0 := by rw [← hh, Bd.state]; rfl
  have N0 := Fr.nil n0
  have K0 := Keep.refl h0 ([aa, bs, be] : List Addr)
  show Go p e below s (Q14 Z aa lv bt bs be bf bn bx tu fv rv ku kl kf gs ge_ h0 n0) ({ frames := 0, cells := 0, slots := 0, locals := 0 } : Room).cells ({ frames := 0, cells := 0, slots := 0, locals := 0 } : Room).slots (s₁.setTop (entryFrame m #[(.ref aa), (.int lv)] 3))
  rw [ef_14]
  show Go _ _ _ _ _ _ _ (s₁.setTop (mkF m 0 #[.val (.ref aa), .val (.int lv), .unset] []))
  refine Go.step (fun t k => XS.aloadN X0.here hx rfl (hb hby d14_0) rfl rfl k) ?_
  show Go _ _ _ _ _ _ _ (s₁.setTop (mkF m 1 #[.val (.ref aa), .val (.int lv), .unset] [(.ref aa)]))
  obtain ⟨T1, X1, e1, st1⟩ := getF X0 hx hZ hown (host := "") (Or.inl (hw _ (List.mem_of_getElem? (i := 96) rfl))) Via.refl e0 F_textUsed_aa (g := (mkF m 1 #[.val (.ref aa), .val (.int lv), .unset] [(.ref aa)])) rfl rfl (hb hby d14_1)
  refine Go.step st1 ?_
  show Go _ _ _ _ _ _ _ (T1.setTop (mkF m 4 #[.val (.ref aa), .val (.int lv), .unset] [(.int tu)]))
  refine Go.step (fun t k => XS.iloadN X1.here hx rfl (hb hby d14_4) rfl k) ?_
  show Go _ _ _ _ _ _ _ (T1.setTop (mkF m 5 #[.val (.ref aa), .val (.int lv), .unset] [(.int lv), (.int tu)]))
  refine Go.step (fun t k => XS.iadd X1.here hx rfl (hb hby d14_5) rfl k) ?_
  show Go _ _ _ _ _ _ _ (T1.setTop (mkF m 6 #[.val (.ref aa), .val (.int lv), .unset] [(.int (tu + lv))]))
  refine Go.step (fun t k => XS.aloadN X1.here hx rfl (hb hby d14_6) rfl rfl k) ?_
  show Go _ _ _ _ _ _ _ (T1.setTop (mkF m 7 #[.val (.ref aa), .val (.int lv), .unset] [(.ref aa), (.int (tu + lv))]))
  obtain ⟨T2, X2, e2, st2⟩ := getF X1 hx hZ hown (host := "") (Or.inl (hw _ (List.mem_of_getElem? (i := 35) rfl))) Via.refl e1 F_text_aa (g := (mkF m 7 #[.val (.ref aa), .val (.int lv), .unset] [(.ref aa), (.int (tu + lv))])) rfl rfl (hb hby d14_7)
  refine Go.step st2 ?_
  show Go _ _ _ _ _ _ _ (T2.setTop (mkF m 10 #[.val (.ref aa), .val (.int lv), .unset] [(.ref bt), (.int (tu + lv))]))
  refine Go.step (own_lenT X2 hx hZ e2 T_bt (z := (4096 : Int32)) rfl (f := (mkF m 10 #[.val (.ref aa), .val (.int lv), .unset] [(.ref bt), (.int (tu + lv))])) rfl rfl (hb hby d14_10)) ?_
  show Go _ _ _ _ _ _ _ (T2.setTop (mkF m 11 #[.val (.ref aa), .val (.int lv), .unset] [(.int (4096 : Int32)), (.int (tu + lv))]))
  refine Go.step (fun t k => XS.icmpYes X2.here hx rfl (pc0 := 11) (pc' := 41) rfl (hb hby d14_11) rfl (flt (own_nlt_ (k := 4096) rfl (own_add hku hkl (by omega)) (by omega) : ¬ (4096 : Int32) < (tu + lv))).2.2.2 (by decide) (by decide) k) ?_
  show Go _ _ _ _ _ _ _ (T2.setTop (mkF m 41 #[.val (.ref aa), .val (.int lv), .unset] []))
  refine Go.step (fun t k => XS.aloadN X2.here hx rfl (hb hby d14_41) rfl rfl k) ?_
  show Go _ _ _ _ _ _ _ (T2.setTop (mkF m 42 #[.val (.ref aa), .val (.int lv), .unset] [(.ref aa)]))
  obtain ⟨T4, X4, e4, st4⟩ := getF X2 hx hZ hown (host := "") (Or.inl (hw _ (List.mem_of_getElem? (i := 57) rfl))) Via.refl e2 F_fields_aa (g := (mkF m 42 #[.val (.ref aa), .val (.int lv), .unset] [(.ref aa)])) rfl rfl (hb hby d14_42)
  refine Go.step st4 ?_
  show Go _ _ _ _ _ _ _ (T4.setTop (mkF m 45 #[.val (.ref aa), .val (.int lv), .unset] [(.int fv)]))
  refine Go.step (fun t k => XS.aloadN X4.here hx rfl (hb hby d14_45) rfl rfl k) ?_
  show Go _ _ _ _ _ _ _ (T4.setTop (mkF m 46 #[.val (.ref aa), .val (.int lv), .unset] [(.ref aa), (.int fv)]))
  obtain ⟨T5, X5, e5, st5⟩ := getF X4 hx hZ hown (host := "") (Or.inl (hw _ (List.mem_of_getElem? (i := 38) rfl))) Via.refl e4 F_starts_aa (g := (mkF m 46 #[.val (.ref aa), .val (.int lv), .unset] [(.ref aa), (.int fv)])) rfl rfl (hb hby d14_46)
  refine Go.step st5 ?_
  show Go _ _ _ _ _ _ _ (T5.setTop (mkF m 49 #[.val (.ref aa), .val (.int lv), .unset] [(.ref bs), (.int fv)]))
  refine Go.step (own_len X5 hx hZ e5 A_bs (z := (256 : Int32)) rfl (f := (mkF m 49 #[.val (.ref aa), .val (.int lv), .unset] [(.ref bs), (.int fv)])) rfl rfl (hb hby d14_49)) ?_
  show Go _ _ _ _ _ _ _ (T5.setTop (mkF m 50 #[.val (.ref aa), .val (.int lv), .unset] [(.int (256 : Int32)), (.int fv)]))
  refine Go.step (fun t k => XS.icmpYes X5.here hx rfl (pc0 := 50) (pc' := 87) rfl (hb hby d14_50) rfl (feq (own_neq_ (j := 256) hkf rfl (by omega) : ¬ fv = (256 : Int32))).2 (by decide) (by decide) k) ?_
  show Go _ _ _ _ _ _ _ (T5.setTop (mkF m 87 #[.val (.ref aa), .val (.int lv), .unset] []))
  refine Go.step (fun t k => XS.aloadN X5.here hx rfl (hb hby d14_87) rfl rfl k) ?_
  show Go _ _ _ _ _ _ _ (T5.setTop (mkF m 88 #[.val (.ref aa), .val (.int lv), .unset] [(.ref aa)]))
  obtain ⟨T7, X7, e7, st7⟩ := getF X5 hx hZ hown (host := "") (Or.inl (hw _ (List.mem_of_getElem? (i := 96) rfl))) Via.refl e5 F_textUsed_aa (g := (mkF m 88 #[.val (.ref aa), .val (.int lv), .unset] [(.ref aa)])) rfl rfl (hb hby d14_88)
  refine Go.step st7 ?_
  show Go _ _ _ _ _ _ _ (T7.setTop (mkF m 91 #[.val (.ref aa), .val (.int lv), .unset] [(.int tu)]))
  refine Go.step (fun t k => XS.istoreN X7.here hx rfl (hb hby d14_91) rfl (l' := #[.val (.ref aa), .val (.int lv), .val (.int tu)]) rfl k) ?_
  show Go _ _ _ _ _ _ _ (T7.setTop (mkF m 92 #[.val (.ref aa), .val (.int lv), .val (.int tu)] []))
  refine Go.step (fun t k => XS.aloadN X7.here hx rfl (hb hby d14_92) rfl rfl k) ?_
  show Go _ _ _ _ _ _ _ (T7.setTop (mkF m 93 #[.val (.ref aa), .val (.int lv), .val (.int tu)] [(.ref aa)]))
  obtain ⟨T8, X8, e8, st8⟩ := getF X7 hx hZ hown (host := "") (Or.inl (hw _ (List.mem_of_getElem? (i := 38) rfl))) Via.refl e7 F_starts_aa (g := (mkF m 93 #[.val (.ref aa), .val (.int lv), .val (.int tu)] [(.ref aa)])) rfl rfl (hb hby d14_93)
  refine Go.step st8 ?_
  show Go _ _ _ _ _ _ _ (T8.setTop (mkF m 96 #[.val (.ref aa), .val (.int lv), .val (.int tu)] [(.ref bs)]))
  refine Go.step (fun t k => XS.aloadN X8.here hx rfl (hb hby d14_96) rfl rfl k) ?_
  show Go _ _ _ _ _ _ _ (T8.setTop (mkF m 97 #[.val (.ref aa), .val (.int lv), .val (.int tu)] [(.ref aa), (.ref bs)]))
  obtain ⟨T9, X9, e9, st9⟩ := getF X8 hx hZ hown (host := "") (Or.inl (hw _ (List.mem_of_getElem? (i := 57) rfl))) Via.refl e8 F_fields_aa (g := (mkF m 97 #[.val (.ref aa), .val (.int lv), .val (.int tu)] [(.ref aa), (.ref bs)])) rfl rfl (hb hby d14_97)
  refine Go.step st9 ?_
  show Go _ _ _ _ _ _ _ (T9.setTop (mkF m 100 #[.val (.ref aa), .val (.int lv), .val (.int tu)] [(.int fv), (.ref bs)]))
  refine Go.step (fun t k => XS.iloadN X9.here hx rfl (hb hby d14_100) rfl k) ?_
  show Go _ _ _ _ _ _ _ (T9.setTop (mkF m 101 #[.val (.ref aa), .val (.int lv), .val (.int tu)] [(.int tu), (.int fv), (.ref bs)]))
  obtain ⟨T10, h10, X10, e10, W10, st10⟩ := own_stI X9 hx hZ e9 A_bs kf hkf hf256 (f := (mkF m 101 #[.val (.ref aa), .val (.int lv), .val (.int tu)] [(.int tu), (.int fv), (.ref bs)])) rfl rfl (hb hby d14_101)
  replace F_text_aa := F_text_aa.other W10 (Or.inl ne_aa_bs)
  replace F_starts_aa := F_starts_aa.other W10 (Or.inl ne_aa_bs)
  replace F_ends_aa := F_ends_aa.other W10 (Or.inl ne_aa_bs)
  replace F_firstFields_aa := F_firstFields_aa.other W10 (Or.inl ne_aa_bs)
  replace F_lines_aa := F_lines_aa.other W10 (Or.inl ne_aa_bs)
  replace F_faults_aa := F_faults_aa.other W10 (Or.inl ne_aa_bs)
  replace F_textUsed_aa := F_textUsed_aa.other W10 (Or.inl ne_aa_bs)
  replace F_fields_aa := F_fields_aa.other W10 (Or.inl ne_aa_bs)
  replace F_records_aa := F_records_aa.other W10 (Or.inl ne_aa_bs)
  replace E_aa := E_aa.wr W10
  replace T_bt := T_bt.other W10 ne_bt_bs
  replace A_be := A_be.other W10 (Ne.symm ne_bs_be)
  have Z10 := Nat.le_trans Z0 (Keep.of_wr W10).1
  have N10 := Fr.snoc X10 N0 g_bs
  have K10 := K0.wr W10 (Or.inl (List.mem_of_getElem? (i := 1) rfl))
  replace A_bs := A_bs.setI W10
  refine Go.step st10 ?_
  show Go _ _ _ _ _ _ _ (T10.setTop (mkF m 102 #[.val (.ref aa), .val (.int lv), .val (.int tu)] []))
  refine Go.step (fun t k => XS.aloadN X10.here hx rfl (hb hby d14_102) rfl rfl k) ?_
  show Go _ _ _ _ _ _ _ (T10.setTop (mkF m 103 #[.val (.ref aa), .val (.int lv), .val (.int tu)] [(.ref aa)]))
  obtain ⟨T11, X11, e11, st11⟩ := getF X10 hx hZ hown (host := "") (Or.inl (hw _ (List.mem_of_getElem? (i := 40) rfl))) Via.refl e10 F_ends_aa (g := (mkF m 103 #[.val (.ref aa), .val (.int lv), .val (.int tu)] [(.ref aa)])) rfl rfl (hb hby d14_103)
  refine Go.step st11 ?_
  show Go _ _ _ _ _ _ _ (T11.setTop (mkF m 106 #[.val (.ref aa), .val (.int lv), .val (.int tu)] [(.ref be)]))
  refine Go.step (fun t k => XS.aloadN X11.here hx rfl (hb hby d14_106) rfl rfl k) ?_
  show Go _ _ _ _ _ _ _ (T11.setTop (mkF m 107 #[.val (.ref aa), .val (.int lv), .val (.int tu)] [(.ref aa), (.ref be)]))
  obtain ⟨T12, X12, e12, st12⟩ := getF X11 hx hZ hown (host := "") (Or.inl (hw _ (List.mem_of_getElem? (i := 57) rfl))) Via.refl e11 F_fields_aa (g := (mkF m 107 #[.val (.ref aa), .val (.int lv), .val (.int tu)] [(.ref aa), (.ref be)])) rfl rfl (hb hby d14_107)
  refine Go.step st12 ?_
  show Go _ _ _ _ _ _ _ (T12.setTop (mkF m 110 #[.val (.ref aa), .val (.int lv), .val (.int tu)] [(.int fv), (.ref be)]))
  refine Go.step (fun t k => XS.iloadN X12.here hx rfl (hb hby d14_110) rfl k) ?_
  show Go _ _ _ _ _ _ _ (T12.setTop (mkF m 111 #[.val (.ref aa), .val (.int lv), .val (.int tu)] [(.int tu), (.int fv), (.ref be)]))
  refine Go.step (fun t k => XS.iloadN X12.here hx rfl (hb hby d14_111) rfl k) ?_
  show Go _ _ _ _ _ _ _ (T12.setTop (mkF m 112 #[.val (.ref aa), .val (.int lv), .val (.int tu)] [(.int lv), (.int tu), (.int fv), (.ref be)]))
  refine Go.step (fun t k => XS.iadd X12.here hx rfl (hb hby d14_112) rfl k) ?_
  show Go _ _ _ _ _ _ _ (T12.setTop (mkF m 113 #[.val (.ref aa), .val (.int lv), .val (.int tu)] [(.int (tu + lv)), (.int fv), (.ref be)]))
  obtain ⟨T13, h13, X13, e13, W13, st13⟩ := own_stI X12 hx hZ e12 A_be kf hkf hf256 (f := (mkF m 113 #[.val (.ref aa), .val (.int lv), .val (.int tu)] [(.int (tu + lv)), (.int fv), (.ref be)])) rfl rfl (hb hby d14_113)
  replace F_text_aa := F_text_aa.other W13 (Or.inl ne_aa_be)
  replace F_starts_aa := F_starts_aa.other W13 (Or.inl ne_aa_be)
  replace F_ends_aa := F_ends_aa.other W13 (Or.inl ne_aa_be)
  replace F_firstFields_aa := F_firstFields_aa.other W13 (Or.inl ne_aa_be)
  replace F_lines_aa := F_lines_aa.other W13 (Or.inl ne_aa_be)
  replace F_faults_aa := F_faults_aa.other W13 (Or.inl ne_aa_be)
  replace F_textUsed_aa := F_textUsed_aa.other W13 (Or.inl ne_aa_be)
  replace F_fields_aa := F_fields_aa.other W13 (Or.inl ne_aa_be)
  replace F_records_aa := F_records_aa.other W13 (Or.inl ne_aa_be)
  replace E_aa := E_aa.wr W13
  replace T_bt := T_bt.other W13 ne_bt_be
  replace A_bs := A_bs.other W13 ne_bs_be
  have Z13 := Nat.le_trans Z10 (Keep.of_wr W13).1
  have N13 := Fr.snoc X13 N10 g_be
  have K13 := K10.wr W13 (Or.inl (List.mem_of_getElem? (i := 2) rfl))
  replace A_be := A_be.setI W13
  refine Go.step st13 ?_
  show Go _ _ _ _ _ _ _ (T13.setTop (mkF m 114 #[.val (.ref aa), .val (.int lv), .val (.int tu)] []))
  refine Go.step (fun t k => XS.aloadN X13.here hx rfl (hb hby d14_114) rfl rfl k) ?_
  show Go _ _ _ _ _ _ _ (T13.setTop (mkF m 115 #[.val (.ref aa), .val (.int lv), .val (.int tu)] [(.ref aa)]))
  refine Go.step (fun t k => XS.dup X13.here hx rfl (hb hby d14_115) rfl rfl k) ?_
  show Go _ _ _ _ _ _ _ (T13.setTop (mkF m 116 #[.val (.ref aa), .val (.int lv), .val (.int tu)] [(.ref aa), (.ref aa)]))
  obtain ⟨T14, X14, e14, st14⟩ := getF X13 hx hZ hown (host := "") (Or.inl (hw _ (List.mem_of_getElem? (i := 57) rfl))) Via.refl e13 F_fields_aa (g := (mkF m 116 #[.val (.ref aa), .val (.int lv), .val (.int tu)] [(.ref aa), (.ref aa)])) rfl rfl (hb hby d14_116)
  refine Go.step st14 ?_
  show Go _ _ _ _ _ _ _ (T14.setTop (mkF m 119 #[.val (.ref aa), .val (.int lv), .val (.int tu)] [(.int fv), (.ref aa)]))
  refine Go.step (fun t k => XS.iconst X14.here hx rfl (hb hby d14_119) k) ?_
  show Go _ _ _ _ _ _ _ (T14.setTop (mkF m 120 #[.val (.ref aa), .val (.int lv), .val (.int tu)] [(.int (1 : Int32)), (.int fv), (.ref aa)]))
  refine Go.step (fun t k => XS.iadd X14.here hx rfl (hb hby d14_120) rfl k) ?_
  show Go _ _ _ _ _ _ _ (T14.setTop (mkF m 121 #[.val (.ref aa), .val (.int lv), .val (.int tu)] [(.int (fv + (1 : Int32))), (.ref aa)]))
  obtain ⟨T15, h15, X15, e15, W15, st15⟩ := putF X14 hx hZ hown (host := "") (Or.inl (hw _ (List.mem_of_getElem? (i := 57) rfl))) Via.refl e14 F_fields_aa E_aa (Or.inl (hw _ (List.mem_of_getElem? (i := 58) rfl))) (hw _ (List.mem_of_getElem? (i := 28) rfl)) (ty := .int) (by decide) rfl rfl (g := (mkF m 121 #[.val (.ref aa), .val (.int lv), .val (.int tu)] [(.int (fv + (1 : Int32))), (.ref aa)])) rfl rfl (hb hby d14_121)
  replace F_text_aa := F_text_aa.other W15 (Or.inr (slot_ne (Or.inl (hw _ (List.mem_of_getElem? (i := 36) rfl))) (Or.inl (hw _ (List.mem_of_getElem? (i := 58) rfl))) (by decide) (t := (.array .char)) (t' := .int) (by decide) (by decide)))
  replace F_starts_aa := F_starts_aa.other W15 (Or.inr (slot_ne (Or.inl (hw _ (List.mem_of_getElem? (i := 39) rfl))) (Or.inl (hw _ (List.mem_of_getElem? (i := 58) rfl))) (by decide) (t := (.array .int)) (t' := .int) (by decide) (by decide)))
  replace F_ends_aa := F_ends_aa.other W15 (Or.inr (slot_ne (Or.inl (hw _ (List.mem_of_getElem? (i := 41) rfl))) (Or.inl (hw _ (List.mem_of_getElem? (i := 58) rfl))) (by decide) (t := (.array .int)) (t' := .int) (by decide) (by decide)))
  replace F_firstFields_aa := F_firstFields_aa.other W15 (Or.inr (slot_ne (Or.inl (hw _ (List.mem_of_getElem? (i := 43) rfl))) (Or.inl (hw _ (List.mem_of_getElem? (i := 58) rfl))) (by decide) (t := (.array .int)) (t' := .int) (by decide) (by decide)))
  replace F_lines_aa := F_lines_aa.other W15 (Or.inr (slot_ne (Or.inl (hw _ (List.mem_of_getElem? (i := 45) rfl))) (Or.inl (hw _ (List.mem_of_getElem? (i := 58) rfl))) (by decide) (t := (.array .int)) (t' := .int) (by decide) (by decide)))
  replace F_faults_aa := F_faults_aa.other W15 (Or.inr (slot_ne (Or.inl (hw _ (List.mem_of_getElem? (i := 49) rfl))) (Or.inl (hw _ (List.mem_of_getElem? (i := 58) rfl))) (by decide) (t := (.array (.object "com/example/vestwright/vestwright/io/CsvFormatException"))) (t' := .int) (by decide) (by decide)))
  replace F_textUsed_aa := F_textUsed_aa.other W15 (Or.inr (slot_ne (Or.inl (hw _ (List.mem_of_getElem? (i := 97) rfl))) (Or.inl (hw _ (List.mem_of_getElem? (i := 58) rfl))) (by decide) (t := .int) (t' := .int) (by decide) (by decide)))
  replace F_records_aa := F_records_aa.other W15 (Or.inr (slot_ne (Or.inl (hw _ (List.mem_of_getElem? (i := 56) rfl))) (Or.inl (hw _ (List.mem_of_getElem? (i := 58) rfl))) (by decide) (t := .int) (t' := .int) (by decide) (by decide)))
  replace E_aa := E_aa.wr W15
  replace T_bt := T_bt.other W15 (Ne.symm ne_aa_bt)
  replace A_bs := A_bs.other W15 (Ne.symm ne_aa_bs)
  replace A_be := A_be.other W15 (Ne.symm ne_aa_be)
  have Z15 := Nat.le_trans Z13 (Keep.of_wr W15).1
  have N15 := Fr.snoc X15 N13 g_aa
  have K15 := K13.wr W15 (Or.inl (List.mem_of_getElem? (i := 0) rfl))
  replace F_fields_aa := F_fields_aa.same W15
  refine Go.step st15 ?_
  show Go _ _ _ _ _ _ _ (T15.setTop (mkF m 124 #[.val (.ref aa), .val (.int lv), .val (.int tu)] []))
  refine Go.step (fun t k => XS.aloadN X15.here hx rfl (hb hby d14_124) rfl rfl k) ?_
  show Go _ _ _ _ _ _ _ (T15.setTop (mkF m 125 #[.val (.ref aa), .val (.int lv), .val (.int tu)] [(.ref aa)]))
  refine Go.step (fun t k => XS.dup X15.here hx rfl (hb hby d14_125) rfl rfl k) ?_
  show Go _ _ _ _ _ _ _ (T15.setTop (mkF m 126 #[.val (.ref aa), .val (.int lv), .val (.int tu)] [(.ref aa), (.ref aa)]))
  obtain ⟨T16, X16, e16, st16⟩ := getF X15 hx hZ hown (host := "") (Or.inl (hw _ (List.mem_of_getElem? (i := 96) rfl))) Via.refl e15 F_textUsed_aa (g := (mkF m 126 #[.val (.ref aa), .val (.int lv), .val (.int tu)] [(.ref aa), (.ref aa)])) rfl rfl (hb hby d14_126)
  refine Go.step st16 ?_
  show Go _ _ _ _ _ _ _ (T16.setTop (mkF m 129 #[.val (.ref aa), .val (.int lv), .val (.int tu)] [(.int tu), (.ref aa)]))
  refine Go.step (fun t k => XS.iloadN X16.here hx rfl (hb hby d14_129) rfl k) ?_
  show Go _ _ _ _ _ _ _ (T16.setTop (mkF m 130 #[.val (.ref aa), .val (.int lv), .val (.int tu)] [(.int lv), (.int tu), (.ref aa)]))
  refine Go.step (fun t k => XS.iadd X16.here hx rfl (hb hby d14_130) rfl k) ?_
  show Go _ _ _ _ _ _ _ (T16.setTop (mkF m 131 #[.val (.ref aa), .val (.int lv), .val (.int tu)] [(.int (tu + lv)), (.ref aa)]))
  obtain ⟨T17, h17, X17, e17, W17, st17⟩ := putF X16 hx hZ hown (host := "") (Or.inl (hw _ (List.mem_of_getElem? (i := 96) rfl))) Via.refl e16 F_textUsed_aa E_aa (Or.inl (hw _ (List.mem_of_getElem? (i := 97) rfl))) (hw _ (List.mem_of_getElem? (i := 28) rfl)) (ty := .int) (by decide) rfl rfl (g := (mkF m 131 #[.val (.ref aa), .val (.int lv), .val (.int tu)] [(.int (tu + lv)), (.ref aa)])) rfl rfl (hb hby d14_131)
  replace F_text_aa := F_text_aa.other W17 (Or.inr (slot_ne (Or.inl (hw _ (List.mem_of_getElem? (i := 36) rfl))) (Or.inl (hw _ (List.mem_of_getElem? (i := 97) rfl))) (by decide) (t := (.array .char)) (t' := .int) (by decide) (by decide)))
  replace F_starts_aa := F_starts_aa.other W17 (Or.inr (slot_ne (Or.inl (hw _ (List.mem_of_getElem? (i := 39) rfl))) (Or.inl (hw _ (List.mem_of_getElem? (i := 97) rfl))) (by decide) (t := (.array .int)) (t' := .int) (by decide) (by decide)))
  replace F_ends_aa := F_ends_aa.other W17 (Or.inr (slot_ne (Or.inl (hw _ (List.mem_of_getElem? (i := 41) rfl))) (Or.inl (hw _ (List.mem_of_getElem? (i := 97) rfl))) (by decide) (t := (.array .int)) (t' := .int) (by decide) (by decide)))
  replace F_firstFields_aa := F_firstFields_aa.other W17 (Or.inr (slot_ne (Or.inl (hw _ (List.mem_of_getElem? (i := 43) rfl))) (Or.inl (hw _ (List.mem_of_getElem? (i := 97) rfl))) (by decide) (t := (.array .int)) (t' := .int) (by decide) (by decide)))
  replace F_lines_aa := F_lines_aa.other W17 (Or.inr (slot_ne (Or.inl (hw _ (List.mem_of_getElem? (i := 45) rfl))) (Or.inl (hw _ (List.mem_of_getElem? (i := 97) rfl))) (by decide) (t := (.array .int)) (t' := .int) (by decide) (by decide)))
  replace F_faults_aa := F_faults_aa.other W17 (Or.inr (slot_ne (Or.inl (hw _ (List.mem_of_getElem? (i := 49) rfl))) (Or.inl (hw _ (List.mem_of_getElem? (i := 97) rfl))) (by decide) (t := (.array (.object "com/example/vestwright/vestwright/io/CsvFormatException"))) (t' := .int) (by decide) (by decide)))
  replace F_fields_aa := F_fields_aa.other W17 (Or.inr (slot_ne (Or.inl (hw _ (List.mem_of_getElem? (i := 58) rfl))) (Or.inl (hw _ (List.mem_of_getElem? (i := 97) rfl))) (by decide) (t := .int) (t' := .int) (by decide) (by decide)))
  replace F_records_aa := F_records_aa.other W17 (Or.inr (slot_ne (Or.inl (hw _ (List.mem_of_getElem? (i := 56) rfl))) (Or.inl (hw _ (List.mem_of_getElem? (i := 97) rfl))) (by decide) (t := .int) (t' := .int) (by decide) (by decide)))
  replace E_aa := E_aa.wr W17
  replace T_bt := T_bt.other W17 (Ne.symm ne_aa_bt)
  replace A_bs := A_bs.other W17 (Ne.symm ne_aa_bs)
  replace A_be := A_be.other W17 (Ne.symm ne_aa_be)
  have Z17 := Nat.le_trans Z15 (Keep.of_wr W17).1
  have N17 := Fr.snoc X17 N15 g_aa
  have K17 := K15.wr W17 (Or.inl (List.mem_of_getElem? (i := 0) rfl))
  replace F_textUsed_aa := F_textUsed_aa.same W17
  refine Go.step st17 ?_
  show Go _ _ _ _ _ _ _ (T17.setTop (mkF m 134 #[.val (.ref aa), .val (.int lv), .val (.int tu)] []))
  refine Go.step (fun t k => XS.iloadN X17.here hx rfl (hb hby d14_134) rfl k) ?_
  show Go _ _ _ _ _ _ _ (T17.setTop (mkF m 135 #[.val (.ref aa), .val (.int lv), .val (.int tu)] [(.int tu)]))
  refine Go.retI X17 Bd.notSynchronized hx Bd.returns (hb hby d14_135) (by decide) (by decide) ?_
  rw [e17]
  exact ⟨rfl, N17, K17, F_text_aa, F_starts_aa, F_ends_aa, F_firstFields_aa, F_lines_aa, F_faults_aa, F_textUsed_aa, F_fields_aa, F_records_aa, A_bs, A_be⟩
theorem d11_0 : decode prog_63_method_10_code 0 = .ok (.aload_n 0, 1) := by decide +kernel
theorem d11_1 : decode prog_63_method_10_code 1 = .ok (.aload_n 1, 1) := by decide +kernel
theorem d11_2 : decode prog_63_method_10_code 2 = .ok (.invokeinterface 81 1, 5) := by decide +kernel
theorem d11_7 : decode prog_63_method_10_code 7 = .ok (.invokevirtual 71, 3) := by decide +kernel
theorem d11_10 : decode prog_63_method_10_code 10 = .ok (.istore_n 2, 1) := by decide +kernel
theorem d11_11 : decode prog_63_method_10_code 11 = .ok (.iconst 0, 1) := by decide +kernel
theorem d11_12 : decode prog_63_method_10_code 12 = .ok (.istore_n 3, 1) := by decide +kernel
theorem d11_13 : decode prog_63_method_10_code 13 = .ok (.iload_n 3, 1) := by decide +kernel
theorem d11_14 : decode prog_63_method_10_code 14 = .ok (.aload_n 1, 1) := by decide +kernel
theorem d11_15 : decode prog_63_method_10_code 15 = .ok (.invokeinterface 81 1, 5) := by decide +kernel
theorem d11_20 : decode prog_63_method_10_code 20 = .ok (.if_icmp .ge 24, 3) := by decide +kernel
theorem d11_23 : decode prog_63_method_10_code 23 = .ok (.aload_n 0, 1) := by decide +kernel
theorem d11_24 : decode prog_63_method_10_code 24 = .ok (.getfield 7, 3) := by decide +kernel
theorem d11_27 : decode prog_63_method_10_code 27 = .ok (.iload_n 2, 1) := by decide +kernel
theorem d11_28 : decode prog_63_method_10_code 28 = .ok (.iload_n 3, 1) := by decide +kernel
theorem d11_29 : decode prog_63_method_10_code 29 = .ok (.iadd, 1) := by decide +kernel
theorem d11_30 : decode prog_63_method_10_code 30 = .ok (.aload_n 1, 1) := by decide +kernel
theorem d11_31 : decode prog_63_method_10_code 31 = .ok (.iload_n 3, 1) := by decide +kernel
theorem d11_32 : decode prog_63_method_10_code 32 = .ok (.invokeinterface 86 2, 5) := by decide +kernel
theorem d11_37 : decode prog_63_method_10_code 37 = .ok (.castore, 1) := by decide +kernel
theorem d11_38 : decode prog_63_method_10_code 38 = .ok (.iinc 3 1, 3) := by decide +kernel
theorem d11_41 : decode prog_63_method_10_code 41 = .ok (.goto (-28), 3) := by decide +kernel
theorem d11_44 : decode prog_63_method_10_code 44 = .ok (.return_, 1) := by decide +kernel
theorem pn_11_1 : plainName "com/example/vestwright/vestwright/io/Records" = true := by first | (simp [plainName, overriddenIn]; done) | decide +kernel
theorem pd_11_0_1 : parseMethodDescriptor "()I" = some ⟨[], some .int⟩ := by decide +kernel
theorem pd_11_1_1 : parseMethodDescriptor "(I)I" = some ⟨[.int], some .int⟩ := by decide +kernel
theorem pd_11_2_1 : parseMethodDescriptor "(I)C" = some ⟨[.int], some .char⟩ := by decide +kernel
theorem ef_11_1 (m : MethodId) (x0 : Addr) (x1 : Addr) : entryFrame m #[(.ref x0), (.ref x1)] 4 = mkF m 0 #[.val (.ref x0), .val (.ref x1), .unset, .unset] [] := by first | (simp [entryFrame, mkF, argsToLocals, Value.category]; done) | rfl
def Q11_1 (Z : State) (aa : Addr) (xs : Addr) (cs : Int32) (fm : Value) (bt : Addr) (bs : Addr) (be : Addr) (bf : Addr) (bn : Addr) (bx : Addr) (tu : Int32) (fv : Int32) (rv : Int32) (ku : Nat) (kf : Nat) (bv : Addr) (gb : Nat → Int32) (gs : Nat → Int32) (ge_ : Nat → Int32) (h0 : Heap) (n0 : Nat) (v : Option Value) (h : Heap) (L : List Loc) : Prop := v = none ∧ Fr n0 L ∧ Keep h0 h [aa, bt, bs, be] ∧ Fld Z h aa "com/example/vestwright/vestwright/io/Records" "text" "[C" (.ref bt) ∧ Fld Z h aa "com/example/vestwright/vestwright/io/Records" "starts" "[I" (.ref bs) ∧ Fld Z h aa "com/example/vestwright/vestwright/io/Records" "ends" "[I" (.ref be) ∧ Fld Z h aa "com/example/vestwright/vestwright/io/Records" "firstFields" "[I" (.ref bf) ∧ Fld Z h aa "com/example/vestwright/vestwright/io/Records" "lines" "[I" (.ref bn) ∧ Fld Z h aa "com/example/vestwright/vestwright/io/Records" "faults" "[Lcom/example/vestwright/vestwright/io/CsvFormatException;" (.ref bx) ∧ Fld Z h aa "com/example/vestwright/vestwright/io/Records" "textUsed" "I" (.int (tu + (1 : Int32))) ∧ Fld Z h aa "com/example/vestwright/vestwright/io/Records" "fields" "I" (.int (fv + (1 : Int32))) ∧ Fld Z h aa "com/example/vestwright/vestwright/io/Records" "records" "I" (.int rv) ∧ Txt Z h bt 4096 ∧ AryI Z h bs .int 256 (up gs kf tu) ∧ AryI Z h be .int 256 (up ge_ kf (tu + (1 : Int32)))
set_option maxRecDepth 65536 in
set_option maxHeartbeats 40000000 in
theorem rm11_1 (l : Launch) (Z : State) (a0 : Array Value) (hw : ∀ d ∈ tables_1, d.before a0 Z = true) (ws : List Jvm.Cond) (aa : Addr) (xs : Addr) (cs : Int32) (fm : Value) (bt : Addr) (bs : Addr) (be : Addr) (bf : Addr) (bn : Addr) (bx : Addr) (tu : Int32) (fv : Int32) (rv : Int32) (ku : Nat) (kf : Nat) (bv : Addr) (gb : Nat → Int32) (gs : Nat → Int32) (ge_ : Nat → Int32) (h0 : Heap) (n0 : Nat) (Z0 : n0 ≤ h0.size) (old : Old Z n0 h0) (hcs : (Sta Z Z.heap "java/lang/String" "COMPACT_STRINGS" "Z" (.int cs))) (hc0 : (¬ cs = (0 : Int32))) (hfs : (Sta Z Z.heap "jdk/internal/util/Preconditions" "SIOOBE_FORMATTER" "Ljava/util/function/BiFunction;" fm)) (hfr : (fm.isRef = true)) (F_text_aa : Fld Z h0 aa "com/example/vestwright/vestwright/io/Records" "text" "[C" (.ref bt)) (F_starts_aa : Fld Z h0 aa "com/example/vestwright/vestwright/io/Records" "starts" "[I" (.ref bs)) (F_ends_aa : Fld Z h0 aa "com/example/vestwright/vestwright/io/Records" "ends" "[I" (.ref be)) (F_firstFields_aa : Fld Z h0 aa "com/example/vestwright/vestwright/io/Records" "firstFields" "[I" (.ref bf)) (F_lines_aa : Fld Z h0 aa "com/example/vestwright/vestwright/io/Records" "lines" "[I" (.ref bn)) (F_faults_aa : Fld Z h0 aa "com/example/vestwright/vestwright/io/Records" "faults" "[Lcom/example/vestwright/vestwright/io/CsvFormatException;" (.ref bx)) (F_textUsed_aa : Fld Z h0 aa "com/example/vestwright/vestwright/io/Records" "textUsed" "I" (.int tu)) (F_fields_aa : Fld Z h0 aa "com/example/vestwright/vestwright/io/Records" "fields" "I" (.int fv)) (F_records_aa : Fld Z h0 aa "com/example/vestwright/vestwright/io/Records" "records" "I" (.int rv)) (E_aa : Exa Z h0 aa "com/example/vestwright/vestwright/io/Records") (E_xs : Exa Z h0 xs "java/lang/String") (F_value_xs : Fld Z h0 xs "java/lang/String" "value" "[B" (.ref bv)) (F_coder_xs : Fld Z h0 xs "java/lang/String" "coder" "B" (.int (0 : Int32))) (A_bv : AryI Z h0 bv .byte 1 gb) (g_aa : n0 ≤ aa) (g_bt : n0 ≤ bt) (g_bs : n0 ≤ bs) (g_be : n0 ≤ be) (T_bt : Txt Z h0 bt 4096) (A_bs : AryI Z h0 bs .int 256 gs) (A_be : AryI Z h0 be .int 256 ge_) (ne_bt_bs : bt ≠ bs) (ne_bt_be : bt ≠ be) (ne_bs_be : bs ≠ be) (ne_aa_bt : aa ≠ bt) (ne_aa_bs : aa ≠ bs) (ne_aa_be : aa ≠ be) (ne_bv_bt : bv ≠ bt) (ne_bv_bs : bv ≠ bs) (ne_bv_be : bv ≠ be) (ne_xs_bt : xs ≠ bt) (ne_xs_bs : xs ≠ bs) (ne_xs_be : xs ≠ be) (hku : (tu.toInt = (ku : Int))) (hkf : (fv.toInt = (kf : Int))) (hf256 : (kf < 256)) (hsum : (ku + 1 ≤ 4096)) :
    MetFree l (⟨"com/example/vestwright/vestwright/io/Records", "addField", "(Ljava/lang/CharSequence;)V"⟩ : MethodName) (head1 (Jvm.Cond.code (⟨"com/example/vestwright/vestwright/io/Records", "addField", "(Ljava/lang/CharSequence;)V"⟩ : MethodName) prog_63_method_10_code 4 none :: ws) ({ frames := 4, cells := 0, slots := 0, locals := 55 } : Room)) (fun a U => a = #[(.ref aa), (.ref xs)] ∧ Z.Warmed39 U.vm ∧ U.heap = h0) (fun _ _ _ _ _ => True) (fun _ U o U' => ∃ v L, o = .returned v ∧ Q11_1 Z aa xs cs fm bt bs be bf bn bx tu fv rv ku kf bv gb gs ge_ h0 n0 v U'.heap L ∧ FrameEnd U o U' L ({ frames := 4, cells := 0, slots := 0, locals := 55 } : Room).cells ({ frames := 4, cells := 0, slots := 0, locals := 55 } : Room).slots) := by
  refine MetFree.of_bodySF (plainFor_of_name pn_11_1) hisR ?_
  intro p e s m args below meth c s₁ Bd hml0 hP hK
  obtain ⟨rfl, hZ, hh⟩ := hP
  have hx := Bd.exec
  have hby := Bd.bytes
  have hml : c.maxLocals = 4 := hml0
  have hown : s.vm.findClass "com/example/vestwright/vestwright/io/Records" = some m.cls := findClass_of_methodNamed Bd.named
  have hnm := (name_of_methodNamed Bd.named Bd.method).1
  have X0 : Stand p l e ({ frames := 4, cells := 0, slots := 0, locals := 55 } : Room) s m #[(.ref aa), (.ref xs)] below meth c s₁ [] 0 0 := Stand.of_body Bd
  have e0 : s₁.heap = h0 := by rw [← hh, Bd.state]; rfl
  have N0 := Fr.nil n0
  have K0 := Keep.refl h0 ([aa, bt, bs, be] : List Addr)
  show Go p e below s (Q11_1 Z aa xs cs fm bt bs be bf bn bx tu fv rv ku kf bv gb gs ge_ h0 n0) ({ frames := 4, cells := 0, slots := 0, locals := 55 } : Room).cells ({ frames := 4, cells := 0, slots := 0, locals := 55 } : Room).slots (s₁.setTop (entryFrame m #[(.ref aa), (.ref xs)] 4))
  rw [ef_11_1]
  show Go _ _ _ _ _ _ _ (s₁.setTop (mkF m 0 #[.val (.ref aa), .val (.ref xs), .unset, .unset] []))
  refine Go.step (fun t k => XS.aloadN X0.here hx rfl (hb hby d11_0) rfl rfl k) ?_
  show Go _ _ _ _ _ _ _ (s₁.setTop (mkF m 1 #[.val (.ref aa), .val (.ref xs), .unset, .unset] [(.ref aa)]))
  refine Go.step (fun t k => XS.aloadN X0.here hx rfl (hb hby d11_1) rfl rfl k) ?_
  show Go _ _ _ _ _ _ _ (s₁.setTop (mkF m 2 #[.val (.ref aa), .val (.ref xs), .unset, .unset] [(.ref xs), (.ref aa)]))
  obtain ⟨cq1, kq1, q1a, q1b, q1c⟩ := isOf hZ e0 E_xs
  obtain ⟨_, _, ⟨T1, L1, k1, n1⟩, -, X1, ⟨Lc1, hQ1, l1, y1, z1⟩, st1⟩ := X0.interfaceBack hx (xi := (⟨"java/lang/CharSequence", "length", "()I"⟩ : MethodName)) (y := (⟨"java/lang/String", "length", "()I"⟩ : MethodName)) hown (mvT hZ (hw _ (List.mem_of_getElem? (i := 78) rfl))) (mvT hZ (hw _ (List.mem_of_getElem? (i := 79) rfl))) (mvT hZ (hw _ (List.mem_of_getElem? (i := 80) rfl))) (mvT hZ (hw _ (List.mem_of_getElem? (i := 81) rfl))) (mvT hZ (hw _ (List.mem_of_getElem? (i := 82) rfl))) (mvT hZ (hw _ (List.mem_of_getElem? (i := 83) rfl))) (mvT hZ (hw _ (List.mem_of_getElem? (i := 84) rfl))) (mvT hZ (hw _ (List.mem_of_getElem? (i := 85) rfl))) (by decide) (backOf (W := 1) (rm12 l Z a0 hw [] xs cs bv 1 (1 : Int32) gb h0 n0 Z0 old hcs hc0 E_xs F_value_xs F_coder_xs A_bv rfl) hZ (hw _ (List.mem_of_getElem? (i := 86) rfl)) (hw _ (List.mem_of_getElem? (i := 3) rfl)) (by decide) (by decide)) q1a q1b q1c (g := (mkF m 2 #[.val (.ref aa), .val (.ref xs), .unset, .unset] [(.ref xs), (.ref aa)])) rfl (by rw [hml]; rfl) (Steps.refl _) (argsL := []) (rest := [(.ref aa)]) (lenOf pd_11_0_1 rfl) rfl (by show 2 * 0 + _ ≤ _; exact Nat.le_of_eq rfl) (hb hby d11_2) (fun _ _ => ⟨rfl, e0, (by decide : 0 + 0 ≤ _), (by decide : 0 + 0 ≤ _)⟩)
  dsimp only [Pt.U, Pt.locs, Pt.cells, Pt.slots] at X1 l1 y1 z1 st1 hQ1
  subst l1 y1 z1
  obtain ⟨rfl, N1q, K1q⟩ := hQ1
  have N1 := Fr.app N0 N1q
  refine Go.step (fun t k => st1.trans k) ?_
  show Go _ _ _ _ _ _ _ (T1.setTop (mkF m 7 #[.val (.ref aa), .val (.ref xs), .unset, .unset] [(.int (1 : Int32)), (.ref aa)]))
  obtain ⟨cq2, q2, q2'⟩ := E_aa.cell
  obtain ⟨_, _, ⟨T2, L2, k2, n2⟩, -, X2, ⟨Lc2, hQ2, l2, y2, z2⟩, st2⟩ := X1.privateBack hx (y := (⟨"com/example/vestwright/vestwright/io/Records", "reserve", "(I)I"⟩ : MethodName)) hown (mvT hZ (hw _ (List.mem_of_getElem? (i := 92) rfl))) (mvT hZ (hw _ (List.mem_of_getElem? (i := 93) rfl))) (own_selP hZ (hw _ (List.mem_of_getElem? (i := 28) rfl)) (hw _ (List.mem_of_getElem? (i := 93) rfl)) (hw _ (List.mem_of_getElem? (i := 94) rfl)) (by decide)) (Cond.privateMethod_at (mvP hZ (hw _ (List.mem_of_getElem? (i := 94) rfl)) (args := #[]))) (mvT hZ (hw _ (List.mem_of_getElem? (i := 95) rfl))) (by decide) (backOf (W := 0) (rm14 l Z a0 hw [] aa (1 : Int32) bt bs be bf bn bx tu fv rv ku 1 kf gs ge_ h0 n0 Z0 F_text_aa F_starts_aa F_ends_aa F_firstFields_aa F_lines_aa F_faults_aa F_textUsed_aa F_fields_aa F_records_aa E_aa g_aa g_bs g_be T_bt A_bs A_be ne_bt_bs ne_bt_be ne_bs_be ne_aa_bt ne_aa_bs ne_aa_be hku rfl hkf hf256 hsum) hZ (hw _ (List.mem_of_getElem? (i := 95) rfl)) (hw _ (List.mem_of_getElem? (i := 29) rfl)) (by decide) (by decide)) (g := (mkF m 7 #[.val (.ref aa), .val (.ref xs), .unset, .unset] [(.int (1 : Int32)), (.ref aa)])) rfl (by rw [hml]; rfl) (Steps.refl _) (a := aa) (by rw [K1q]; exact q2) q2' (argsL := [(.int (1 : Int32))]) (rest := []) (lenOf pd_11_1_1 rfl) rfl (by show 2 * 0 + _ ≤ _; exact Nat.le_of_eq rfl) (hb hby d11_7) (fun _ _ => ⟨rfl, K1q, (by decide : 0 + 0 ≤ _), (by decide : 0 + 0 ≤ _)⟩)
  dsimp only [Pt.U, Pt.locs, Pt.cells, Pt.slots] at X2 l2 y2 z2 st2 hQ2
  subst l2 y2 z2
  obtain ⟨rfl, N2q, K2q, o2_F_text_aa, o2_F_starts_aa, o2_F_ends_aa, o2_F_firstFields_aa, o2_F_lines_aa, o2_F_faults_aa, o2_F_textUsed_aa, o2_F_fields_aa, o2_F_records_aa, o2_A_bs, o2_A_be⟩ := hQ2
  have N2 := Fr.app N1 N2q
  have ne_xs_aa : xs ≠ aa := (ne_exa E_xs E_aa (by decide))
  have ne_bv_aa : bv ≠ aa := (Ne.symm (own_neA E_aa (hw _ (List.mem_of_getElem? (i := 28) rfl)) A_bv))
  replace old := Old.keep old K2q (allS g_aa (allS g_bs (allS g_be all0)))
  replace E_aa := E_aa.keep K2q
  replace E_xs := E_xs.keep K2q
  replace F_value_xs := F_value_xs.keep K2q (ninS ne_xs_aa (ninS ne_xs_bs (ninS ne_xs_be nin0)))
  replace F_coder_xs := F_coder_xs.keep K2q (ninS ne_xs_aa (ninS ne_xs_bs (ninS ne_xs_be nin0)))
  replace A_bv := A_bv.keep K2q (ninS ne_bv_aa (ninS ne_bv_bs (ninS ne_bv_be nin0)))
  replace T_bt := T_bt.keep K2q (ninS (Ne.symm ne_aa_bt) (ninS ne_bt_bs (ninS ne_bt_be nin0)))
  have Z2 := Nat.le_trans Z0 K2q.1
  have K2' := K0.trans K2q (allS (Or.inl (List.mem_of_getElem? (i := 0) rfl)) (allS (Or.inl (List.mem_of_getElem? (i := 2) rfl)) (allS (Or.inl (List.mem_of_getElem? (i := 3) rfl)) all0)))
  have F_text_aa := o2_F_text_aa
  have F_starts_aa := o2_F_starts_aa
  have F_ends_aa := o2_F_ends_aa
  have F_firstFields_aa := o2_F_firstFields_aa
  have F_lines_aa := o2_F_lines_aa
  have F_faults_aa := o2_F_faults_aa
  have F_textUsed_aa := o2_F_textUsed_aa
  have F_fields_aa := o2_F_fields_aa
  have F_records_aa := o2_F_records_aa
  have A_bs := o2_A_bs
  have A_be := o2_A_be
  refine Go.step (fun t k => st2.trans k) ?_
  show Go _ _ _ _ _ _ _ (T2.setTop (mkF m 10 #[.val (.ref aa), .val (.ref xs), .unset, .unset] [(.int tu)]))
  refine Go.step (fun t k => XS.istoreN X2.here hx rfl (hb hby d11_10) rfl (l' := #[.val (.ref aa), .val (.ref xs), .val (.int tu), .unset]) rfl k) ?_
  show Go _ _ _ _ _ _ _ (T2.setTop (mkF m 11 #[.val (.ref aa), .val (.ref xs), .val (.int tu), .unset] []))
  refine Go.step (fun t k => XS.iconst X2.here hx rfl (hb hby d11_11) k) ?_
  show Go _ _ _ _ _ _ _ (T2.setTop (mkF m 12 #[.val (.ref aa), .val (.ref xs), .val (.int tu), .unset] [(.int (0 : Int32))]))
  refine Go.step (fun t k => XS.istoreN X2.here hx rfl (hb hby d11_12) rfl (l' := #[.val (.ref aa), .val (.ref xs), .val (.int tu), .val (.int (0 : Int32))]) rfl k) ?_
  show Go _ _ _ _ _ _ _ (T2.setTop (mkF m 13 #[.val (.ref aa), .val (.ref xs), .val (.int tu), .val (.int (0 : Int32))] []))
  refine Go.step (fun t k => XS.iloadN X2.here hx rfl (hb hby d11_13) rfl k) ?_
  show Go _ _ _ _ _ _ _ (T2.setTop (mkF m 14 #[.val (.ref aa), .val (.ref xs), .val (.int tu), .val (.int (0 : Int32))] [(.int (0 : Int32))]))
  refine Go.step (fun t k => XS.aloadN X2.here hx rfl (hb hby d11_14) rfl rfl k) ?_
  show Go _ _ _ _ _ _ _ (T2.setTop (mkF m 15 #[.val (.ref aa), .val (.ref xs), .val (.int tu), .val (.int (0 : Int32))] [(.ref xs), (.int (0 : Int32))]))
  obtain ⟨cq3, kq3, q3a, q3b, q3c⟩ := isOf hZ rfl E_xs
  obtain ⟨_, _, ⟨T3, L3, k3, n3⟩, -, X3, ⟨Lc3, hQ3, l3, y3, z3⟩, st3⟩ := X2.interfaceBack hx (xi := (⟨"java/lang/CharSequence", "length", "()I"⟩ : MethodName)) (y := (⟨"java/lang/String", "length", "()I"⟩ : MethodName)) hown (mvT hZ (hw _ (List.mem_of_getElem? (i := 78) rfl))) (mvT hZ (hw _ (List.mem_of_getElem? (i := 79) rfl))) (mvT hZ (hw _ (List.mem_of_getElem? (i := 80) rfl))) (mvT hZ (hw _ (List.mem_of_getElem? (i := 81) rfl))) (mvT hZ (hw _ (List.mem_of_getElem? (i := 82) rfl))) (mvT hZ (hw _ (List.mem_of_getElem? (i := 83) rfl))) (mvT hZ (hw _ (List.mem_of_getElem? (i := 84) rfl))) (mvT hZ (hw _ (List.mem_of_getElem? (i := 85) rfl))) (by decide) (backOf (W := 1) (rm12 l Z a0 hw [] xs cs bv 1 (1 : Int32) gb T2.heap n0 Z2 old hcs hc0 E_xs F_value_xs F_coder_xs A_bv rfl) hZ (hw _ (List.mem_of_getElem? (i := 86) rfl)) (hw _ (List.mem_of_getElem? (i := 3) rfl)) (by decide) (by decide)) q3a q3b q3c (g := (mkF m 15 #[.val (.ref aa), .val (.ref xs), .val (.int tu), .val (.int (0 : Int32))] [(.ref xs), (.int (0 : Int32))])) rfl (by rw [hml]; rfl) (Steps.refl _) (argsL := []) (rest := [(.int (0 : Int32))]) (lenOf pd_11_0_1 rfl) rfl (by show 2 * 0 + _ ≤ _; exact Nat.le_of_eq rfl) (hb hby d11_15) (fun _ _ => ⟨rfl, rfl, (by decide : 0 + 0 ≤ _), (by decide : 0 + 0 ≤ _)⟩)
  dsimp only [Pt.U, Pt.locs, Pt.cells, Pt.slots] at X3 l3 y3 z3 st3 hQ3
  subst l3 y3 z3
  obtain ⟨rfl, N3q, K3q⟩ := hQ3
  have N3 := Fr.app N2 N3q
  refine Go.step (fun t k => st3.trans k) ?_
  show Go _ _ _ _ _ _ _ (T3.setTop (mkF m 20 #[.val (.ref aa), .val (.ref xs), .val (.int tu), .val (.int (0 : Int32))] [(.int (1 : Int32)), (.int (0 : Int32))]))
  refine Go.step (fun t k => XS.icmpNo X3.here hx rfl (hb hby d11_20) rfl (tlt (by decide : (0 : Int32) < (1 : Int32))).2.1 k) ?_
  show Go _ _ _ _ _ _ _ (T3.setTop (mkF m 23 #[.val (.ref aa), .val (.ref xs), .val (.int tu), .val (.int (0 : Int32))] []))
  refine Go.step (fun t k => XS.aloadN X3.here hx rfl (hb hby d11_23) rfl rfl k) ?_
  show Go _ _ _ _ _ _ _ (T3.setTop (mkF m 24 #[.val (.ref aa), .val (.ref xs), .val (.int tu), .val (.int (0 : Int32))] [(.ref aa)]))
  obtain ⟨T4, X4, e4, st4⟩ := getF X3 hx hZ hown (host := "") (Or.inl (hw _ (List.mem_of_getElem? (i := 35) rfl))) Via.refl K3q F_text_aa (g := (mkF m 24 #[.val (.ref aa), .val (.ref xs), .val (.int tu), .val (.int (0 : Int32))] [(.ref aa)])) rfl rfl (hb hby d11_24)
  refine Go.step st4 ?_
  show Go _ _ _ _ _ _ _ (T4.setTop (mkF m 27 #[.val (.ref aa), .val (.ref xs), .val (.int tu), .val (.int (0 : Int32))] [(.ref bt)]))
  refine Go.step (fun t k => XS.iloadN X4.here hx rfl (hb hby d11_27) rfl k) ?_
  show Go _ _ _ _ _ _ _ (T4.setTop (mkF m 28 #[.val (.ref aa), .val (.ref xs), .val (.int tu), .val (.int (0 : Int32))] [(.int tu), (.ref bt)]))
  refine Go.step (fun t k => XS.iloadN X4.here hx rfl (hb hby d11_28) rfl k) ?_
  show Go _ _ _ _ _ _ _ (T4.setTop (mkF m 29 #[.val (.ref aa), .val (.ref xs), .val (.int tu), .val (.int (0 : Int32))] [(.int (0 : Int32)), (.int tu), (.ref bt)]))
  refine Go.step (fun t k => XS.iadd X4.here hx rfl (hb hby d11_29) rfl k) ?_
  show Go _ _ _ _ _ _ _ (T4.setTop (mkF m 30 #[.val (.ref aa), .val (.ref xs), .val (.int tu), .val (.int (0 : Int32))] [(.int (tu + (0 : Int32))), (.ref bt)]))
  refine Go.step (fun t k => XS.aloadN X4.here hx rfl (hb hby d11_30) rfl rfl k) ?_
  show Go _ _ _ _ _ _ _ (T4.setTop (mkF m 31 #[.val (.ref aa), .val (.ref xs), .val (.int tu), .val (.int (0 : Int32))] [(.ref xs), (.int (tu + (0 : Int32))), (.ref bt)]))
  refine Go.step (fun t k => XS.iloadN X4.here hx rfl (hb hby d11_31) rfl k) ?_
  show Go _ _ _ _ _ _ _ (T4.setTop (mkF m 32 #[.val (.ref aa), .val (.ref xs), .val (.int tu), .val (.int (0 : Int32))] [(.int (0 : Int32)), (.ref xs), (.int (tu + (0 : Int32))), (.ref bt)]))
  obtain ⟨cq5, kq5, q5a, q5b, q5c⟩ := isOf hZ e4 E_xs
  obtain ⟨_, _, ⟨T5, L5, k5, n5⟩, -, X5, ⟨Lc5, hQ5, l5, y5, z5⟩, st5⟩ := X4.interfaceBack hx (xi := (⟨"java/lang/CharSequence", "charAt", "(I)C"⟩ : MethodName)) (y := (⟨"java/lang/String", "charAt", "(I)C"⟩ : MethodName)) hown (mvT hZ (hw _ (List.mem_of_getElem? (i := 98) rfl))) (mvT hZ (hw _ (List.mem_of_getElem? (i := 99) rfl))) (mvT hZ (hw _ (List.mem_of_getElem? (i := 100) rfl))) (mvT hZ (hw _ (List.mem_of_getElem? (i := 101) rfl))) (mvT hZ (hw _ (List.mem_of_getElem? (i := 102) rfl))) (mvT hZ (hw _ (List.mem_of_getElem? (i := 103) rfl))) (mvT hZ (hw _ (List.mem_of_getElem? (i := 104) rfl))) (mvT hZ (hw _ (List.mem_of_getElem? (i := 85) rfl))) (by decide) (backOf (W := 2) (rm15 l Z a0 hw [] xs (0 : Int32) cs fm bv 1 (1 : Int32) gb 0 T2.heap n0 Z2 old hcs hc0 hfs hfr E_xs F_value_xs F_coder_xs A_bv rfl rfl (by decide)) hZ (hw _ (List.mem_of_getElem? (i := 105) rfl)) (hw _ (List.mem_of_getElem? (i := 3) rfl)) (by decide) (by decide)) q5a q5b q5c (g := (mkF m 32 #[.val (.ref aa), .val (.ref xs), .val (.int tu), .val (.int (0 : Int32))] [(.int (0 : Int32)), (.ref xs), (.int (tu + (0 : Int32))), (.ref bt)])) rfl (by rw [hml]; rfl) (Steps.refl _) (argsL := [(.int (0 : Int32))]) (rest := [(.int (tu + (0 : Int32))), (.ref bt)]) (lenOf pd_11_2_1 rfl) rfl (by show 2 * 0 + _ ≤ _; exact Nat.le_of_eq rfl) (hb hby d11_32) (fun _ _ => ⟨rfl, e4, (by decide : 0 + 0 ≤ _), (by decide : 0 + 0 ≤ _)⟩)
  dsimp only [Pt.U, Pt.locs, Pt.cells, Pt.slots] at X5 l5 y5 z5 st5 hQ5
  subst l5 y5 z5
  obtain ⟨z_5, rfl, N5q, K5q⟩ := hQ5
  have N5 := Fr.app N3 N5q
  refine Go.step (fun t k => st5.trans k) ?_
  show Go _ _ _ _ _ _ _ (T5.setTop (mkF m 37 #[.val (.ref aa), .val (.ref xs), .val (.int tu), .val (.int (0 : Int32))] [(.int z_5), (.int (tu + (0 : Int32))), (.ref bt)]))
  obtain ⟨T6, h6, X6, e6, W6, Tx6, st6⟩ := own_stT X5 hx hZ K5q T_bt (ku + 0) (own_add hku rfl (by omega)) (by omega) (f := (mkF m 37 #[.val (.ref aa), .val (.ref xs), .val (.int tu), .val (.int (0 : Int32))] [(.int z_5), (.int (tu + (0 : Int32))), (.ref bt)])) rfl rfl (hb hby d11_37)
  replace old := Old.wr old W6 g_bt
  replace E_aa := E_aa.wr W6
  replace E_xs := E_xs.wr W6
  replace F_value_xs := F_value_xs.other W6 (Or.inl ne_xs_bt)
  replace F_coder_xs := F_coder_xs.other W6 (Or.inl ne_xs_bt)
  replace A_bv := A_bv.other W6 ne_bv_bt
  replace F_text_aa := F_text_aa.other W6 (Or.inl ne_aa_bt)
  replace F_starts_aa := F_starts_aa.other W6 (Or.inl ne_aa_bt)
  replace F_ends_aa := F_ends_aa.other W6 (Or.inl ne_aa_bt)
  replace F_firstFields_aa := F_firstFields_aa.other W6 (Or.inl ne_aa_bt)
  replace F_lines_aa := F_lines_aa.other W6 (Or.inl ne_aa_bt)
  replace F_faults_aa := F_faults_aa.other W6 (Or.inl ne_aa_bt)
  replace F_textUsed_aa := F_textUsed_aa.other W6 (Or.inl ne_aa_bt)
  replace F_fields_aa := F_fields_aa.other W6 (Or.inl ne_aa_bt)
  replace F_records_aa := F_records_aa.other W6 (Or.inl ne_aa_bt)
  replace A_bs := A_bs.other W6 (Ne.symm ne_bt_bs)
  replace A_be := A_be.other W6 (Ne.symm ne_bt_be)
  have Z6 := Nat.le_trans Z2 (Keep.of_wr W6).1
  have N6 := Fr.snoc X6 N5 g_bt
  have K6 := K2'.wr W6 (Or.inl (List.mem_of_getElem? (i := 1) rfl))
  have T_bt := Tx6
  refine Go.step st6 ?_
  show Go _ _ _ _ _ _ _ (T6.setTop (mkF m 38 #[.val (.ref aa), .val (.ref xs), .val (.int tu), .val (.int (0 : Int32))] []))
  refine Go.step (fun t k => XS.iinc X6.here hx rfl (hb hby d11_38) rfl (l' := #[.val (.ref aa), .val (.ref xs), .val (.int tu), .val (.int (1 : Int32))]) rfl k) ?_
  show Go _ _ _ _ _ _ _ (T6.setTop (mkF m 41 #[.val (.ref aa), .val (.ref xs), .val (.int tu), .val (.int (1 : Int32))] []))
  refine Go.step (fun t k => XS.goto X6.here hx rfl (pc0 := 41) (pc' := 13) rfl (hb hby d11_41) (by decide) (by decide) k) ?_
  show Go _ _ _ _ _ _ _ (T6.setTop (mkF m 13 #[.val (.ref aa), .val (.ref xs), .val (.int tu), .val (.int (1 : Int32))] []))
  refine Go.step (fun t k => XS.iloadN X6.here hx rfl (hb hby d11_13) rfl k) ?_
  show Go _ _ _ _ _ _ _ (T6.setTop (mkF m 14 #[.val (.ref aa), .val (.ref xs), .val (.int tu), .val (.int (1 : Int32))] [(.int (1 : Int32))]))
  refine Go.step (fun t k => XS.aloadN X6.here hx rfl (hb hby d11_14) rfl rfl k) ?_
  show Go _ _ _ _ _ _ _ (T6.setTop (mkF m 15 #[.val (.ref aa), .val (.ref xs), .val (.int tu), .val (.int (1 : Int32))] [(.ref xs), (.int (1 : Int32))]))
  obtain ⟨cq7, kq7, q7a, q7b, q7c⟩ := isOf hZ e6 E_xs
  obtain ⟨_, _, ⟨T7, L7, k7, n7⟩, -, X7, ⟨Lc7, hQ7, l7, y7, z7⟩, st7⟩ := X6.interfaceBack hx (xi := (⟨"java/lang/CharSequence", "length", "()I"⟩ : MethodName)) (y := (⟨"java/lang/String", "length", "()I"⟩ : MethodName)) hown (mvT hZ (hw _ (List.mem_of_getElem? (i := 78) rfl))) (mvT hZ (hw _ (List.mem_of_getElem? (i := 79) rfl))) (mvT hZ (hw _ (List.mem_of_getElem? (i := 80) rfl))) (mvT hZ (hw _ (List.mem_of_getElem? (i := 81) rfl))) (mvT hZ (hw _ (List.mem_of_getElem? (i := 82) rfl))) (mvT hZ (hw _ (List.mem_of_getElem? (i := 83) rfl))) (mvT hZ (hw _ (List.mem_of_getElem? (i := 84) rfl))) (mvT hZ (hw _ (List.mem_of_getElem? (i := 85) rfl))) (by decide) (backOf (W := 1) (rm12 l Z a0 hw [] xs cs bv 1 (1 : Int32) gb h6 n0 Z6 old hcs hc0 E_xs F_value_xs F_coder_xs A_bv rfl) hZ (hw _ (List.mem_of_getElem? (i := 86) rfl)) (hw _ (List.mem_of_getElem? (i := 3) rfl)) (by decide) (by decide)) q7a q7b q7c (g := (mkF m 15 #[.val (.ref aa), .val (.ref xs), .val (.int tu), .val (.int (1 : Int32))] [(.ref xs), (.int (1 : Int32))])) rfl (by rw [hml]; rfl) (Steps.refl _) (argsL := []) (rest := [(.int (1 : Int32))]) (lenOf pd_11_0_1 rfl) rfl (by show 2 * 0 + _ ≤ _; exact Nat.le_of_eq rfl) (hb hby d11_15) (fun _ _ => ⟨rfl, e6, (by decide : 0 + 0 ≤ _), (by decide : 0 + 0 ≤ _)⟩)
  dsimp only [Pt.U, Pt.locs, Pt.cells, Pt.slots] at X7 l7 y7 z7 st7 hQ7
  subst l7 y7 z7
  obtain ⟨rfl, N7q, K7q⟩ := hQ7
  have N7 := Fr.app N6 N7q
  refine Go.step (fun t k => st7.trans k) ?_
  show Go _ _ _ _ _ _ _ (T7.setTop (mkF m 20 #[.val (.ref aa), .val (.ref xs), .val (.int tu), .val (.int (1 : Int32))] [(.int (1 : Int32)), (.int (1 : Int32))]))
  refine Go.step (fun t k => XS.icmpYes X7.here hx rfl (pc0 := 20) (pc' := 44) rfl (hb hby d11_20) rfl (flt (by decide : ¬ (1 : Int32) < (1 : Int32))).2.1 (by decide) (by decide) k) ?_
  show Go _ _ _ _ _ _ _ (T7.setTop (mkF m 44 #[.val (.ref aa), .val (.ref xs), .val (.int tu), .val (.int (1 : Int32))] []))
  refine Go.retV X7 Bd.notSynchronized hx Bd.returns (hb hby d11_44) (by decide) (by decide) ?_
  rw [K7q]
  exact ⟨rfl, N7, K6, F_text_aa, F_starts_aa, F_ends_aa, F_firstFields_aa, F_lines_aa, F_faults_aa, F_textUsed_aa, F_fields_aa, F_records_aa, T_bt, A_bs, A_be⟩
theorem d8_0 : decode method_2_code 0 = .ok (.iload_n 1, 1) := by decide +kernel
theorem d8_1 : decode method_2_code 1 = .ok (.ifCond .le 8, 3) := by decide +kernel
theorem d8_4 : decode method_2_code 4 = .ok (.aload_n 0, 1) := by decide +kernel
theorem d8_5 : decode method_2_code 5 = .ok (.aload_n 2, 1) := by decide +kernel
theorem d8_6 : decode method_2_code 6 = .ok (.invokevirtual 7, 3) := by decide +kernel
theorem d8_9 : decode method_2_code 9 = .ok (.iload_n 1, 1) := by decide +kernel
theorem d8_10 : decode method_2_code 10 = .ok (.iconst 1, 1) := by decide +kernel
theorem d8_11 : decode method_2_code 11 = .ok (.if_icmp .le 8, 3) := by decide +kernel
theorem d8_14 : decode method_2_code 14 = .ok (.aload_n 0, 1) := by decide +kernel
theorem d8_15 : decode method_2_code 15 = .ok (.aload_n 2, 1) := by decide +kernel
theorem d8_16 : decode method_2_code 16 = .ok (.invokevirtual 7, 3) := by decide +kernel
theorem d8_19 : decode method_2_code 19 = .ok (.return_, 1) := by decide +kernel
theorem pn_8 : plainName "com/example/vestwright/vestwright/io/RecordsWidthPinLaw" = true := by first | (simp [plainName, overriddenIn]; done) | decide +kernel
theorem pd_8_0 : parseMethodDescriptor "(Ljava/lang/CharSequence;)V" = some ⟨[(.object "java/lang/CharSequence")], none⟩ := by decide +kernel
theorem ef_8 (m : MethodId) (x0 : Addr) (x1 : Int32) (x2 : Addr) : entryFrame m #[(.ref x0), (.int x1), (.ref x2)] 3 = mkF m 0 #[.val (.ref x0), .val (.int x1), .val (.ref x2)] [] := by first | (simp [entryFrame, mkF, argsToLocals, Value.category]; done) | rfl
def Q8 (Z : State) (aa : Addr) (nn : Int32) (xs : Addr) (cs : Int32) (fm : Value) (bt : Addr) (bs : Addr) (be : Addr) (bf : Addr) (bn : Addr) (bx : Addr) (tu : Int32) (fv : Int32) (rv : Int32) (ku : Nat) (kf : Nat) (bv : Addr) (gb : Nat → Int32) (gs : Nat → Int32) (ge_ : Nat → Int32) (h0 : Heap) (n0 : Nat) (v : Option Value) (h : Heap) (L : List Loc) : Prop := ∃ tu2 : Int32, ∃ fv2 : Int32, ∃ gs2 : Nat → Int32, ∃ ge2 : Nat → Int32, v = none ∧ Fr n0 L ∧ Keep h0 h [aa, bt, bs, be] ∧ Fld Z h aa "com/example/vestwright/vestwright/io/Records" "text" "[C" (.ref bt) ∧ Fld Z h aa "com/example/vestwright/vestwright/io/Records" "starts" "[I" (.ref bs) ∧ Fld Z h aa "com/example/vestwright/vestwright/io/Records" "ends" "[I" (.ref be) ∧ Fld Z h aa "com/example/vestwright/vestwright/io/Records" "firstFields" "[I" (.ref bf) ∧ Fld Z h aa "com/example/vestwright/vestwright/io/Records" "lines" "[I" (.ref bn) ∧ Fld Z h aa "com/example/vestwright/vestwright/io/Records" "faults" "[Lcom/example/vestwright/vestwright/io/CsvFormatException;" (.ref bx) ∧ Fld Z h aa "com/example/vestwright/vestwright/io/Records" "textUsed" "I" (.int tu2) ∧ Fld Z h aa "com/example/vestwright/vestwright/io/Records" "fields" "I" (.int fv2) ∧ Fld Z h aa "com/example/vestwright/vestwright/io/Records" "records" "I" (.int rv) ∧ Txt Z h bt 4096 ∧ AryI Z h bs .int 256 gs2 ∧ AryI Z h be .int 256 ge2 ∧ (fv2.toInt = fv.toInt + nn.toInt) ∧ (0 ≤ tu2.toInt ∧ tu2.toInt ≤ tu.toInt + 2)
set_option maxRecDepth 65536 in
set_option maxHeartbeats 40000000 in
theorem rm8 (l : Launch) (Z : State) (a0 : Array Value) (hw : ∀ d ∈ tables_1, d.before a0 Z = true) (ws : List Jvm.Cond) (aa : Addr) (nn : Int32) (xs : Addr) (cs : Int32) (fm : Value) (bt : Addr) (bs : Addr) (be : Addr) (bf : Addr) (bn : Addr) (bx : Addr) (tu : Int32) (fv : Int32) (rv : Int32) (ku : Nat) (kf : Nat) (bv : Addr) (gb : Nat → Int32) (gs : Nat → Int32) (ge_ : Nat → Int32) (h0 : Heap) (n0 : Nat) (Z0 : n0 ≤ h0.size) (old : Old Z n0 h0) (hcs : (Sta Z Z.heap "java/lang/String" "COMPACT_STRINGS" "Z" (.int cs))) (hc0 : (¬ cs = (0 : Int32))) (hfs : (Sta Z Z.heap "jdk/internal/util/Preconditions" "SIOOBE_FORMATTER" "Ljava/util/function/BiFunction;" fm)) (hfr : (fm.isRef = true)) (F_text_aa : Fld Z h0 aa "com/example/vestwright/vestwright/io/Records" "text" "[C" (.ref bt)) (F_starts_aa : Fld Z h0 aa "com/example/vestwright/vestwright/io/Records" "starts" "[I" (.ref bs)) (F_ends_aa : Fld Z h0 aa "com/example/vestwright/vestwright/io/Records" "ends" "[I" (.ref be)) (F_firstFields_aa : Fld Z h0 aa "com/example/vestwright/vestwright/io/Records" "firstFields" "[I" (.ref bf)) (F_lines_aa : Fld Z h0 aa "com/example/vestwright/vestwright/io/Records" "lines" "[I" (.ref bn)) (F_faults_aa : Fld Z h0 aa "com/example/vestwright/vestwright/io/Records" "faults" "[Lcom/example/vestwright/vestwright/io/CsvFormatException;" (.ref bx)) (F_textUsed_aa : Fld Z h0 aa "com/example/vestwright/vestwright/io/Records" "textUsed" "I" (.int tu)) (F_fields_aa : Fld Z h0 aa "com/example/vestwright/vestwright/io/Records" "fields" "I" (.int fv)) (F_records_aa : Fld Z h0 aa "com/example/vestwright/vestwright/io/Records" "records" "I" (.int rv)) (E_aa : Exa Z h0 aa "com/example/vestwright/vestwright/io/Records") (E_xs : Exa Z h0 xs "java/lang/String") (F_value_xs : Fld Z h0 xs "java/lang/String" "value" "[B" (.ref bv)) (F_coder_xs : Fld Z h0 xs "java/lang/String" "coder" "B" (.int (0 : Int32))) (A_bv : AryI Z h0 bv .byte 1 gb) (g_aa : n0 ≤ aa) (g_bt : n0 ≤ bt) (g_bs : n0 ≤ bs) (g_be : n0 ≤ be) (T_bt : Txt Z h0 bt 4096) (A_bs : AryI Z h0 bs .int 256 gs) (A_be : AryI Z h0 be .int 256 ge_) (ne_bt_bs : bt ≠ bs) (ne_bt_be : bt ≠ be) (ne_bs_be : bs ≠ be) (ne_aa_bt : aa ≠ bt) (ne_aa_bs : aa ≠ bs) (ne_aa_be : aa ≠ be) (ne_bv_bt : bv ≠ bt) (ne_bv_bs : bv ≠ bs) (ne_bv_be : bv ≠ be) (ne_xs_bt : xs ≠ bt) (ne_xs_bs : xs ≠ bs) (ne_xs_be : xs ≠ be) (hku : (tu.toInt = (ku : Int))) (hkf : (fv.toInt = (kf : Int))) (hf9 : (kf < 200)) (hsum : (ku ≤ 4000)) (hnn : (0 ≤ nn.toInt ∧ nn.toInt ≤ 2)) :
    MetFree l (⟨"com/example/vestwright/vestwright/io/RecordsWidthPinLaw", "addFields", "(Lcom/example/vestwright/vestwright/io/Records;ILjava/lang/String;)V"⟩ : MethodName) (head1 (Jvm.Cond.code (⟨"com/example/vestwright/vestwright/io/RecordsWidthPinLaw", "addFields", "(Lcom/example/vestwright/vestwright/io/Records;ILjava/lang/String;)V"⟩ : MethodName) method_2_code 3 none :: ws) ({ frames := 5, cells := 0, slots := 0, locals := 70 } : Room)) (fun a U => a = #[(.ref aa), (.int nn), (.ref xs)] ∧ Z.Warmed39 U.vm ∧ U.heap = h0) (fun _ _ _ _ _ => True) (fun _ U o U' => ∃ v L, o = .returned v ∧ Q8 Z aa nn xs cs fm bt bs be bf bn bx tu fv rv ku kf bv gb gs ge_ h0 n0 v U'.heap L ∧ FrameEnd U o U' L ({ frames := 5, cells := 0, slots := 0, locals := 70 } : Room).cells ({ frames := 5, cells := 0, slots := 0, locals := 70 } : Room).slots) := by
  refine MetFree.of_bodySF (plainFor_of_name pn_8) hisR ?_
  intro p e s m args below meth c s₁ Bd hml0 hP hK
  obtain ⟨rfl, hZ, hh⟩ := hP
  have hx := Bd.exec
  have hby := Bd.bytes
  have hml : c.maxLocals = 3 := hml0
  have hown : s.vm.findClass "com/example/vestwright/vestwright/io/RecordsWidthPinLaw" = some m.cls := findClass_of_methodNamed Bd.named
  have hnm := (name_of_methodNamed Bd.named Bd.method).1
  have X0 : Stand p l e ({ frames := 5, cells := 0, slots := 0, locals := 70 } : Room) s m #[(.ref aa), (.int nn), (.ref xs)] below meth c s₁ [] 0 0 := Stand.of_body Bd
  have e0 : s₁.heap = h0 := by rw [← hh, Bd.state]; rfl
  have N0 := Fr.nil n0
  have K0 := Keep.refl h0 ([aa, bt, bs, be] : List Addr)
  show Go p e below s (Q8 Z aa nn xs cs fm bt bs be bf bn bx tu fv rv ku kf bv gb gs ge_ h0 n0) ({ frames := 5, cells := 0, slots := 0, locals := 70 } : Room).cells ({ frames := 5, cells := 0, slots := 0, locals := 70 } : Room).slots (s₁.setTop (entryFrame m #[(.ref aa), (.int nn), (.ref xs)] 3))
  rw [ef_8]
  show Go _ _ _ _ _ _ _ (s₁.setTop (mkF m 0 #[.val (.ref aa), .val (.int nn), .val (.ref xs)] []))
  refine Go.step (fun t k => XS.iloadN X0.here hx rfl (hb hby d8_0) rfl k) ?_
  show Go _ _ _ _ _ _ _ (s₁.setTop (mkF m 1 #[.val (.ref aa), .val (.int nn), .val (.ref xs)] [(.int nn)]))
  by_cases hc1_1 : (0 : Int32) < nn
  · refine Go.step (fun t k => XS.ifNo X0.here hx rfl (hb hby d8_1) rfl ((if0 _ _).trans (tlt hc1_1).2.2.2) k) ?_
    show Go _ _ _ _ _ _ _ (s₁.setTop (mkF m 4 #[.val (.ref aa), .val (.int nn), .val (.ref xs)] []))
    refine Go.step (fun t k => XS.aloadN X0.here hx rfl (hb hby d8_4) rfl rfl k) ?_
    show Go _ _ _ _ _ _ _ (s₁.setTop (mkF m 5 #[.val (.ref aa), .val (.int nn), .val (.ref xs)] [(.ref aa)]))
    refine Go.step (fun t k => XS.aloadN X0.here hx rfl (hb hby d8_5) rfl rfl k) ?_
    show Go _ _ _ _ _ _ _ (s₁.setTop (mkF m 6 #[.val (.ref aa), .val (.int nn), .val (.ref xs)] [(.ref xs), (.ref aa)]))
    obtain ⟨cq2, kq2, q2a, q2b, q2c⟩ := isOf hZ e0 E_aa
    obtain ⟨_, _, ⟨T2, L2, k2, n2⟩, -, X2, ⟨Lc2, hQ2, l2, y2, z2⟩, st2⟩ := X0.virtualBack hx (y := (⟨"com/example/vestwright/vestwright/io/Records", "addField", "(Ljava/lang/CharSequence;)V"⟩ : MethodName)) (z := (⟨"com/example/vestwright/vestwright/io/Records", "addField", "(Ljava/lang/CharSequence;)V"⟩ : MethodName)) hown (mvT hZ (hw _ (List.mem_of_getElem? (i := 73) rfl))) (mvT hZ (hw _ (List.mem_of_getElem? (i := 74) rfl))) (notFace_of_selects (args := #[]) (mvT hZ (hw _ (List.mem_of_getElem? (i := 76) rfl)))) (mvT hZ (hw _ (List.mem_of_getElem? (i := 76) rfl))) (mvT hZ (hw _ (List.mem_of_getElem? (i := 75) rfl))) (by decide) (backOf (W := 0) (rm11_1 l Z a0 hw [] aa xs cs fm bt bs be bf bn bx tu fv rv ku kf bv gb gs ge_ h0 n0 Z0 old hcs hc0 hfs hfr F_text_aa F_starts_aa F_ends_aa F_firstFields_aa F_lines_aa F_faults_aa F_textUsed_aa F_fields_aa F_records_aa E_aa E_xs F_value_xs F_coder_xs A_bv g_aa g_bt g_bs g_be T_bt A_bs A_be ne_bt_bs ne_bt_be ne_bs_be ne_aa_bt ne_aa_bs ne_aa_be ne_bv_bt ne_bv_bs ne_bv_be ne_xs_bt ne_xs_bs ne_xs_be hku hkf (by omega) (by omega)) hZ (hw _ (List.mem_of_getElem? (i := 77) rfl)) (hw _ (List.mem_of_getElem? (i := 29) rfl)) (by decide) (by decide)) q2a q2c (g := (mkF m 6 #[.val (.ref aa), .val (.int nn), .val (.ref xs)] [(.ref xs), (.ref aa)])) rfl (by rw [hml]; rfl) (Steps.refl _) (argsL := [(.ref xs)]) (rest := []) (lenOf pd_8_0 rfl) rfl (by show 2 * 0 + _ ≤ _; exact Nat.le_of_eq rfl) (hb hby d8_6) (fun _ _ => ⟨rfl, e0, (by decide : 0 + 0 ≤ _), (by decide : 0 + 0 ≤ _)⟩)
    dsimp only [Pt.U, Pt.locs, Pt.cells, Pt.slots] at X2 l2 y2 z2 st2 hQ2
    subst l2 y2 z2
    obtain ⟨rfl, N2q, K2q, o2_F_text_aa, o2_F_starts_aa, o2_F_ends_aa, o2_F_firstFields_aa, o2_F_lines_aa, o2_F_faults_aa, o2_F_textUsed_aa, o2_F_fields_aa, o2_F_records_aa, o2_T_bt, o2_A_bs, o2_A_be⟩ := hQ2
    have N2 := Fr.app N0 N2q
    have ne_xs_aa : xs ≠ aa := (ne_exa E_xs E_aa (by decide))
    have ne_bv_aa : bv ≠ aa := (Ne.symm (own_neA E_aa (hw _ (List.mem_of_getElem? (i := 28) rfl)) A_bv))
    replace old := Old.keep old K2q (allS g_aa (allS g_bt (allS g_bs (allS g_be all0))))
    replace E_aa := E_aa.keep K2q
    replace E_xs := E_xs.keep K2q
    replace F_value_xs := F_value_xs.keep K2q (ninS ne_xs_aa (ninS ne_xs_bt (ninS ne_xs_bs (ninS ne_xs_be nin0))))
    replace F_coder_xs := F_coder_xs.keep K2q (ninS ne_xs_aa (ninS ne_xs_bt (ninS ne_xs_bs (ninS ne_xs_be nin0))))
    replace A_bv := A_bv.keep K2q (ninS ne_bv_aa (ninS ne_bv_bt (ninS ne_bv_bs (ninS ne_bv_be nin0))))
    have Z2 := Nat.le_trans Z0 K2q.1
    have K2' := K0.trans K2q (allS (Or.inl (List.mem_of_getElem? (i := 0) rfl)) (allS (Or.inl (List.mem_of_getElem? (i := 1) rfl)) (allS (Or.inl (List.mem_of_getElem? (i := 2) rfl)) (allS (Or.inl (List.mem_of_getElem? (i := 3) rfl)) all0))))
    have F_text_aa := o2_F_text_aa
    have F_starts_aa := o2_F_starts_aa
    have F_ends_aa := o2_F_ends_aa
    have F_firstFields_aa := o2_F_firstFields_aa
    have F_lines_aa := o2_F_lines_aa
    have F_faults_aa := o2_F_faults_aa
    have F_textUsed_aa := o2_F_textUsed_aa
    have F_fields_aa := o2_F_fields_aa
    have F_records_aa := o2_F_records_aa
    have T_bt := o2_T_bt
    have A_bs := o2_A_bs
    have A_be := o2_A_be
    refine Go.step (fun t k => st2.trans k) ?_
    show Go _ _ _ _ _ _ _ (T2.setTop (mkF m 9 #[.val (.ref aa), .val (.int nn), .val (.ref xs)] []))
    refine Go.step (fun t k => XS.iloadN X2.here hx rfl (hb hby d8_9) rfl k) ?_
    show Go _ _ _ _ _ _ _ (T2.setTop (mkF m 10 #[.val (.ref aa), .val (.int nn), .val (.ref xs)] [(.int nn)]))
    refine Go.step (fun t k => XS.iconst X2.here hx rfl (hb hby d8_10) k) ?_
    show Go _ _ _ _ _ _ _ (T2.setTop (mkF m 11 #[.val (.ref aa), .val (.int nn), .val (.ref xs)] [(.int (1 : Int32)), (.int nn)]))
    by_cases hc11_3 : (1 : Int32) < nn
    · refine Go.step (fun t k => XS.icmpNo X2.here hx rfl (hb hby d8_11) rfl (tlt hc11_3).2.2.2 k) ?_
      show Go _ _ _ _ _ _ _ (T2.setTop (mkF m 14 #[.val (.ref aa), .val (.int nn), .val (.ref xs)] []))
      refine Go.step (fun t k => XS.aloadN X2.here hx rfl (hb hby d8_14) rfl rfl k) ?_
      show Go _ _ _ _ _ _ _ (T2.setTop (mkF m 15 #[.val (.ref aa), .val (.int nn), .val (.ref xs)] [(.ref aa)]))
      refine Go.step (fun t k => XS.aloadN X2.here hx rfl (hb hby d8_15) rfl rfl k) ?_
      show Go _ _ _ _ _ _ _ (T2.setTop (mkF m 16 #[.val (.ref aa), .val (.int nn), .val (.ref xs)] [(.ref xs), (.ref aa)]))
      obtain ⟨cq4, kq4, q4a, q4b, q4c⟩ := isOf hZ rfl E_aa
      obtain ⟨_, _, ⟨T4, L4, k4, n4⟩, -, X4, ⟨Lc4, hQ4, l4, y4, z4⟩, st4⟩ := X2.virtualBack hx (y := (⟨"com/example/vestwright/vestwright/io/Records", "addField", "(Ljava/lang/CharSequence;)V"⟩ : MethodName)) (z := (⟨"com/example/vestwright/vestwright/io/Records", "addField", "(Ljava/lang/CharSequence;)V"⟩ : MethodName)) hown (mvT hZ (hw _ (List.mem_of_getElem? (i := 73) rfl))) (mvT hZ (hw _ (List.mem_of_getElem? (i := 74) rfl))) (notFace_of_selects (args := #[]) (mvT hZ (hw _ (List.mem_of_getElem? (i := 76) rfl)))) (mvT hZ (hw _ (List.mem_of_getElem? (i := 76) rfl))) (mvT hZ (hw _ (List.mem_of_getElem? (i := 75) rfl))) (by decide) (backOf (W := 0) (rm11_1 l Z a0 hw [] aa xs cs fm bt bs be bf bn bx (tu + (1 : Int32)) (fv + (1 : Int32)) rv (ku + 1) (kf + 1) bv gb (up gs kf tu) (up ge_ kf (tu + (1 : Int32))) T2.heap n0 Z2 old hcs hc0 hfs hfr F_text_aa F_starts_aa F_ends_aa F_firstFields_aa F_lines_aa F_faults_aa F_textUsed_aa F_fields_aa F_records_aa E_aa E_xs F_value_xs F_coder_xs A_bv g_aa g_bt g_bs g_be T_bt A_bs A_be ne_bt_bs ne_bt_be ne_bs_be ne_aa_bt ne_aa_bs ne_aa_be ne_bv_bt ne_bv_bs ne_bv_be ne_xs_bt ne_xs_bs ne_xs_be (own_inc hku (by omega)) (own_inc hkf (by omega)) (by omega) (by omega)) hZ (hw _ (List.mem_of_getElem? (i := 77) rfl)) (hw _ (List.mem_of_getElem? (i := 29) rfl)) (by decide) (by decide)) q4a q4c (g := (mkF m 16 #[.val (.ref aa), .val (.int nn), .val (.ref xs)] [(.ref xs), (.ref aa)])) rfl (by rw [hml]; rfl) (Steps.refl _) (argsL := [(.ref xs)]) (rest := []) (lenOf pd_8_0 rfl) rfl (by show 2 * 0 + _ ≤ _; exact Nat.le_of_eq rfl) (hb hby d8_16) (fun _ _ => ⟨rfl, rfl, (by decide : 0 + 0 ≤ _), (by decide : 0 + 0 ≤ _)⟩)
      dsimp only [Pt.U, Pt.locs, Pt.cells, Pt.slots] at X4 l4 y4 z4 st4 hQ4
      subst l4 y4 z4
      obtain ⟨rfl, N4q, K4q, o4_F_text_aa, o4_F_starts_aa, o4_F_ends_aa, o4_F_firstFields_aa, o4_F_lines_aa, o4_F_faults_aa, o4_F_textUsed_aa, o4_F_fields_aa, o4_F_records_aa, o4_T_bt, o4_A_bs, o4_A_be⟩ := hQ4
      have N4 := Fr.app N2 N4q
      replace old := Old.keep old K4q (allS g_aa (allS g_bt (allS g_bs (allS g_be all0))))
      replace E_aa := E_aa.keep K4q
      replace E_xs := E_xs.keep K4q
      replace F_value_xs := F_value_xs.keep K4q (ninS ne_xs_aa (ninS ne_xs_bt (ninS ne_xs_bs (ninS ne_xs_be nin0))))
      replace F_coder_xs := F_coder_xs.keep K4q (ninS ne_xs_aa (ninS ne_xs_bt (ninS ne_xs_bs (ninS ne_xs_be nin0))))
      replace A_bv := A_bv.keep K4q (ninS ne_bv_aa (ninS ne_bv_bt (ninS ne_bv_bs (ninS ne_bv_be nin0))))
      have Z4 := Nat.le_trans Z2 K4q.1
      have K4' := K2'.trans K4q (allS (Or.inl (List.mem_of_getElem? (i := 0) rfl)) (allS (Or.inl (List.mem_of_getElem? (i := 1) rfl)) (allS (Or.inl (List.mem_of_getElem? (i := 2) rfl)) (allS (Or.inl (List.mem_of_getElem? (i := 3) rfl)) all0))))
      have F_text_aa := o4_F_text_aa
      have F_starts_aa := o4_F_starts_aa
      have F_ends_aa := o4_F_ends_aa
      have F_firstFields_aa := o4_F_firstFields_aa
      have F_lines_aa := o4_F_lines_aa
      have F_faults_aa := o4_F_faults_aa
      have F_textUsed_aa := o4_F_textUsed_aa
      have F_fields_aa := o4_F_fields_aa
      have F_records_aa := o4_F_records_aa
      have T_bt := o4_T_bt
      have A_bs := o4_A_bs
      have A_be := o4_A_be
      refine Go.step (fun t k => st4.trans k) ?_
      show Go _ _ _ _ _ _ _ (T4.setTop (mkF m 19 #[.val (.ref aa), .val (.int nn), .val (.ref xs)] []))
      refine Go.retV X4 Bd.notSynchronized hx Bd.returns (hb hby d8_19) (by decide) (by decide) ?_
      have jhc1_1 := own_lt hc1_1
      have jhc11_3 := own_lt hc11_3
      have e0 : (0 : Int32).toInt = 0 := rfl
      have e1 : (1 : Int32).toInt = 1 := rfl
      have u1 := own_inc hku (by omega)
      have w1 := own_inc hkf (by omega)
      have u2 := own_inc u1 (by omega)
      have w2 := own_inc w1 (by omega)
      exact ⟨((tu + (1 : Int32)) + (1 : Int32)), ((fv + (1 : Int32)) + (1 : Int32)), (up (up gs kf tu) (kf + 1) (tu + (1 : Int32))), (up (up ge_ kf (tu + (1 : Int32))) (kf + 1) ((tu + (1 : Int32)) + (1 : Int32))), rfl, N4, K4', F_text_aa, F_starts_aa, F_ends_aa, F_firstFields_aa, F_lines_aa, F_faults_aa, F_textUsed_aa, F_fields_aa, F_records_aa, T_bt, A_bs, A_be, (by omega), (by omega)⟩
    · refine Go.step (fun t k => XS.icmpYes X2.here hx rfl (pc0 := 11) (pc' := 19) rfl (hb hby d8_11) rfl (flt hc11_3).2.2.2 (by decide) (by decide) k) ?_
      show Go _ _ _ _ _ _ _ (T2.setTop (mkF m 19 #[.val (.ref aa), .val (.int nn), .val (.ref xs)] []))
      refine Go.retV X2 Bd.notSynchronized hx Bd.returns (hb hby d8_19) (by decide) (by decide) ?_
      have jhc1_1 := own_lt hc1_1
      have jhc11_3 := own_nlt hc11_3
      have e0 : (0 : Int32).toInt = 0 := rfl
      have e1 : (1 : Int32).toInt = 1 := rfl
      have u1 := own_inc hku (by omega)
      have w1 := own_inc hkf (by omega)
      exact ⟨(tu + (1 : Int32)), (fv + (1 : Int32)), (up gs kf tu), (up ge_ kf (tu + (1 : Int32))), rfl, N2, K2', F_text_aa, F_starts_aa, F_ends_aa, F_firstFields_aa, F_lines_aa, F_faults_aa, F_textUsed_aa, F_fields_aa, F_records_aa, T_bt, A_bs, A_be, (by omega), (by omega)⟩
  · refine Go.step (fun t k => XS.ifYes X0.here hx rfl (pc0 := 1) (pc' := 9) rfl (hb hby d8_1) rfl ((if0 _ _).trans (flt hc1_1).2.2.2) (by decide) (by decide) k) ?_
    show Go _ _ _ _ _ _ _ (s₁.setTop (mkF m 9 #[.val (.ref aa), .val (.int nn), .val (.ref xs)] []))
    refine Go.step (fun t k => XS.iloadN X0.here hx rfl (hb hby d8_9) rfl k) ?_
    show Go _ _ _ _ _ _ _ (s₁.setTop (mkF m 10 #[.val (.ref aa), .val (.int nn), .val (.ref xs)] [(.int nn)]))
    refine Go.step (fun t k => XS.iconst X0.here hx rfl (hb hby d8_10) k) ?_
    show Go _ _ _ _ _ _ _ (s₁.setTop (mkF m 11 #[.val (.ref aa), .val (.int nn), .val (.ref xs)] [(.int (1 : Int32)), (.int nn)]))
    by_cases hc11_5 : (1 : Int32) < nn
    · exact absurd (own_lt hc11_5) (by have q := own_nlt hc1_1; have e0 : (0 : Int32).toInt = 0 := rfl; have e1 : (1 : Int32).toInt = 1 := rfl; omega)
    · refine Go.step (fun t k => XS.icmpYes X0.here hx rfl (pc0 := 11) (pc' := 19) rfl (hb hby d8_11) rfl (flt hc11_5).2.2.2 (by decide) (by decide) k) ?_
      show Go _ _ _ _ _ _ _ (s₁.setTop (mkF m 19 #[.val (.ref aa), .val (.int nn), .val (.ref xs)] []))
      refine Go.retV X0 Bd.notSynchronized hx Bd.returns (hb hby d8_19) (by decide) (by decide) ?_
      rw [e0]
      have jhc1_1 := own_nlt hc1_1
      have jhc11_5 := own_nlt hc11_5
      have e0 : (0 : Int32).toInt = 0 := rfl
      have e1 : (1 : Int32).toInt = 1 := rfl
      exact ⟨tu, fv, gs, ge_, rfl, N0, K0, F_text_aa, F_starts_aa, F_ends_aa, F_firstFields_aa, F_lines_aa, F_faults_aa, F_textUsed_aa, F_fields_aa, F_records_aa, T_bt, A_bs, A_be, (by omega), (by omega)⟩
theorem d10_0 : decode prog_63_method_16_code 0 = .ok (.aload_n 0, 1) := by decide +kernel
theorem d10_1 : decode prog_63_method_16_code 1 = .ok (.getfield 20, 3) := by decide +kernel
theorem d10_4 : decode prog_63_method_16_code 4 = .ok (.iload_n 1, 1) := by decide +kernel
theorem d10_5 : decode prog_63_method_16_code 5 = .ok (.iconst 1, 1) := by decide +kernel
theorem d10_6 : decode prog_63_method_16_code 6 = .ok (.iadd, 1) := by decide +kernel
theorem d10_7 : decode prog_63_method_16_code 7 = .ok (.iaload, 1) := by decide +kernel
theorem d10_8 : decode prog_63_method_16_code 8 = .ok (.aload_n 0, 1) := by decide +kernel
theorem d10_9 : decode prog_63_method_16_code 9 = .ok (.getfield 20, 3) := by decide +kernel
theorem d10_12 : decode prog_63_method_16_code 12 = .ok (.iload_n 1, 1) := by decide +kernel
theorem d10_13 : decode prog_63_method_16_code 13 = .ok (.iaload, 1) := by decide +kernel
theorem d10_14 : decode prog_63_method_16_code 14 = .ok (.isub, 1) := by decide +kernel
theorem d10_15 : decode prog_63_method_16_code 15 = .ok (.ireturn, 1) := by decide +kernel
theorem pn_10 : plainName "com/example/vestwright/vestwright/io/Records" = true := by first | (simp [plainName, overriddenIn]; done) | decide +kernel
theorem ef_10 (m : MethodId) (x0 : Addr) (x1 : Int32) : entryFrame m #[(.ref x0), (.int x1)] 2 = mkF m 0 #[.val (.ref x0), .val (.int x1)] [] := by first | (simp [entryFrame, mkF, argsToLocals, Value.category]; done) | rfl
def Q10 (Z : State) (aa : Addr) (ri : Int32) (bf : Addr) (gf : Nat → Int32) (ki : Nat) (h0 : Heap) (n0 : Nat) (v : Option Value) (h : Heap) (L : List Loc) : Prop := v = some (.int ((gf (ki + 1)) - (gf ki))) ∧ Fr n0 L ∧ h = h0
set_option maxRecDepth 65536 in
set_option maxHeartbeats 40000000 in
theorem rm10 (l : Launch) (Z : State) (a0 : Array Value) (hw : ∀ d ∈ tables_1, d.before a0 Z = true) (ws : List Jvm.Cond) (aa : Addr) (ri : Int32) (bf : Addr) (gf : Nat → Int32) (ki : Nat) (h0 : Heap) (n0 : Nat) (Z0 : n0 ≤ h0.size) (F_firstFields_aa : Fld Z h0 aa "com/example/vestwright/vestwright/io/Records" "firstFields" "[I" (.ref bf)) (A_bf : AryI Z h0 bf .int 64 gf) (hri : (ri.toInt = (ki : Int))) (hki : (ki < 63)) :
    MetFree l (⟨"com/example/vestwright/vestwright/io/Records", "width", "(I)I"⟩ : MethodName) (head1 (Jvm.Cond.code (⟨"com/example/vestwright/vestwright/io/Records", "width", "(I)I"⟩ : MethodName) prog_63_method_16_code 2 (some .int) :: ws) ({ frames := 0, cells := 0, slots := 0, locals := 0 } : Room)) (fun a U => a = #[(.ref aa), (.int ri)] ∧ Z.Warmed39 U.vm ∧ U.heap = h0) (fun _ _ _ _ _ => True) (fun _ U o U' => ∃ v L, o = .returned v ∧ Q10 Z aa ri bf gf ki h0 n0 v U'.heap L ∧ FrameEnd U o U' L ({ frames := 0, cells := 0, slots := 0, locals := 0 } : Room).cells ({ frames := 0, cells := 0, slots := 0, locals := 0 } : Room).slots) := by
  refine MetFree.of_bodySF (plainFor_of_name pn_10) hisR ?_
  intro p e s m args below meth c s₁ Bd hml0 hP hK
  obtain ⟨rfl, hZ, hh⟩ := hP
  have hx := Bd.exec
  have hby := Bd.bytes
  have hml : c.maxLocals = 2 := hml0
  have hown : s.vm.findClass "com/example/vestwright/vestwright/io/Records" = some m.cls := findClass_of_methodNamed Bd.named
  have hnm := (name_of_methodNamed Bd.named Bd.method).1
  have X0 : Stand p l e ({ frames := 0, cells := 0, slots := 0, locals := 0 } : Room) s m #[(.ref aa), (.int ri)] below meth c s₁ [] 0 0 := Stand.of_body Bd
  have e0 : s₁.heap = h0 := by rw [← hh, Bd.state]; rfl
  have N0 := Fr.nil n0
  show Go p e below s (Q10 Z aa ri bf gf ki h0 n0) ({ frames := 0, cells := 0, slots := 0, locals := 0 } : Room).cells ({ frames := 0, cells := 0, slots := 0, locals := 0 } : Room).slots (s₁.setTop (entryFrame m #[(.ref aa), (.int ri)] 2))
  rw [ef_10]
  show Go _ _ _ _ _ _ _ (s₁.setTop (mkF m 0 #[.val (.ref aa), .val (.int ri)] []))
  refine Go.step (fun t k => XS.aloadN X0.here hx rfl (hb hby d10_0) rfl rfl k) ?_
  show Go _ _ _ _ _ _ _ (s₁.setTop (mkF m 1 #[.val (.ref aa), .val (.int ri)] [(.ref aa)]))
  obtain ⟨T1, X1, e1, st1⟩ := getF X0 hx hZ hown (host := "") (Or.inl (hw _ (List.mem_of_getElem? (i := 42) rfl))) Via.refl e0 F_firstFields_aa (g := (mkF m 1 #[.val (.ref aa), .val (.int ri)] [(.ref aa)])) rfl rfl (hb hby d10_1)
  refine Go.step st1 ?_
  show Go _ _ _ _ _ _ _ (T1.setTop (mkF m 4 #[.val (.ref aa), .val (.int ri)] [(.ref bf)]))
  refine Go.step (fun t k => XS.iloadN X1.here hx rfl (hb hby d10_4) rfl k) ?_
  show Go _ _ _ _ _ _ _ (T1.setTop (mkF m 5 #[.val (.ref aa), .val (.int ri)] [(.int ri), (.ref bf)]))
  refine Go.step (fun t k => XS.iconst X1.here hx rfl (hb hby d10_5) k) ?_
  show Go _ _ _ _ _ _ _ (T1.setTop (mkF m 6 #[.val (.ref aa), .val (.int ri)] [(.int (1 : Int32)), (.int ri), (.ref bf)]))
  refine Go.step (fun t k => XS.iadd X1.here hx rfl (hb hby d10_6) rfl k) ?_
  show Go _ _ _ _ _ _ _ (T1.setTop (mkF m 7 #[.val (.ref aa), .val (.int ri)] [(.int (ri + (1 : Int32))), (.ref bf)]))
  refine Go.step (own_ld X1 hx hZ e1 A_bf (j := (ri + (1 : Int32))) (ki + 1) (own_inc hri (by omega)) (by omega) (v := (.int (gf (ki + 1)))) rfl (Or.inl ⟨rfl, rfl⟩) (f := (mkF m 7 #[.val (.ref aa), .val (.int ri)] [(.int (ri + (1 : Int32))), (.ref bf)])) rfl rfl (hb hby d10_7)) ?_
  show Go _ _ _ _ _ _ _ (T1.setTop (mkF m 8 #[.val (.ref aa), .val (.int ri)] [(.int (gf (ki + 1)))]))
  refine Go.step (fun t k => XS.aloadN X1.here hx rfl (hb hby d10_8) rfl rfl k) ?_
  show Go _ _ _ _ _ _ _ (T1.setTop (mkF m 9 #[.val (.ref aa), .val (.int ri)] [(.ref aa), (.int (gf (ki + 1)))]))
  obtain ⟨T3, X3, e3, st3⟩ := getF X1 hx hZ hown (host := "") (Or.inl (hw _ (List.mem_of_getElem? (i := 42) rfl))) Via.refl e1 F_firstFields_aa (g := (mkF m 9 #[.val (.ref aa), .val (.int ri)] [(.ref aa), (.int (gf (ki + 1)))])) rfl rfl (hb hby d10_9)
  refine Go.step st3 ?_
  show Go _ _ _ _ _ _ _ (T3.setTop (mkF m 12 #[.val (.ref aa), .val (.int ri)] [(.ref bf), (.int (gf (ki + 1)))]))
  refine Go.step (fun t k => XS.iloadN X3.here hx rfl (hb hby d10_12) rfl k) ?_
  show Go _ _ _ _ _ _ _ (T3.setTop (mkF m 13 #[.val (.ref aa), .val (.int ri)] [(.int ri), (.ref bf), (.int (gf (ki + 1)))]))
  refine Go.step (own_ld X3 hx hZ e3 A_bf (j := ri) ki hri (by omega) (v := (.int (gf ki))) rfl (Or.inl ⟨rfl, rfl⟩) (f := (mkF m 13 #[.val (.ref aa), .val (.int ri)] [(.int ri), (.ref bf), (.int (gf (ki + 1)))])) rfl rfl (hb hby d10_13)) ?_
  show Go _ _ _ _ _ _ _ (T3.setTop (mkF m 14 #[.val (.ref aa), .val (.int ri)] [(.int (gf ki)), (.int (gf (ki + 1)))]))
  refine Go.step (fun t k => XS.isub X3.here hx rfl (hb hby d10_14) rfl k) ?_
  show Go _ _ _ _ _ _ _ (T3.setTop (mkF m 15 #[.val (.ref aa), .val (.int ri)] [(.int ((gf (ki + 1)) - (gf ki)))]))
  refine Go.retI X3 Bd.notSynchronized hx Bd.returns (hb hby d10_15) (by decide) (by decide) ?_
  rw [e3]
  exact ⟨rfl, N0, rfl⟩
theorem pn_0 : plainName "com/example/vestwright/vestwright/io/RecordsWidthPinLaw" = true := by first | (simp [plainName, overriddenIn]; done) | decide +kernel
theorem pd_0_0 : parseMethodDescriptor "(C)Ljava/lang/String;" = some ⟨[.char], some (.object "java/lang/String")⟩ := by decide +kernel
theorem pd_0_1 : parseMethodDescriptor "()V" = some ⟨[], none⟩ := by decide +kernel
theorem pd_0_2 : parseMethodDescriptor "(I)V" = some ⟨[.int], none⟩ := by decide +kernel
theorem pd_0_3 : parseMethodDescriptor "(Lcom/example/vestwright/vestwright/io/Records;ILjava/lang/String;)V" = some ⟨[(.object "com/example/vestwright/vestwright/io/Records"), .int, (.object "java/lang/String")], none⟩ := by decide +kernel
theorem pd_0_4 : parseMethodDescriptor "(I)I" = some ⟨[.int], some .int⟩ := by decide +kernel
theorem ef_0 (m : MethodId) (x0 : Int32) (x1 : Int32) (x2 : Int32) (x3 : Int32) (x4 : Int32) : entryFrame m #[(.int x0), (.int x1), (.int x2), (.int x3), (.int x4)] maxLocals = mkF m 0 #[.val (.int x0), .val (.int x1), .val (.int x2), .val (.int x3), .val (.int x4), .unset, .unset, .unset, .unset] [] := by first | (simp [entryFrame, mkF, argsToLocals, Value.category, maxLocals]; done) | rfl
def Q0 (Z : State) (pa : Int32) (pb : Int32) (l0 : Int32) (l1 : Int32) (pc_ : Int32) (cs : Int32) (fm : Value) (h0 : Heap) (n0 : Nat) (v : Option Value) (h : Heap) (L : List Loc) : Prop := v = some (.int (1 : Int32)) ∧ Fr n0 L
set_option maxRecDepth 65536 in
set_option maxHeartbeats 40000000 in
theorem rm0 (l : Launch) (Z : State) (a0 : Array Value) (hw : ∀ d ∈ tables_1, d.before a0 Z = true) (ws : List Jvm.Cond) (pa : Int32) (pb : Int32) (l0 : Int32) (l1 : Int32) (pc_ : Int32) (cs : Int32) (fm : Value) (h0 : Heap) (n0 : Nat) (Z0 : n0 ≤ h0.size) (old : Old Z n0 h0) (hcs : (Sta Z Z.heap "java/lang/String" "COMPACT_STRINGS" "Z" (.int cs))) (hc0 : (¬ cs = (0 : Int32))) (hfs : (Sta Z Z.heap "jdk/internal/util/Preconditions" "SIOOBE_FORMATTER" "Ljava/util/function/BiFunction;" fm)) (hfr : (fm.isRef = true)) :
    MetFree l x (head1 (Jvm.Cond.code x code maxLocals ret :: ws) room_1) (fun a U => a = #[(.int pa), (.int pb), (.int l0), (.int l1), (.int pc_)] ∧ Z.Warmed39 U.vm ∧ U.heap = h0) (fun _ _ _ _ _ => True) (fun _ U o U' => ∃ v L, o = .returned v ∧ Q0 Z pa pb l0 l1 pc_ cs fm h0 n0 v U'.heap L ∧ FrameEnd U o U' L 32 9728) := by
  refine MetFree.of_bodySF (plainFor_of_name pn_0) hisR ?_
  intro p e s m args below meth c s₁ Bd hml0 hP hK
  obtain ⟨rfl, hZ, hh⟩ := hP
  have hx := Bd.exec
  have hby := Bd.bytes
  have hml : c.maxLocals = 9 := hml0
  have hown : s.vm.findClass "com/example/vestwright/vestwright/io/RecordsWidthPinLaw" = some m.cls := findClass_of_methodNamed Bd.named
  have hnm := (name_of_methodNamed Bd.named Bd.method).1
  have X0 : Stand p l e room_1 s m #[(.int pa), (.int pb), (.int l0), (.int l1), (.int pc_)] below meth c s₁ [] 0 0 := Stand.of_body Bd
  have e0 : s₁.heap = h0 := by rw [← hh, Bd.state]; rfl
  have N0 := Fr.nil n0
  show Go p e below s (Q0 Z pa pb l0 l1 pc_ cs fm h0 n0) 32 9728 (s₁.setTop (entryFrame m #[(.int pa), (.int pb), (.int l0), (.int l1), (.int pc_)] maxLocals))
  rw [ef_0]
  show Go _ _ _ _ _ _ _ (s₁.setTop (mkF m 0 #[.val (.int pa), .val (.int pb), .val (.int l0), .val (.int l1), .val (.int pc_), .unset, .unset, .unset, .unset] []))
  refine Go.step (fun t k => XS.iloadN X0.here hx rfl (hb hby at_0) rfl k) ?_
  show Go _ _ _ _ _ _ _ (s₁.setTop (mkF m 1 #[.val (.int pa), .val (.int pb), .val (.int l0), .val (.int l1), .val (.int pc_), .unset, .unset, .unset, .unset] [(.int pa)]))
  refine Go.step (fun t k => X0.ldcInt hx hown (mvT hZ (hw _ (List.mem_of_getElem? (i := 0) rfl))) (g := (mkF m 1 #[.val (.int pa), .val (.int pb), .val (.int l0), .val (.int l1), .val (.int pc_), .unset, .unset, .unset, .unset] [(.int pa)])) rfl (hb hby at_1) _ k) ?_
  show Go _ _ _ _ _ _ _ (s₁.setTop (mkF m 3 #[.val (.int pa), .val (.int pb), .val (.int l0), .val (.int l1), .val (.int pc_), .unset, .unset, .unset, .unset] [(.int (2147483647 : Int32)), (.int pa)]))
  refine Go.step (fun t k => XS.iand X0.here hx rfl (hb hby at_3) rfl k) ?_
  show Go _ _ _ _ _ _ _ (s₁.setTop (mkF m 4 #[.val (.int pa), .val (.int pb), .val (.int l0), .val (.int l1), .val (.int pc_), .unset, .unset, .unset, .unset] [(.int (pa &&& (2147483647 : Int32)))]))
  refine Go.step (fun t k => XS.iconst X0.here hx rfl (hb hby at_4) k) ?_
  show Go _ _ _ _ _ _ _ (s₁.setTop (mkF m 5 #[.val (.int pa), .val (.int pb), .val (.int l0), .val (.int l1), .val (.int pc_), .unset, .unset, .unset, .unset] [(.int (3 : Int32)), (.int (pa &&& (2147483647 : Int32)))]))
  refine Go.step (fun t k => iremM X0 hx rfl (hb hby at_5) rfl (by decide) k) ?_
  show Go _ _ _ _ _ _ _ (s₁.setTop (mkF m 6 #[.val (.int pa), .val (.int pb), .val (.int l0), .val (.int l1), .val (.int pc_), .unset, .unset, .unset, .unset] [(.int ((pa &&& (2147483647 : Int32)) % (3 : Int32)))]))
  refine Go.step (fun t k => XS.istore X0.here hx rfl (hb hby at_6) rfl (l' := #[.val (.int pa), .val (.int pb), .val (.int l0), .val (.int l1), .val (.int pc_), .val (.int ((pa &&& (2147483647 : Int32)) % (3 : Int32))), .unset, .unset, .unset]) rfl k) ?_
  show Go _ _ _ _ _ _ _ (s₁.setTop (mkF m 8 #[.val (.int pa), .val (.int pb), .val (.int l0), .val (.int l1), .val (.int pc_), .val (.int ((pa &&& (2147483647 : Int32)) % (3 : Int32))), .unset, .unset, .unset] []))
  generalize hva : ((pa &&& (2147483647 : Int32)) % (3 : Int32)) = va
  show Go _ _ _ _ _ _ _ (s₁.setTop (mkF m 8 #[.val (.int pa), .val (.int pb), .val (.int l0), .val (.int l1), .val (.int pc_), .val (.int va), .unset, .unset, .unset] []))
  refine Go.step (fun t k => XS.iloadN X0.here hx rfl (hb hby at_8) rfl k) ?_
  show Go _ _ _ _ _ _ _ (s₁.setTop (mkF m 9 #[.val (.int pa), .val (.int pb), .val (.int l0), .val (.int l1), .val (.int pc_), .val (.int va), .unset, .unset, .unset] [(.int pb)]))
  refine Go.step (fun t k => X0.ldcInt hx hown (mvT hZ (hw _ (List.mem_of_getElem? (i := 0) rfl))) (g := (mkF m 9 #[.val (.int pa), .val (.int pb), .val (.int l0), .val (.int l1), .val (.int pc_), .val (.int va), .unset, .unset, .unset] [(.int pb)])) rfl (hb hby at_9) _ k) ?_
  show Go _ _ _ _ _ _ _ (s₁.setTop (mkF m 11 #[.val (.int pa), .val (.int pb), .val (.int l0), .val (.int l1), .val (.int pc_), .val (.int va), .unset, .unset, .unset] [(.int (2147483647 : Int32)), (.int pb)]))
  refine Go.step (fun t k => XS.iand X0.here hx rfl (hb hby at_11) rfl k) ?_
  show Go _ _ _ _ _ _ _ (s₁.setTop (mkF m 12 #[.val (.int pa), .val (.int pb), .val (.int l0), .val (.int l1), .val (.int pc_), .val (.int va), .unset, .unset, .unset] [(.int (pb &&& (2147483647 : Int32)))]))
  refine Go.step (fun t k => XS.iconst X0.here hx rfl (hb hby at_12) k) ?_
  show Go _ _ _ _ _ _ _ (s₁.setTop (mkF m 13 #[.val (.int pa), .val (.int pb), .val (.int l0), .val (.int l1), .val (.int pc_), .val (.int va), .unset, .unset, .unset] [(.int (3 : Int32)), (.int (pb &&& (2147483647 : Int32)))]))
  refine Go.step (fun t k => iremM X0 hx rfl (hb hby at_13) rfl (by decide) k) ?_
  show Go _ _ _ _ _ _ _ (s₁.setTop (mkF m 14 #[.val (.int pa), .val (.int pb), .val (.int l0), .val (.int l1), .val (.int pc_), .val (.int va), .unset, .unset, .unset] [(.int ((pb &&& (2147483647 : Int32)) % (3 : Int32)))]))
  refine Go.step (fun t k => XS.istore X0.here hx rfl (hb hby at_14) rfl (l' := #[.val (.int pa), .val (.int pb), .val (.int l0), .val (.int l1), .val (.int pc_), .val (.int va), .val (.int ((pb &&& (2147483647 : Int32)) % (3 : Int32))), .unset, .unset]) rfl k) ?_
  show Go _ _ _ _ _ _ _ (s₁.setTop (mkF m 16 #[.val (.int pa), .val (.int pb), .val (.int l0), .val (.int l1), .val (.int pc_), .val (.int va), .val (.int ((pb &&& (2147483647 : Int32)) % (3 : Int32))), .unset, .unset] []))
  generalize hvb : ((pb &&& (2147483647 : Int32)) % (3 : Int32)) = vb
  show Go _ _ _ _ _ _ _ (s₁.setTop (mkF m 16 #[.val (.int pa), .val (.int pb), .val (.int l0), .val (.int l1), .val (.int pc_), .val (.int va), .val (.int vb), .unset, .unset] []))
  refine Go.step (fun t k => XS.iload X0.here hx rfl (hb hby at_16) rfl k) ?_
  show Go _ _ _ _ _ _ _ (s₁.setTop (mkF m 18 #[.val (.int pa), .val (.int pb), .val (.int l0), .val (.int l1), .val (.int pc_), .val (.int va), .val (.int vb), .unset, .unset] [(.int pc_)]))
  refine Go.step (fun t k => XS.sipush X0.here hx rfl (hb hby at_18) k) ?_
  show Go _ _ _ _ _ _ _ (s₁.setTop (mkF m 21 #[.val (.int pa), .val (.int pb), .val (.int l0), .val (.int l1), .val (.int pc_), .val (.int va), .val (.int vb), .unset, .unset] [(.int (255 : Int32)), (.int pc_)]))
  refine Go.step (fun t k => XS.iand X0.here hx rfl (hb hby at_21) rfl k) ?_
  show Go _ _ _ _ _ _ _ (s₁.setTop (mkF m 22 #[.val (.int pa), .val (.int pb), .val (.int l0), .val (.int l1), .val (.int pc_), .val (.int va), .val (.int vb), .unset, .unset] [(.int (pc_ &&& (255 : Int32)))]))
  refine Go.step (fun t k => XS.i2c X0.here hx rfl (hb hby at_22) rfl k) ?_
  show Go _ _ _ _ _ _ _ (s₁.setTop (mkF m 23 #[.val (.int pa), .val (.int pb), .val (.int l0), .val (.int l1), .val (.int pc_), .val (.int va), .val (.int vb), .unset, .unset] [(.int ((pc_ &&& (255 : Int32)).toUInt32.toUInt16.toUInt32.toInt32))]))
  obtain ⟨_, _, ⟨T1, L1, k1, n1⟩, -, X1, ⟨Lc1, hQ1, l1, y1, z1⟩, st1⟩ := Jvm.LawKit.callS X0 hx (y := (⟨"java/lang/String", "valueOf", "(C)Ljava/lang/String;"⟩ : MethodName)) hown (mvT hZ (hw _ (List.mem_of_getElem? (i := 1) rfl))) (mvT hZ (hw _ (List.mem_of_getElem? (i := 2) rfl))) (mvT hZ (hw _ (List.mem_of_getElem? (i := 3) rfl))) (mvT hZ (hw _ (List.mem_of_getElem? (i := 4) rfl))) (by decide) (backOf (W := 0) (rm1 l Z a0 hw [] ((pc_ &&& (255 : Int32)).toUInt32.toUInt16.toUInt32.toInt32) cs h0 n0 Z0 old hcs hc0 (own_ch pc_)) hZ (hw _ (List.mem_of_getElem? (i := 4) rfl)) (hw _ (List.mem_of_getElem? (i := 3) rfl)) (by decide) (by decide)) (g := (mkF m 23 #[.val (.int pa), .val (.int pb), .val (.int l0), .val (.int l1), .val (.int pc_), .val (.int va), .val (.int vb), .unset, .unset] [(.int ((pc_ &&& (255 : Int32)).toUInt32.toUInt16.toUInt32.toInt32))])) rfl (by rw [hml]; rfl) (argsL := [(.int ((pc_ &&& (255 : Int32)).toUInt32.toUInt16.toUInt32.toInt32))]) (rest := []) (lenOf pd_0_0 rfl) rfl (by show 2 * 0 + _ ≤ _; exact Nat.le_of_eq rfl) (hb hby at_23) (fun _ _ => ⟨rfl, e0, (by decide : 0 + 2 ≤ _), (by decide : 0 + 5 ≤ _)⟩)
  dsimp only [Pt.U, Pt.locs, Pt.cells, Pt.slots] at X1 l1 y1 z1 st1 hQ1
  subst l1 y1 z1
  obtain ⟨xs, bv, rfl, N1q, K1q, o1_nw_xs, o1_nw_bv, o1_E_xs, o1_F_value_xs, o1_F_coder_xs, o1_A_bv, o1_ne_xs_bv⟩ := hQ1
  have N1 := Fr.app N0 N1q
  have g_xs : n0 ≤ xs := Nat.le_trans Z0 o1_nw_xs
  have g_bv : n0 ≤ bv := Nat.le_trans Z0 o1_nw_bv
  replace old := Old.keep old K1q all0
  have Z1 := Nat.le_trans Z0 K1q.1
  have E_xs := o1_E_xs
  have F_value_xs := o1_F_value_xs
  have F_coder_xs := o1_F_coder_xs
  have A_bv := o1_A_bv
  refine Go.step st1 ?_
  show Go _ _ _ _ _ _ _ (T1.setTop (mkF m 26 #[.val (.int pa), .val (.int pb), .val (.int l0), .val (.int l1), .val (.int pc_), .val (.int va), .val (.int vb), .unset, .unset] [(.ref xs)]))
  refine Go.step (fun t k => XS.astore X1.here hx rfl (hb hby at_26) rfl rfl (l' := #[.val (.int pa), .val (.int pb), .val (.int l0), .val (.int l1), .val (.int pc_), .val (.int va), .val (.int vb), .val (.ref xs), .unset]) rfl k) ?_
  show Go _ _ _ _ _ _ _ (T1.setTop (mkF m 28 #[.val (.int pa), .val (.int pb), .val (.int l0), .val (.int l1), .val (.int pc_), .val (.int va), .val (.int vb), .val (.ref xs), .unset] []))
  obtain ⟨T2, h2, X2, e2, E2, A2, D2, -, st2⟩ := newO X1 hx hZ hown (hw _ (List.mem_of_getElem? (i := 27) rfl)) (hw _ (List.mem_of_getElem? (i := 28) rfl)) (hw _ (List.mem_of_getElem? (i := 29) rfl)) rfl (g := (mkF m 28 #[.val (.int pa), .val (.int pb), .val (.int l0), .val (.int l1), .val (.int pc_), .val (.int va), .val (.int vb), .val (.ref xs), .unset] [])) rfl (hb hby at_28) (by decide) (by decide)
  obtain ⟨ro, gz2⟩ : ∃ z, z = T1.heap.size := ⟨_, rfl⟩
  have ne_xs_ro : xs ≠ ro := Nat.ne_of_lt (Nat.lt_of_lt_of_le E_xs.lt (Nat.le_of_eq gz2.symm))
  have ne_bv_ro : bv ≠ ro := Nat.ne_of_lt (Nat.lt_of_lt_of_le A_bv.lt (Nat.le_of_eq gz2.symm))
  have g_ro : n0 ≤ ro := Nat.le_trans Z1 (Nat.le_of_eq gz2.symm)
  rw [← gz2] at A2 D2 st2
  replace old := Old.ext old E2
  replace E_xs := E_xs.ext E2
  replace F_value_xs := F_value_xs.ext E2
  replace F_coder_xs := F_coder_xs.ext E2
  replace A_bv := A_bv.ext E2
  have Z2 := Nat.le_trans Z1 E2.1
  have E_ro := A2
  have F_text_ro : Fld Z h2 ro "com/example/vestwright/vestwright/io/Records" "text" "[C" .null := D2 (Or.inl (hw _ (List.mem_of_getElem? (i := 36) rfl))) (ty := (.array .char)) (by decide)
  have F_starts_ro : Fld Z h2 ro "com/example/vestwright/vestwright/io/Records" "starts" "[I" .null := D2 (Or.inl (hw _ (List.mem_of_getElem? (i := 39) rfl))) (ty := (.array .int)) (by decide)
  have F_ends_ro : Fld Z h2 ro "com/example/vestwright/vestwright/io/Records" "ends" "[I" .null := D2 (Or.inl (hw _ (List.mem_of_getElem? (i := 41) rfl))) (ty := (.array .int)) (by decide)
  have F_firstFields_ro : Fld Z h2 ro "com/example/vestwright/vestwright/io/Records" "firstFields" "[I" .null := D2 (Or.inl (hw _ (List.mem_of_getElem? (i := 43) rfl))) (ty := (.array .int)) (by decide)
  have F_lines_ro : Fld Z h2 ro "com/example/vestwright/vestwright/io/Records" "lines" "[I" .null := D2 (Or.inl (hw _ (List.mem_of_getElem? (i := 45) rfl))) (ty := (.array .int)) (by decide)
  have F_faults_ro : Fld Z h2 ro "com/example/vestwright/vestwright/io/Records" "faults" "[Lcom/example/vestwright/vestwright/io/CsvFormatException;" .null := D2 (Or.inl (hw _ (List.mem_of_getElem? (i := 49) rfl))) (ty := (.array (.object "com/example/vestwright/vestwright/io/CsvFormatException"))) (by decide)
  have F_records_ro : Fld Z h2 ro "com/example/vestwright/vestwright/io/Records" "records" "I" (.int (0 : Int32)) := D2 (Or.inl (hw _ (List.mem_of_getElem? (i := 56) rfl))) (ty := .int) (by decide)
  have F_fields_ro : Fld Z h2 ro "com/example/vestwright/vestwright/io/Records" "fields" "I" (.int (0 : Int32)) := D2 (Or.inl (hw _ (List.mem_of_getElem? (i := 58) rfl))) (ty := .int) (by decide)
  have F_textUsed_ro : Fld Z h2 ro "com/example/vestwright/vestwright/io/Records" "textUsed" "I" (.int (0 : Int32)) := D2 (Or.inl (hw _ (List.mem_of_getElem? (i := 97) rfl))) (ty := .int) (by decide)
  refine Go.step st2 ?_
  show Go _ _ _ _ _ _ _ (T2.setTop (mkF m 31 #[.val (.int pa), .val (.int pb), .val (.int l0), .val (.int l1), .val (.int pc_), .val (.int va), .val (.int vb), .val (.ref xs), .unset] [(.ref ro)]))
  refine Go.step (fun t k => XS.dup X2.here hx rfl (hb hby at_31) rfl rfl k) ?_
  show Go _ _ _ _ _ _ _ (T2.setTop (mkF m 32 #[.val (.int pa), .val (.int pb), .val (.int l0), .val (.int l1), .val (.int pc_), .val (.int va), .val (.int vb), .val (.ref xs), .unset] [(.ref ro), (.ref ro)]))
  obtain ⟨_, _, ⟨T3, L3, k3, n3⟩, -, X3, ⟨Lc3, hQ3, l3, y3, z3⟩, st3⟩ := X2.specialBack hx (y := (⟨"com/example/vestwright/vestwright/io/Records", "<init>", "()V"⟩ : MethodName)) rfl hown (mvT hZ (hw _ (List.mem_of_getElem? (i := 30) rfl))) (mvT hZ (hw _ (List.mem_of_getElem? (i := 31) rfl))) (mvT hZ (hw _ (List.mem_of_getElem? (i := 32) rfl))) (by decide) (backOf (W := 1) (rm6 l Z a0 hw [] ro h2 n0 Z2 F_text_ro F_starts_ro F_ends_ro F_firstFields_ro F_lines_ro F_faults_ro F_textUsed_ro F_fields_ro F_records_ro E_ro g_ro) hZ (hw _ (List.mem_of_getElem? (i := 32) rfl)) (hw _ (List.mem_of_getElem? (i := 29) rfl)) (by decide) (by decide)) (g := (mkF m 32 #[.val (.int pa), .val (.int pb), .val (.int l0), .val (.int l1), .val (.int pc_), .val (.int va), .val (.int vb), .val (.ref xs), .unset] [(.ref ro), (.ref ro)])) rfl (by rw [hml]; rfl) (Steps.refl _) (a := ro) (argsL := []) (rest := [(.ref ro)]) (lenOf pd_0_1 rfl) rfl (by show 2 * 0 + _ ≤ _; exact Nat.le_of_eq rfl) (hb hby at_32) (fun _ _ => ⟨rfl, e2, (by decide : 3 + 6 ≤ _), (by decide : 16 + 4800 ≤ _)⟩)
  dsimp only [Pt.U, Pt.locs, Pt.cells, Pt.slots] at X3 l3 y3 z3 st3 hQ3
  subst l3 y3 z3
  obtain ⟨bt, bs, be, bf, bn, bx, rfl, N3q, K3q, o3_F_text_ro, o3_F_starts_ro, o3_F_ends_ro, o3_F_firstFields_ro, o3_F_lines_ro, o3_F_faults_ro, o3_F_textUsed_ro, o3_F_fields_ro, o3_F_records_ro, o3_T_bt, o3_A_bs, o3_A_be, o3_A_bf, o3_A_bn, o3_nw_bt, o3_nw_bs, o3_nw_be, o3_nw_bf, o3_nw_bn, o3_ne_bt_bs, o3_ne_bt_be, o3_ne_bt_bf, o3_ne_bt_bn, o3_ne_bs_be, o3_ne_bs_bf, o3_ne_bs_bn, o3_ne_be_bf, o3_ne_be_bn, o3_ne_bf_bn, o3_ne_ro_bt, o3_ne_ro_bs, o3_ne_ro_be, o3_ne_ro_bf, o3_ne_ro_bn⟩ := hQ3
  have N3 := Fr.app N1 N3q
  have ne_xs_bt : xs ≠ bt := Nat.ne_of_lt (Nat.lt_of_lt_of_le E_xs.lt o3_nw_bt)
  have ne_bv_bt : bv ≠ bt := Nat.ne_of_lt (Nat.lt_of_lt_of_le A_bv.lt o3_nw_bt)
  have ne_ro_bt : ro ≠ bt := Nat.ne_of_lt (Nat.lt_of_lt_of_le E_ro.lt o3_nw_bt)
  have g_bt : n0 ≤ bt := Nat.le_trans Z2 o3_nw_bt
  have ne_xs_bs : xs ≠ bs := Nat.ne_of_lt (Nat.lt_of_lt_of_le E_xs.lt o3_nw_bs)
  have ne_bv_bs : bv ≠ bs := Nat.ne_of_lt (Nat.lt_of_lt_of_le A_bv.lt o3_nw_bs)
  have ne_ro_bs : ro ≠ bs := Nat.ne_of_lt (Nat.lt_of_lt_of_le E_ro.lt o3_nw_bs)
  have g_bs : n0 ≤ bs := Nat.le_trans Z2 o3_nw_bs
  have ne_xs_be : xs ≠ be := Nat.ne_of_lt (Nat.lt_of_lt_of_le E_xs.lt o3_nw_be)
  have ne_bv_be : bv ≠ be := Nat.ne_of_lt (Nat.lt_of_lt_of_le A_bv.lt o3_nw_be)
  have ne_ro_be : ro ≠ be := Nat.ne_of_lt (Nat.lt_of_lt_of_le E_ro.lt o3_nw_be)
  have g_be : n0 ≤ be := Nat.le_trans Z2 o3_nw_be
  have ne_xs_bf : xs ≠ bf := Nat.ne_of_lt (Nat.lt_of_lt_of_le E_xs.lt o3_nw_bf)
  have ne_bv_bf : bv ≠ bf := Nat.ne_of_lt (Nat.lt_of_lt_of_le A_bv.lt o3_nw_bf)
  have ne_ro_bf : ro ≠ bf := Nat.ne_of_lt (Nat.lt_of_lt_of_le E_ro.lt o3_nw_bf)
  have g_bf : n0 ≤ bf := Nat.le_trans Z2 o3_nw_bf
  have ne_xs_bn : xs ≠ bn := Nat.ne_of_lt (Nat.lt_of_lt_of_le E_xs.lt o3_nw_bn)
  have ne_bv_bn : bv ≠ bn := Nat.ne_of_lt (Nat.lt_of_lt_of_le A_bv.lt o3_nw_bn)
  have ne_ro_bn : ro ≠ bn := Nat.ne_of_lt (Nat.lt_of_lt_of_le E_ro.lt o3_nw_bn)
  have g_bn : n0 ≤ bn := Nat.le_trans Z2 o3_nw_bn
  replace old := Old.keep old K3q (allS g_ro all0)
  replace E_xs := E_xs.keep K3q
  replace F_value_xs := F_value_xs.keep K3q (ninS ne_xs_ro nin0)
  replace F_coder_xs := F_coder_xs.keep K3q (ninS ne_xs_ro nin0)
  replace A_bv := A_bv.keep K3q (ninS ne_bv_ro nin0)
  replace E_ro := E_ro.keep K3q
  have Z3 := Nat.le_trans Z2 K3q.1
  have F_text_ro := o3_F_text_ro
  have F_starts_ro := o3_F_starts_ro
  have F_ends_ro := o3_F_ends_ro
  have F_firstFields_ro := o3_F_firstFields_ro
  have F_lines_ro := o3_F_lines_ro
  have F_faults_ro := o3_F_faults_ro
  have F_textUsed_ro := o3_F_textUsed_ro
  have F_fields_ro := o3_F_fields_ro
  have F_records_ro := o3_F_records_ro
  have T_bt := o3_T_bt
  have A_bs := o3_A_bs
  have A_be := o3_A_be
  have A_bf := o3_A_bf
  have A_bn := o3_A_bn
  refine Go.step (fun t k => st3.trans k) ?_
  show Go _ _ _ _ _ _ _ (T3.setTop (mkF m 35 #[.val (.int pa), .val (.int pb), .val (.int l0), .val (.int l1), .val (.int pc_), .val (.int va), .val (.int vb), .val (.ref xs), .unset] [(.ref ro)]))
  refine Go.step (fun t k => XS.astore X3.here hx rfl (hb hby at_35) rfl rfl (l' := #[.val (.int pa), .val (.int pb), .val (.int l0), .val (.int l1), .val (.int pc_), .val (.int va), .val (.int vb), .val (.ref xs), .val (.ref ro)]) rfl k) ?_
  show Go _ _ _ _ _ _ _ (T3.setTop (mkF m 37 #[.val (.int pa), .val (.int pb), .val (.int l0), .val (.int l1), .val (.int pc_), .val (.int va), .val (.int vb), .val (.ref xs), .val (.ref ro)] []))
  refine Go.step (fun t k => XS.aload X3.here hx rfl (hb hby at_37) rfl rfl k) ?_
  show Go _ _ _ _ _ _ _ (T3.setTop (mkF m 39 #[.val (.int pa), .val (.int pb), .val (.int l0), .val (.int l1), .val (.int pc_), .val (.int va), .val (.int vb), .val (.ref xs), .val (.ref ro)] [(.ref ro)]))
  refine Go.step (fun t k => XS.iloadN X3.here hx rfl (hb hby at_39) rfl k) ?_
  show Go _ _ _ _ _ _ _ (T3.setTop (mkF m 40 #[.val (.int pa), .val (.int pb), .val (.int l0), .val (.int l1), .val (.int pc_), .val (.int va), .val (.int vb), .val (.ref xs), .val (.ref ro)] [(.int l0), (.ref ro)]))
  obtain ⟨cq4, kq4, q4a, q4b, q4c⟩ := isOf hZ rfl E_ro
  obtain ⟨_, _, ⟨T4, L4, k4, n4⟩, -, X4, ⟨Lc4, hQ4, l4, y4, z4⟩, st4⟩ := X3.virtualBack hx (y := (⟨"com/example/vestwright/vestwright/io/Records", "startRecord", "(I)V"⟩ : MethodName)) (z := (⟨"com/example/vestwright/vestwright/io/Records", "startRecord", "(I)V"⟩ : MethodName)) hown (mvT hZ (hw _ (List.mem_of_getElem? (i := 50) rfl))) (mvT hZ (hw _ (List.mem_of_getElem? (i := 51) rfl))) (notFace_of_selects (args := #[]) (mvT hZ (hw _ (List.mem_of_getElem? (i := 53) rfl)))) (mvT hZ (hw _ (List.mem_of_getElem? (i := 53) rfl))) (mvT hZ (hw _ (List.mem_of_getElem? (i := 52) rfl))) (by decide) (backOf (W := 0) (rm7 l Z a0 hw [] ro l0 bt bs be bf bn bx (0 : Int32) (0 : Int32) (0 : Int32) 0 (fun _ => (0 : Int32)) (fun _ => (0 : Int32)) T3.heap n0 Z3 F_text_ro F_starts_ro F_ends_ro F_firstFields_ro F_lines_ro F_faults_ro F_textUsed_ro F_fields_ro F_records_ro E_ro g_bf g_bn A_bf A_bn o3_ne_bf_bn o3_ne_ro_bf o3_ne_ro_bn rfl (by decide)) hZ (hw _ (List.mem_of_getElem? (i := 54) rfl)) (hw _ (List.mem_of_getElem? (i := 29) rfl)) (by decide) (by decide)) q4a q4c (g := (mkF m 40 #[.val (.int pa), .val (.int pb), .val (.int l0), .val (.int l1), .val (.int pc_), .val (.int va), .val (.int vb), .val (.ref xs), .val (.ref ro)] [(.int l0), (.ref ro)])) rfl (by rw [hml]; rfl) (Steps.refl _) (argsL := [(.int l0)]) (rest := []) (lenOf pd_0_2 rfl) rfl (by show 2 * 0 + _ ≤ _; exact Nat.le_of_eq rfl) (hb hby at_40) (fun _ _ => ⟨rfl, rfl, (by decide : 9 + 0 ≤ _), (by decide : 4816 + 0 ≤ _)⟩)
  dsimp only [Pt.U, Pt.locs, Pt.cells, Pt.slots] at X4 l4 y4 z4 st4 hQ4
  subst l4 y4 z4
  obtain ⟨rfl, N4q, K4q, o4_A_bf, o4_A_bn⟩ := hQ4
  have N4 := Fr.app N3 N4q
  replace old := Old.keep old K4q (allS g_bf (allS g_bn all0))
  replace E_xs := E_xs.keep K4q
  replace F_value_xs := F_value_xs.keep K4q (ninS ne_xs_bf (ninS ne_xs_bn nin0))
  replace F_coder_xs := F_coder_xs.keep K4q (ninS ne_xs_bf (ninS ne_xs_bn nin0))
  replace A_bv := A_bv.keep K4q (ninS ne_bv_bf (ninS ne_bv_bn nin0))
  replace E_ro := E_ro.keep K4q
  replace F_text_ro := F_text_ro.keep K4q (ninS o3_ne_ro_bf (ninS o3_ne_ro_bn nin0))
  replace F_starts_ro := F_starts_ro.keep K4q (ninS o3_ne_ro_bf (ninS o3_ne_ro_bn nin0))
  replace F_ends_ro := F_ends_ro.keep K4q (ninS o3_ne_ro_bf (ninS o3_ne_ro_bn nin0))
  replace F_firstFields_ro := F_firstFields_ro.keep K4q (ninS o3_ne_ro_bf (ninS o3_ne_ro_bn nin0))
  replace F_lines_ro := F_lines_ro.keep K4q (ninS o3_ne_ro_bf (ninS o3_ne_ro_bn nin0))
  replace F_faults_ro := F_faults_ro.keep K4q (ninS o3_ne_ro_bf (ninS o3_ne_ro_bn nin0))
  replace F_textUsed_ro := F_textUsed_ro.keep K4q (ninS o3_ne_ro_bf (ninS o3_ne_ro_bn nin0))
  replace F_fields_ro := F_fields_ro.keep K4q (ninS o3_ne_ro_bf (ninS o3_ne_ro_bn nin0))
  replace F_records_ro := F_records_ro.keep K4q (ninS o3_ne_ro_bf (ninS o3_ne_ro_bn nin0))
  replace T_bt := T_bt.keep K4q (ninS o3_ne_bt_bf (ninS o3_ne_bt_bn nin0))
  replace A_bs := A_bs.keep K4q (ninS o3_ne_bs_bf (ninS o3_ne_bs_bn nin0))
  replace A_be := A_be.keep K4q (ninS o3_ne_be_bf (ninS o3_ne_be_bn nin0))
  have Z4 := Nat.le_trans Z3 K4q.1
  have A_bf := o4_A_bf
  have A_bn := o4_A_bn
  refine Go.step (fun t k => st4.trans k) ?_
  show Go _ _ _ _ _ _ _ (T4.setTop (mkF m 43 #[.val (.int pa), .val (.int pb), .val (.int l0), .val (.int l1), .val (.int pc_), .val (.int va), .val (.int vb), .val (.ref xs), .val (.ref ro)] []))
  refine Go.step (fun t k => XS.aload X4.here hx rfl (hb hby at_43) rfl rfl k) ?_
  show Go _ _ _ _ _ _ _ (T4.setTop (mkF m 45 #[.val (.int pa), .val (.int pb), .val (.int l0), .val (.int l1), .val (.int pc_), .val (.int va), .val (.int vb), .val (.ref xs), .val (.ref ro)] [(.ref ro)]))
  refine Go.step (fun t k => XS.iload X4.here hx rfl (hb hby at_45) rfl k) ?_
  show Go _ _ _ _ _ _ _ (T4.setTop (mkF m 47 #[.val (.int pa), .val (.int pb), .val (.int l0), .val (.int l1), .val (.int pc_), .val (.int va), .val (.int vb), .val (.ref xs), .val (.ref ro)] [(.int va), (.ref ro)]))
  refine Go.step (fun t k => XS.aload X4.here hx rfl (hb hby at_47) rfl rfl k) ?_
  show Go _ _ _ _ _ _ _ (T4.setTop (mkF m 49 #[.val (.int pa), .val (.int pb), .val (.int l0), .val (.int l1), .val (.int pc_), .val (.int va), .val (.int vb), .val (.ref xs), .val (.ref ro)] [(.ref xs), (.int va), (.ref ro)]))
  obtain ⟨_, _, ⟨T5, L5, k5, n5⟩, -, X5, ⟨Lc5, hQ5, l5, y5, z5⟩, st5⟩ := Jvm.LawKit.callS X4 hx (y := (⟨"com/example/vestwright/vestwright/io/RecordsWidthPinLaw", "addFields", "(Lcom/example/vestwright/vestwright/io/Records;ILjava/lang/String;)V"⟩ : MethodName)) hown (mvT hZ (hw _ (List.mem_of_getElem? (i := 59) rfl))) (mvT hZ (hw _ (List.mem_of_getElem? (i := 60) rfl))) (mvT hZ (hw _ (List.mem_of_getElem? (i := 61) rfl))) (mvT hZ (hw _ (List.mem_of_getElem? (i := 62) rfl))) (by decide) (backOf (W := 0) (rm8 l Z a0 hw [] ro va xs cs fm bt bs be bf bn bx (0 : Int32) (0 : Int32) (0 : Int32) 0 0 bv (up (fun _ => (0 : Int32)) 0 (nar .byte (((pc_ &&& (255 : Int32)).toUInt32.toUInt16.toUInt32.toInt32).toInt8.toInt32))) (fun _ => (0 : Int32)) (fun _ => (0 : Int32)) T4.heap n0 Z4 old hcs hc0 hfs hfr F_text_ro F_starts_ro F_ends_ro F_firstFields_ro F_lines_ro F_faults_ro F_textUsed_ro F_fields_ro F_records_ro E_ro E_xs F_value_xs F_coder_xs A_bv g_ro g_bt g_bs g_be T_bt A_bs A_be o3_ne_bt_bs o3_ne_bt_be o3_ne_bs_be o3_ne_ro_bt o3_ne_ro_bs o3_ne_ro_be ne_bv_bt ne_bv_bs ne_bv_be ne_xs_bt ne_xs_bs ne_xs_be rfl rfl (by decide) (by decide) (own_m3 hva)) hZ (hw _ (List.mem_of_getElem? (i := 62) rfl)) (hw _ (List.mem_of_getElem? (i := 61) rfl)) (by decide) (by decide)) (g := (mkF m 49 #[.val (.int pa), .val (.int pb), .val (.int l0), .val (.int l1), .val (.int pc_), .val (.int va), .val (.int vb), .val (.ref xs), .val (.ref ro)] [(.ref xs), (.int va), (.ref ro)])) rfl (by rw [hml]; rfl) (argsL := [(.ref ro), (.int va), (.ref xs)]) (rest := []) (lenOf pd_0_3 rfl) rfl (by show 2 * 0 + _ ≤ _; exact Nat.le_of_eq rfl) (hb hby at_49) (fun _ _ => ⟨rfl, rfl, (by decide : 9 + 0 ≤ _), (by decide : 4816 + 0 ≤ _)⟩)
  dsimp only [Pt.U, Pt.locs, Pt.cells, Pt.slots] at X5 l5 y5 z5 st5 hQ5
  subst l5 y5 z5
  obtain ⟨tu1, fv1, gs1, ge1, rfl, N5q, K5q, o5_F_text_ro, o5_F_starts_ro, o5_F_ends_ro, o5_F_firstFields_ro, o5_F_lines_ro, o5_F_faults_ro, o5_F_textUsed_ro, o5_F_fields_ro, o5_F_records_ro, o5_T_bt, o5_A_bs, o5_A_be, o5_hf2, o5_ht2⟩ := hQ5
  have N5 := Fr.app N4 N5q
  replace old := Old.keep old K5q (allS g_ro (allS g_bt (allS g_bs (allS g_be all0))))
  replace E_xs := E_xs.keep K5q
  replace F_value_xs := F_value_xs.keep K5q (ninS ne_xs_ro (ninS ne_xs_bt (ninS ne_xs_bs (ninS ne_xs_be nin0))))
  replace F_coder_xs := F_coder_xs.keep K5q (ninS ne_xs_ro (ninS ne_xs_bt (ninS ne_xs_bs (ninS ne_xs_be nin0))))
  replace A_bv := A_bv.keep K5q (ninS ne_bv_ro (ninS ne_bv_bt (ninS ne_bv_bs (ninS ne_bv_be nin0))))
  replace E_ro := E_ro.keep K5q
  replace A_bf := A_bf.keep K5q (ninS (Ne.symm o3_ne_ro_bf) (ninS (Ne.symm o3_ne_bt_bf) (ninS (Ne.symm o3_ne_bs_bf) (ninS (Ne.symm o3_ne_be_bf) nin0))))
  replace A_bn := A_bn.keep K5q (ninS (Ne.symm o3_ne_ro_bn) (ninS (Ne.symm o3_ne_bt_bn) (ninS (Ne.symm o3_ne_bs_bn) (ninS (Ne.symm o3_ne_be_bn) nin0))))
  have Z5 := Nat.le_trans Z4 K5q.1
  have F_text_ro := o5_F_text_ro
  have F_starts_ro := o5_F_starts_ro
  have F_ends_ro := o5_F_ends_ro
  have F_firstFields_ro := o5_F_firstFields_ro
  have F_lines_ro := o5_F_lines_ro
  have F_faults_ro := o5_F_faults_ro
  have F_textUsed_ro := o5_F_textUsed_ro
  have F_fields_ro := o5_F_fields_ro
  have F_records_ro := o5_F_records_ro
  have T_bt := o5_T_bt
  have A_bs := o5_A_bs
  have A_be := o5_A_be
  refine Go.step st5 ?_
  show Go _ _ _ _ _ _ _ (T5.setTop (mkF m 52 #[.val (.int pa), .val (.int pb), .val (.int l0), .val (.int l1), .val (.int pc_), .val (.int va), .val (.int vb), .val (.ref xs), .val (.ref ro)] []))
  refine Go.step (fun t k => XS.aload X5.here hx rfl (hb hby at_52) rfl rfl k) ?_
  show Go _ _ _ _ _ _ _ (T5.setTop (mkF m 54 #[.val (.int pa), .val (.int pb), .val (.int l0), .val (.int l1), .val (.int pc_), .val (.int va), .val (.int vb), .val (.ref xs), .val (.ref ro)] [(.ref ro)]))
  obtain ⟨cq6, kq6, q6a, q6b, q6c⟩ := isOf hZ rfl E_ro
  obtain ⟨_, _, ⟨T6, L6, k6, n6⟩, -, X6, ⟨Lc6, hQ6, l6, y6, z6⟩, st6⟩ := X5.virtualBack hx (y := (⟨"com/example/vestwright/vestwright/io/Records", "endRecord", "()V"⟩ : MethodName)) (z := (⟨"com/example/vestwright/vestwright/io/Records", "endRecord", "()V"⟩ : MethodName)) hown (mvT hZ (hw _ (List.mem_of_getElem? (i := 63) rfl))) (mvT hZ (hw _ (List.mem_of_getElem? (i := 64) rfl))) (notFace_of_selects (args := #[]) (mvT hZ (hw _ (List.mem_of_getElem? (i := 66) rfl)))) (mvT hZ (hw _ (List.mem_of_getElem? (i := 66) rfl))) (mvT hZ (hw _ (List.mem_of_getElem? (i := 65) rfl))) (by decide) (backOf (W := 0) (rm9 l Z a0 hw [] ro bt bs be bf bn bx tu1 fv1 (0 : Int32) 0 (up (fun _ => (0 : Int32)) 0 (0 : Int32)) T5.heap n0 Z5 F_text_ro F_starts_ro F_ends_ro F_firstFields_ro F_lines_ro F_faults_ro F_textUsed_ro F_fields_ro F_records_ro E_ro g_ro g_bf A_bf o3_ne_ro_bf rfl (by decide)) hZ (hw _ (List.mem_of_getElem? (i := 67) rfl)) (hw _ (List.mem_of_getElem? (i := 29) rfl)) (by decide) (by decide)) q6a q6c (g := (mkF m 54 #[.val (.int pa), .val (.int pb), .val (.int l0), .val (.int l1), .val (.int pc_), .val (.int va), .val (.int vb), .val (.ref xs), .val (.ref ro)] [(.ref ro)])) rfl (by rw [hml]; rfl) (Steps.refl _) (argsL := []) (rest := []) (lenOf pd_0_1 rfl) rfl (by show 2 * 0 + _ ≤ _; exact Nat.le_of_eq rfl) (hb hby at_54) (fun _ _ => ⟨rfl, rfl, (by decide : 9 + 0 ≤ _), (by decide : 4816 + 0 ≤ _)⟩)
  dsimp only [Pt.U, Pt.locs, Pt.cells, Pt.slots] at X6 l6 y6 z6 st6 hQ6
  subst l6 y6 z6
  obtain ⟨rfl, N6q, K6q, o6_F_text_ro, o6_F_starts_ro, o6_F_ends_ro, o6_F_firstFields_ro, o6_F_lines_ro, o6_F_faults_ro, o6_F_textUsed_ro, o6_F_fields_ro, o6_F_records_ro, o6_A_bf⟩ := hQ6
  have N6 := Fr.app N5 N6q
  replace old := Old.keep old K6q (allS g_ro (allS g_bf all0))
  replace E_xs := E_xs.keep K6q
  replace F_value_xs := F_value_xs.keep K6q (ninS ne_xs_ro (ninS ne_xs_bf nin0))
  replace F_coder_xs := F_coder_xs.keep K6q (ninS ne_xs_ro (ninS ne_xs_bf nin0))
  replace A_bv := A_bv.keep K6q (ninS ne_bv_ro (ninS ne_bv_bf nin0))
  replace E_ro := E_ro.keep K6q
  replace A_bn := A_bn.keep K6q (ninS (Ne.symm o3_ne_ro_bn) (ninS (Ne.symm o3_ne_bf_bn) nin0))
  replace T_bt := T_bt.keep K6q (ninS (Ne.symm o3_ne_ro_bt) (ninS o3_ne_bt_bf nin0))
  replace A_bs := A_bs.keep K6q (ninS (Ne.symm o3_ne_ro_bs) (ninS o3_ne_bs_bf nin0))
  replace A_be := A_be.keep K6q (ninS (Ne.symm o3_ne_ro_be) (ninS o3_ne_be_bf nin0))
  have Z6 := Nat.le_trans Z5 K6q.1
  have F_text_ro := o6_F_text_ro
  have F_starts_ro := o6_F_starts_ro
  have F_ends_ro := o6_F_ends_ro
  have F_firstFields_ro := o6_F_firstFields_ro
  have F_lines_ro := o6_F_lines_ro
  have F_faults_ro := o6_F_faults_ro
  have F_textUsed_ro := o6_F_textUsed_ro
  have F_fields_ro := o6_F_fields_ro
  have F_records_ro := o6_F_records_ro
  have A_bf := o6_A_bf
  refine Go.step (fun t k => st6.trans k) ?_
  show Go _ _ _ _ _ _ _ (T6.setTop (mkF m 57 #[.val (.int pa), .val (.int pb), .val (.int l0), .val (.int l1), .val (.int pc_), .val (.int va), .val (.int vb), .val (.ref xs), .val (.ref ro)] []))
  refine Go.step (fun t k => XS.aload X6.here hx rfl (hb hby at_57) rfl rfl k) ?_
  show Go _ _ _ _ _ _ _ (T6.setTop (mkF m 59 #[.val (.int pa), .val (.int pb), .val (.int l0), .val (.int l1), .val (.int pc_), .val (.int va), .val (.int vb), .val (.ref xs), .val (.ref ro)] [(.ref ro)]))
  refine Go.step (fun t k => XS.iloadN X6.here hx rfl (hb hby at_59) rfl k) ?_
  show Go _ _ _ _ _ _ _ (T6.setTop (mkF m 60 #[.val (.int pa), .val (.int pb), .val (.int l0), .val (.int l1), .val (.int pc_), .val (.int va), .val (.int vb), .val (.ref xs), .val (.ref ro)] [(.int l1), (.ref ro)]))
  obtain ⟨cq7, kq7, q7a, q7b, q7c⟩ := isOf hZ rfl E_ro
  obtain ⟨_, _, ⟨T7, L7, k7, n7⟩, -, X7, ⟨Lc7, hQ7, l7, y7, z7⟩, st7⟩ := X6.virtualBack hx (y := (⟨"com/example/vestwright/vestwright/io/Records", "startRecord", "(I)V"⟩ : MethodName)) (z := (⟨"com/example/vestwright/vestwright/io/Records", "startRecord", "(I)V"⟩ : MethodName)) hown (mvT hZ (hw _ (List.mem_of_getElem? (i := 50) rfl))) (mvT hZ (hw _ (List.mem_of_getElem? (i := 51) rfl))) (notFace_of_selects (args := #[]) (mvT hZ (hw _ (List.mem_of_getElem? (i := 53) rfl)))) (mvT hZ (hw _ (List.mem_of_getElem? (i := 53) rfl))) (mvT hZ (hw _ (List.mem_of_getElem? (i := 52) rfl))) (by decide) (backOf (W := 0) (rm7 l Z a0 hw [] ro l1 bt bs be bf bn bx tu1 fv1 (1 : Int32) 1 (up (up (fun _ => (0 : Int32)) 0 (0 : Int32)) 1 fv1) (up (fun _ => (0 : Int32)) 0 l0) T6.heap n0 Z6 F_text_ro F_starts_ro F_ends_ro F_firstFields_ro F_lines_ro F_faults_ro F_textUsed_ro F_fields_ro F_records_ro E_ro g_bf g_bn A_bf A_bn o3_ne_bf_bn o3_ne_ro_bf o3_ne_ro_bn rfl (by decide)) hZ (hw _ (List.mem_of_getElem? (i := 54) rfl)) (hw _ (List.mem_of_getElem? (i := 29) rfl)) (by decide) (by decide)) q7a q7c (g := (mkF m 60 #[.val (.int pa), .val (.int pb), .val (.int l0), .val (.int l1), .val (.int pc_), .val (.int va), .val (.int vb), .val (.ref xs), .val (.ref ro)] [(.int l1), (.ref ro)])) rfl (by rw [hml]; rfl) (Steps.refl _) (argsL := [(.int l1)]) (rest := []) (lenOf pd_0_2 rfl) rfl (by show 2 * 0 + _ ≤ _; exact Nat.le_of_eq rfl) (hb hby at_60) (fun _ _ => ⟨rfl, rfl, (by decide : 9 + 0 ≤ _), (by decide : 4816 + 0 ≤ _)⟩)
  dsimp only [Pt.U, Pt.locs, Pt.cells, Pt.slots] at X7 l7 y7 z7 st7 hQ7
  subst l7 y7 z7
  obtain ⟨rfl, N7q, K7q, o7_A_bf, o7_A_bn⟩ := hQ7
  have N7 := Fr.app N6 N7q
  replace old := Old.keep old K7q (allS g_bf (allS g_bn all0))
  replace E_xs := E_xs.keep K7q
  replace F_value_xs := F_value_xs.keep K7q (ninS ne_xs_bf (ninS ne_xs_bn nin0))
  replace F_coder_xs := F_coder_xs.keep K7q (ninS ne_xs_bf (ninS ne_xs_bn nin0))
  replace A_bv := A_bv.keep K7q (ninS ne_bv_bf (ninS ne_bv_bn nin0))
  replace E_ro := E_ro.keep K7q
  replace T_bt := T_bt.keep K7q (ninS o3_ne_bt_bf (ninS o3_ne_bt_bn nin0))
  replace A_bs := A_bs.keep K7q (ninS o3_ne_bs_bf (ninS o3_ne_bs_bn nin0))
  replace A_be := A_be.keep K7q (ninS o3_ne_be_bf (ninS o3_ne_be_bn nin0))
  replace F_text_ro := F_text_ro.keep K7q (ninS o3_ne_ro_bf (ninS o3_ne_ro_bn nin0))
  replace F_starts_ro := F_starts_ro.keep K7q (ninS o3_ne_ro_bf (ninS o3_ne_ro_bn nin0))
  replace F_ends_ro := F_ends_ro.keep K7q (ninS o3_ne_ro_bf (ninS o3_ne_ro_bn nin0))
  replace F_firstFields_ro := F_firstFields_ro.keep K7q (ninS o3_ne_ro_bf (ninS o3_ne_ro_bn nin0))
  replace F_lines_ro := F_lines_ro.keep K7q (ninS o3_ne_ro_bf (ninS o3_ne_ro_bn nin0))
  replace F_faults_ro := F_faults_ro.keep K7q (ninS o3_ne_ro_bf (ninS o3_ne_ro_bn nin0))
  replace F_textUsed_ro := F_textUsed_ro.keep K7q (ninS o3_ne_ro_bf (ninS o3_ne_ro_bn nin0))
  replace F_fields_ro := F_fields_ro.keep K7q (ninS o3_ne_ro_bf (ninS o3_ne_ro_bn nin0))
  replace F_records_ro := F_records_ro.keep K7q (ninS o3_ne_ro_bf (ninS o3_ne_ro_bn nin0))
  have Z7 := Nat.le_trans Z6 K7q.1
  have A_bf := o7_A_bf
  have A_bn := o7_A_bn
  refine Go.step (fun t k => st7.trans k) ?_
  show Go _ _ _ _ _ _ _ (T7.setTop (mkF m 63 #[.val (.int pa), .val (.int pb), .val (.int l0), .val (.int l1), .val (.int pc_), .val (.int va), .val (.int vb), .val (.ref xs), .val (.ref ro)] []))
  refine Go.step (fun t k => XS.aload X7.here hx rfl (hb hby at_63) rfl rfl k) ?_
  show Go _ _ _ _ _ _ _ (T7.setTop (mkF m 65 #[.val (.int pa), .val (.int pb), .val (.int l0), .val (.int l1), .val (.int pc_), .val (.int va), .val (.int vb), .val (.ref xs), .val (.ref ro)] [(.ref ro)]))
  refine Go.step (fun t k => XS.iload X7.here hx rfl (hb hby at_65) rfl k) ?_
  show Go _ _ _ _ _ _ _ (T7.setTop (mkF m 67 #[.val (.int pa), .val (.int pb), .val (.int l0), .val (.int l1), .val (.int pc_), .val (.int va), .val (.int vb), .val (.ref xs), .val (.ref ro)] [(.int vb), (.ref ro)]))
  refine Go.step (fun t k => XS.aload X7.here hx rfl (hb hby at_67) rfl rfl k) ?_
  show Go _ _ _ _ _ _ _ (T7.setTop (mkF m 69 #[.val (.int pa), .val (.int pb), .val (.int l0), .val (.int l1), .val (.int pc_), .val (.int va), .val (.int vb), .val (.ref xs), .val (.ref ro)] [(.ref xs), (.int vb), (.ref ro)]))
  obtain ⟨_, _, ⟨T8, L8, k8, n8⟩, -, X8, ⟨Lc8, hQ8, l8, y8, z8⟩, st8⟩ := Jvm.LawKit.callS X7 hx (y := (⟨"com/example/vestwright/vestwright/io/RecordsWidthPinLaw", "addFields", "(Lcom/example/vestwright/vestwright/io/Records;ILjava/lang/String;)V"⟩ : MethodName)) hown (mvT hZ (hw _ (List.mem_of_getElem? (i := 59) rfl))) (mvT hZ (hw _ (List.mem_of_getElem? (i := 60) rfl))) (mvT hZ (hw _ (List.mem_of_getElem? (i := 61) rfl))) (mvT hZ (hw _ (List.mem_of_getElem? (i := 62) rfl))) (by decide) (backOf (W := 0) (rm8 l Z a0 hw [] ro vb xs cs fm bt bs be bf bn bx tu1 fv1 (1 : Int32) (tu1.toInt.toNat) (fv1.toInt.toNat) bv (up (fun _ => (0 : Int32)) 0 (nar .byte (((pc_ &&& (255 : Int32)).toUInt32.toUInt16.toUInt32.toInt32).toInt8.toInt32))) gs1 ge1 T7.heap n0 Z7 old hcs hc0 hfs hfr F_text_ro F_starts_ro F_ends_ro F_firstFields_ro F_lines_ro F_faults_ro F_textUsed_ro F_fields_ro F_records_ro E_ro E_xs F_value_xs F_coder_xs A_bv g_ro g_bt g_bs g_be T_bt A_bs A_be o3_ne_bt_bs o3_ne_bt_be o3_ne_bs_be o3_ne_ro_bt o3_ne_ro_bs o3_ne_ro_be ne_bv_bt ne_bv_bs ne_bv_be ne_xs_bt ne_xs_bs ne_xs_be (own_nat o5_ht2.1) (own_nat (by have q := o5_hf2; have r := own_m3 hva; have e0 : (0 : Int32).toInt = 0 := rfl; omega)) (by have q := o5_hf2; have r := own_m3 hva; have e0 : (0 : Int32).toInt = 0 := rfl; omega) (by have q := o5_ht2; have e0 : (0 : Int32).toInt = 0 := rfl; omega) (own_m3 hvb)) hZ (hw _ (List.mem_of_getElem? (i := 62) rfl)) (hw _ (List.mem_of_getElem? (i := 61) rfl)) (by decide) (by decide)) (g := (mkF m 69 #[.val (.int pa), .val (.int pb), .val (.int l0), .val (.int l1), .val (.int pc_), .val (.int va), .val (.int vb), .val (.ref xs), .val (.ref ro)] [(.ref xs), (.int vb), (.ref ro)])) rfl (by rw [hml]; rfl) (argsL := [(.ref ro), (.int vb), (.ref xs)]) (rest := []) (lenOf pd_0_3 rfl) rfl (by show 2 * 0 + _ ≤ _; exact Nat.le_of_eq rfl) (hb hby at_69) (fun _ _ => ⟨rfl, rfl, (by decide : 9 + 0 ≤ _), (by decide : 4816 + 0 ≤ _)⟩)
  dsimp only [Pt.U, Pt.locs, Pt.cells, Pt.slots] at X8 l8 y8 z8 st8 hQ8
  subst l8 y8 z8
  obtain ⟨tu3, fv3, gs3, ge3, rfl, N8q, K8q, o8_F_text_ro, o8_F_starts_ro, o8_F_ends_ro, o8_F_firstFields_ro, o8_F_lines_ro, o8_F_faults_ro, o8_F_textUsed_ro, o8_F_fields_ro, o8_F_records_ro, o8_T_bt, o8_A_bs, o8_A_be, o8_hf2, o8_ht2⟩ := hQ8
  have N8 := Fr.app N7 N8q
  replace old := Old.keep old K8q (allS g_ro (allS g_bt (allS g_bs (allS g_be all0))))
  replace E_xs := E_xs.keep K8q
  replace F_value_xs := F_value_xs.keep K8q (ninS ne_xs_ro (ninS ne_xs_bt (ninS ne_xs_bs (ninS ne_xs_be nin0))))
  replace F_coder_xs := F_coder_xs.keep K8q (ninS ne_xs_ro (ninS ne_xs_bt (ninS ne_xs_bs (ninS ne_xs_be nin0))))
  replace A_bv := A_bv.keep K8q (ninS ne_bv_ro (ninS ne_bv_bt (ninS ne_bv_bs (ninS ne_bv_be nin0))))
  replace E_ro := E_ro.keep K8q
  replace A_bf := A_bf.keep K8q (ninS (Ne.symm o3_ne_ro_bf) (ninS (Ne.symm o3_ne_bt_bf) (ninS (Ne.symm o3_ne_bs_bf) (ninS (Ne.symm o3_ne_be_bf) nin0))))
  replace A_bn := A_bn.keep K8q (ninS (Ne.symm o3_ne_ro_bn) (ninS (Ne.symm o3_ne_bt_bn) (ninS (Ne.symm o3_ne_bs_bn) (ninS (Ne.symm o3_ne_be_bn) nin0))))
  have Z8 := Nat.le_trans Z7 K8q.1
  have F_text_ro := o8_F_text_ro
  have F_starts_ro := o8_F_starts_ro
  have F_ends_ro := o8_F_ends_ro
  have F_firstFields_ro := o8_F_firstFields_ro
  have F_lines_ro := o8_F_lines_ro
  have F_faults_ro := o8_F_faults_ro
  have F_textUsed_ro := o8_F_textUsed_ro
  have F_fields_ro := o8_F_fields_ro
  have F_records_ro := o8_F_records_ro
  have T_bt := o8_T_bt
  have A_bs := o8_A_bs
  have A_be := o8_A_be
  refine Go.step st8 ?_
  show Go _ _ _ _ _ _ _ (T8.setTop (mkF m 72 #[.val (.int pa), .val (.int pb), .val (.int l0), .val (.int l1), .val (.int pc_), .val (.int va), .val (.int vb), .val (.ref xs), .val (.ref ro)] []))
  refine Go.step (fun t k => XS.aload X8.here hx rfl (hb hby at_72) rfl rfl k) ?_
  show Go _ _ _ _ _ _ _ (T8.setTop (mkF m 74 #[.val (.int pa), .val (.int pb), .val (.int l0), .val (.int l1), .val (.int pc_), .val (.int va), .val (.int vb), .val (.ref xs), .val (.ref ro)] [(.ref ro)]))
  obtain ⟨cq9, kq9, q9a, q9b, q9c⟩ := isOf hZ rfl E_ro
  obtain ⟨_, _, ⟨T9, L9, k9, n9⟩, -, X9, ⟨Lc9, hQ9, l9, y9, z9⟩, st9⟩ := X8.virtualBack hx (y := (⟨"com/example/vestwright/vestwright/io/Records", "endRecord", "()V"⟩ : MethodName)) (z := (⟨"com/example/vestwright/vestwright/io/Records", "endRecord", "()V"⟩ : MethodName)) hown (mvT hZ (hw _ (List.mem_of_getElem? (i := 63) rfl))) (mvT hZ (hw _ (List.mem_of_getElem? (i := 64) rfl))) (notFace_of_selects (args := #[]) (mvT hZ (hw _ (List.mem_of_getElem? (i := 66) rfl)))) (mvT hZ (hw _ (List.mem_of_getElem? (i := 66) rfl))) (mvT hZ (hw _ (List.mem_of_getElem? (i := 65) rfl))) (by decide) (backOf (W := 0) (rm9 l Z a0 hw [] ro bt bs be bf bn bx tu3 fv3 (1 : Int32) 1 (up (up (up (fun _ => (0 : Int32)) 0 (0 : Int32)) 1 fv1) 1 fv1) T8.heap n0 Z8 F_text_ro F_starts_ro F_ends_ro F_firstFields_ro F_lines_ro F_faults_ro F_textUsed_ro F_fields_ro F_records_ro E_ro g_ro g_bf A_bf o3_ne_ro_bf rfl (by decide)) hZ (hw _ (List.mem_of_getElem? (i := 67) rfl)) (hw _ (List.mem_of_getElem? (i := 29) rfl)) (by decide) (by decide)) q9a q9c (g := (mkF m 74 #[.val (.int pa), .val (.int pb), .val (.int l0), .val (.int l1), .val (.int pc_), .val (.int va), .val (.int vb), .val (.ref xs), .val (.ref ro)] [(.ref ro)])) rfl (by rw [hml]; rfl) (Steps.refl _) (argsL := []) (rest := []) (lenOf pd_0_1 rfl) rfl (by show 2 * 0 + _ ≤ _; exact Nat.le_of_eq rfl) (hb hby at_74) (fun _ _ => ⟨rfl, rfl, (by decide : 9 + 0 ≤ _), (by decide : 4816 + 0 ≤ _)⟩)
  dsimp only [Pt.U, Pt.locs, Pt.cells, Pt.slots] at X9 l9 y9 z9 st9 hQ9
  subst l9 y9 z9
  obtain ⟨rfl, N9q, K9q, o9_F_text_ro, o9_F_starts_ro, o9_F_ends_ro, o9_F_firstFields_ro, o9_F_lines_ro, o9_F_faults_ro, o9_F_textUsed_ro, o9_F_fields_ro, o9_F_records_ro, o9_A_bf⟩ := hQ9
  have N9 := Fr.app N8 N9q
  replace old := Old.keep old K9q (allS g_ro (allS g_bf all0))
  replace E_xs := E_xs.keep K9q
  replace F_value_xs := F_value_xs.keep K9q (ninS ne_xs_ro (ninS ne_xs_bf nin0))
  replace F_coder_xs := F_coder_xs.keep K9q (ninS ne_xs_ro (ninS ne_xs_bf nin0))
  replace A_bv := A_bv.keep K9q (ninS ne_bv_ro (ninS ne_bv_bf nin0))
  replace E_ro := E_ro.keep K9q
  replace A_bn := A_bn.keep K9q (ninS (Ne.symm o3_ne_ro_bn) (ninS (Ne.symm o3_ne_bf_bn) nin0))
  replace T_bt := T_bt.keep K9q (ninS (Ne.symm o3_ne_ro_bt) (ninS o3_ne_bt_bf nin0))
  replace A_bs := A_bs.keep K9q (ninS (Ne.symm o3_ne_ro_bs) (ninS o3_ne_bs_bf nin0))
  replace A_be := A_be.keep K9q (ninS (Ne.symm o3_ne_ro_be) (ninS o3_ne_be_bf nin0))
  have Z9 := Nat.le_trans Z8 K9q.1
  have F_text_ro := o9_F_text_ro
  have F_starts_ro := o9_F_starts_ro
  have F_ends_ro := o9_F_ends_ro
  have F_firstFields_ro := o9_F_firstFields_ro
  have F_lines_ro := o9_F_lines_ro
  have F_faults_ro := o9_F_faults_ro
  have F_textUsed_ro := o9_F_textUsed_ro
  have F_fields_ro := o9_F_fields_ro
  have F_records_ro := o9_F_records_ro
  have A_bf := o9_A_bf
  refine Go.step (fun t k => st9.trans k) ?_
  show Go _ _ _ _ _ _ _ (T9.setTop (mkF m 77 #[.val (.int pa), .val (.int pb), .val (.int l0), .val (.int l1), .val (.int pc_), .val (.int va), .val (.int vb), .val (.ref xs), .val (.ref ro)] []))
  refine Go.step (fun t k => XS.aload X9.here hx rfl (hb hby at_77) rfl rfl k) ?_
  show Go _ _ _ _ _ _ _ (T9.setTop (mkF m 79 #[.val (.int pa), .val (.int pb), .val (.int l0), .val (.int l1), .val (.int pc_), .val (.int va), .val (.int vb), .val (.ref xs), .val (.ref ro)] [(.ref ro)]))
  refine Go.step (fun t k => XS.iconst X9.here hx rfl (hb hby at_79) k) ?_
  show Go _ _ _ _ _ _ _ (T9.setTop (mkF m 80 #[.val (.int pa), .val (.int pb), .val (.int l0), .val (.int l1), .val (.int pc_), .val (.int va), .val (.int vb), .val (.ref xs), .val (.ref ro)] [(.int (0 : Int32)), (.ref ro)]))
  obtain ⟨cq10, kq10, q10a, q10b, q10c⟩ := isOf hZ rfl E_ro
  obtain ⟨_, _, ⟨T10, L10, k10, n10⟩, -, X10, ⟨Lc10, hQ10, l10, y10, z10⟩, st10⟩ := X9.virtualBack hx (y := (⟨"com/example/vestwright/vestwright/io/Records", "width", "(I)I"⟩ : MethodName)) (z := (⟨"com/example/vestwright/vestwright/io/Records", "width", "(I)I"⟩ : MethodName)) hown (mvT hZ (hw _ (List.mem_of_getElem? (i := 68) rfl))) (mvT hZ (hw _ (List.mem_of_getElem? (i := 69) rfl))) (notFace_of_selects (args := #[]) (mvT hZ (hw _ (List.mem_of_getElem? (i := 71) rfl)))) (mvT hZ (hw _ (List.mem_of_getElem? (i := 71) rfl))) (mvT hZ (hw _ (List.mem_of_getElem? (i := 70) rfl))) (by decide) (backOf (W := 0) (rm10 l Z a0 hw [] ro (0 : Int32) bf (up (up (up (up (fun _ => (0 : Int32)) 0 (0 : Int32)) 1 fv1) 1 fv1) 2 fv3) 0 T9.heap n0 Z9 F_firstFields_ro A_bf rfl (by decide)) hZ (hw _ (List.mem_of_getElem? (i := 72) rfl)) (hw _ (List.mem_of_getElem? (i := 29) rfl)) (by decide) (by decide)) q10a q10c (g := (mkF m 80 #[.val (.int pa), .val (.int pb), .val (.int l0), .val (.int l1), .val (.int pc_), .val (.int va), .val (.int vb), .val (.ref xs), .val (.ref ro)] [(.int (0 : Int32)), (.ref ro)])) rfl (by rw [hml]; rfl) (Steps.refl _) (argsL := [(.int (0 : Int32))]) (rest := []) (lenOf pd_0_4 rfl) rfl (by show 2 * 0 + _ ≤ _; exact Nat.le_of_eq rfl) (hb hby at_80) (fun _ _ => ⟨rfl, rfl, (by decide : 9 + 0 ≤ _), (by decide : 4816 + 0 ≤ _)⟩)
  dsimp only [Pt.U, Pt.locs, Pt.cells, Pt.slots] at X10 l10 y10 z10 st10 hQ10
  subst l10 y10 z10
  obtain ⟨rfl, N10q, K10q⟩ := hQ10
  have N10 := Fr.app N9 N10q
  refine Go.step (fun t k => st10.trans k) ?_
  show Go _ _ _ _ _ _ _ (T10.setTop (mkF m 83 #[.val (.int pa), .val (.int pb), .val (.int l0), .val (.int l1), .val (.int pc_), .val (.int va), .val (.int vb), .val (.ref xs), .val (.ref ro)] [(.int (fv1 - (0 : Int32)))]))
  refine Go.step (fun t k => XS.iload X10.here hx rfl (hb hby at_83) rfl k) ?_
  show Go _ _ _ _ _ _ _ (T10.setTop (mkF m 85 #[.val (.int pa), .val (.int pb), .val (.int l0), .val (.int l1), .val (.int pc_), .val (.int va), .val (.int vb), .val (.ref xs), .val (.ref ro)] [(.int va), (.int (fv1 - (0 : Int32)))]))
  refine Go.step (fun t k => XS.icmpNo X10.here hx rfl (hb hby at_85) rfl (teq (own_w rfl o5_hf2 (own_m3 hva) : (fv1 - (0 : Int32)) = va)).2 k) ?_
  show Go _ _ _ _ _ _ _ (T10.setTop (mkF m 88 #[.val (.int pa), .val (.int pb), .val (.int l0), .val (.int l1), .val (.int pc_), .val (.int va), .val (.int vb), .val (.ref xs), .val (.ref ro)] []))
  refine Go.step (fun t k => XS.aload X10.here hx rfl (hb hby at_88) rfl rfl k) ?_
  show Go _ _ _ _ _ _ _ (T10.setTop (mkF m 90 #[.val (.int pa), .val (.int pb), .val (.int l0), .val (.int l1), .val (.int pc_), .val (.int va), .val (.int vb), .val (.ref xs), .val (.ref ro)] [(.ref ro)]))
  refine Go.step (fun t k => XS.iconst X10.here hx rfl (hb hby at_90) k) ?_
  show Go _ _ _ _ _ _ _ (T10.setTop (mkF m 91 #[.val (.int pa), .val (.int pb), .val (.int l0), .val (.int l1), .val (.int pc_), .val (.int va), .val (.int vb), .val (.ref xs), .val (.ref ro)] [(.int (1 : Int32)), (.ref ro)]))
  obtain ⟨cq11, kq11, q11a, q11b, q11c⟩ := isOf hZ K10q E_ro
  obtain ⟨_, _, ⟨T11, L11, k11, n11⟩, -, X11, ⟨Lc11, hQ11, l11, y11, z11⟩, st11⟩ := X10.virtualBack hx (y := (⟨"com/example/vestwright/vestwright/io/Records", "width", "(I)I"⟩ : MethodName)) (z := (⟨"com/example/vestwright/vestwright/io/Records", "width", "(I)I"⟩ : MethodName)) hown (mvT hZ (hw _ (List.mem_of_getElem? (i := 68) rfl))) (mvT hZ (hw _ (List.mem_of_getElem? (i := 69) rfl))) (notFace_of_selects (args := #[]) (mvT hZ (hw _ (List.mem_of_getElem? (i := 71) rfl)))) (mvT hZ (hw _ (List.mem_of_getElem? (i := 71) rfl))) (mvT hZ (hw _ (List.mem_of_getElem? (i := 70) rfl))) (by decide) (backOf (W := 0) (rm10 l Z a0 hw [] ro (1 : Int32) bf (up (up (up (up (fun _ => (0 : Int32)) 0 (0 : Int32)) 1 fv1) 1 fv1) 2 fv3) 1 T9.heap n0 Z9 F_firstFields_ro A_bf rfl (by decide)) hZ (hw _ (List.mem_of_getElem? (i := 72) rfl)) (hw _ (List.mem_of_getElem? (i := 29) rfl)) (by decide) (by decide)) q11a q11c (g := (mkF m 91 #[.val (.int pa), .val (.int pb), .val (.int l0), .val (.int l1), .val (.int pc_), .val (.int va), .val (.int vb), .val (.ref xs), .val (.ref ro)] [(.int (1 : Int32)), (.ref ro)])) rfl (by rw [hml]; rfl) (Steps.refl _) (argsL := [(.int (1 : Int32))]) (rest := []) (lenOf pd_0_4 rfl) rfl (by show 2 * 0 + _ ≤ _; exact Nat.le_of_eq rfl) (hb hby at_91) (fun _ _ => ⟨rfl, K10q, (by decide : 9 + 0 ≤ _), (by decide : 4816 + 0 ≤ _)⟩)
  dsimp only [Pt.U, Pt.locs, Pt.cells, Pt.slots] at X11 l11 y11 z11 st11 hQ11
  subst l11 y11 z11
  obtain ⟨rfl, N11q, K11q⟩ := hQ11
  have N11 := Fr.app N10 N11q
  refine Go.step (fun t k => st11.trans k) ?_
  show Go _ _ _ _ _ _ _ (T11.setTop (mkF m 94 #[.val (.int pa), .val (.int pb), .val (.int l0), .val (.int l1), .val (.int pc_), .val (.int va), .val (.int vb), .val (.ref xs), .val (.ref ro)] [(.int (fv3 - fv1))]))
  refine Go.step (fun t k => XS.iload X11.here hx rfl (hb hby at_94) rfl k) ?_
  show Go _ _ _ _ _ _ _ (T11.setTop (mkF m 96 #[.val (.int pa), .val (.int pb), .val (.int l0), .val (.int l1), .val (.int pc_), .val (.int va), .val (.int vb), .val (.ref xs), .val (.ref ro)] [(.int vb), (.int (fv3 - fv1))]))
  refine Go.step (fun t k => XS.icmpNo X11.here hx rfl (hb hby at_96) rfl (teq (own_w rfl o8_hf2 (own_m3 hvb) : (fv3 - fv1) = vb)).2 k) ?_
  show Go _ _ _ _ _ _ _ (T11.setTop (mkF m 99 #[.val (.int pa), .val (.int pb), .val (.int l0), .val (.int l1), .val (.int pc_), .val (.int va), .val (.int vb), .val (.ref xs), .val (.ref ro)] []))
  refine Go.step (fun t k => XS.iconst X11.here hx rfl (hb hby at_99) k) ?_
  show Go _ _ _ _ _ _ _ (T11.setTop (mkF m 100 #[.val (.int pa), .val (.int pb), .val (.int l0), .val (.int l1), .val (.int pc_), .val (.int va), .val (.int vb), .val (.ref xs), .val (.ref ro)] [(.int (1 : Int32))]))
  refine Go.step (fun t k => XS.goto X11.here hx rfl (pc0 := 100) (pc' := 104) rfl (hb hby at_100) (by decide) (by decide) k) ?_
  show Go _ _ _ _ _ _ _ (T11.setTop (mkF m 104 #[.val (.int pa), .val (.int pb), .val (.int l0), .val (.int l1), .val (.int pc_), .val (.int va), .val (.int vb), .val (.ref xs), .val (.ref ro)] [(.int (1 : Int32))]))
  refine Go.retN X11 Bd.notSynchronized hx (t := .boolean) Bd.returns (by simp) (hb hby at_104) (by decide) (by decide) (1 : Int32) rfl ?_
  rw [K11q]
  exact ⟨rfl, N11⟩
set_option maxRecDepth 65536 in
set_option maxHeartbeats 40000000 in
theorem comes_1 {Post : Tables → Env → Array Value → State → Outcome → State → Prop} (hpost : ∀ tb e args s v u, (limb_1_1.after args s (.returned v) u = true ∧ limb_1_2.after args s (.returned v) u = true ∧ True) → FrameEnd s (.returned v) u (Jvm.fieldLocs frame_1_writes args s ++ Jvm.arrayLocs frame_1_arrays args s ++ Jvm.staticLocs frame_1_statics s) 32 9728 → Post tb e args s (.returned v) u) :
    ArmFor flags0 classFile x code maxLocals ret World_1 tables_1 room_1 Calls_1 rest_1 Pre_1 Post := by
  intro l hfl _ _ p e ha hc hk s m args below hf hA hF happ hP
  obtain ⟨hcalls, hrest, hpre⟩ := hP
  obtain ⟨-, -, -, hnamed, -, -, -, hat⟩ := (Spec.applies_iff hf).mp happ
  obtain ⟨hg, hn⟩ := and_e (Cond.before_iff.mp (show (Jvm.Cond.and given_1 narrow_1).before args s = true from hpre))
  obtain ⟨gv1, gv2⟩ := and_e hg
  obtain ⟨gv3, gv4⟩ := and_e gv2
  obtain ⟨gv5, gv6⟩ := and_e gv4
  obtain ⟨gv7, gv8⟩ := and_e gv6
  obtain ⟨gv9, gv10⟩ := and_e gv8
  obtain ⟨w0, w1, w2, w3, w4, rfl⟩ : ∃ w0 w1 w2 w3 w4 : Value, args = #[w0, w1, w2, w3, w4] := by
    have hs : args.size = 5 := by simpa [Cond.value, given_1] using gv1
    obtain ⟨L⟩ := args
    match L, hs with
    | [w0, w1, w2, w3, w4], _ => exact ⟨w0, w1, w2, w3, w4, rfl⟩
  have hw := fun d (hd : d ∈ tables_1) => atoms_spec (ws := Jvm.Cond.code x code maxLocals ret :: tables_1) hat d (List.mem_cons_of_mem _ hd)
  have hfit : Fit s := fun {y c} hc i hi => by
    obtain ⟨ha, rfl⟩ := Array.getElem?_eq_some_iff.mp hc
    have q := List.all_eq_true.mp ((Array.all_eq_true_iff_forall_mem.mp hF) _ (Array.getElem_mem ha)) i (List.mem_range.mpr hi)
    simpa [Array.getElem?_eq_getElem hi] using q
  obtain ⟨hsets, hown0⟩ := atoms_of _ (rest_1_c_eq ▸ (show rest_1_c.before _ s = true from hrest))
  have hr0 := Cond.before_iff.mp hown0
  obtain ⟨i0, ei0⟩ := is_v gv3
  obtain rfl : w0 = (.int i0) := Option.some.inj ei0
  obtain ⟨i1, ei1⟩ := is_v gv5
  obtain rfl : w1 = (.int i1) := Option.some.inj ei1
  obtain ⟨i2, ei2⟩ := is_v gv7
  obtain rfl : w2 = (.int i2) := Option.some.inj ei2
  obtain ⟨i3, ei3⟩ := is_v gv9
  obtain rfl : w3 = (.int i3) := Option.some.inj ei3
  obtain ⟨i4, ei4⟩ := is_v gv10
  obtain rfl : w4 = (.int i4) := Option.some.inj ei4
  obtain ⟨cs, evc⟩ := is_v (Cond.before_iff.mp (hsets _ (List.mem_of_getElem? (i := 1) rfl)))
  have hcs : Sta s s.heap "java/lang/String" "COMPACT_STRINGS" "Z" (.int cs) := Sta.start evc (Or.inl (hsets _ (List.mem_of_getElem? (i := 0) rfl)))
  have hc0 : ¬ cs = (0 : Int32) := own_cs evc (Cond.before_iff.mp (hsets _ (List.mem_of_getElem? (i := 2) rfl)))
  obtain ⟨fm, evf, hfr⟩ := isR_v (Cond.before_iff.mp (hsets _ (List.mem_of_getElem? (i := 8) rfl)))
  have hfs : Sta s s.heap "jdk/internal/util/Preconditions" "SIOOBE_FORMATTER" "Ljava/util/function/BiFunction;" fm := Sta.start evf (Or.inl (hsets _ (List.mem_of_getElem? (i := 7) rfl)))
  obtain ⟨n, o, h1, h2, h3, _, L, rfl, ⟨rfl, N⟩, hq⟩ := rm0 l s _ hw tables_1 i0 i1 i2 i3 i4 cs fm s.heap s.heap.size (Nat.le_refl _) (Old.start s) hcs hc0 hfs hfr p e ha hc hk s m _ below hf ((Spec.applies_iff_loose hf).mp happ).1 ⟨rfl, State.Warmed39.refl s, rfl⟩ trivial
  refine ⟨n, _, h1, h2, h3, hpost _ _ _ _ _ _ ⟨Cond.after_iff.mpr rfl, Cond.after_iff.mpr (eq_i res_at (Term.int_eval (1)) rfl), trivial⟩ ⟨hq.1, hq.2.1, (hq.2.2.sift fun y hy => Or.inr (N y hy)).mono (by decide) (by decide)⟩⟩
theorem main_1_1 : Claimed_1_1 := comes_1 fun _ _ _ _ _ _ h hF => ⟨h.1, hF⟩
theorem main_1_2 : Claimed_1_2 := comes_1 fun _ _ _ _ _ _ h hF => ⟨h.2.1, hF⟩
end Jvm.Pilot.@@N@@
namespace Jvm.Pilot.@@N@@
open Jvm Jvm.ClassFile Sem Op Lib Jvm.Free Jvm.Stand Jvm.Pilot.@@N@@.Jvm.D
/-! MADE BY PROGRAM (witnessworld.py) out of the Statement's table words and the real class files: 24 classes; the members and pool entries that the words name. The judged class is class 1, her method 2. -/
namespace start1
open Jvm.ClassFile
def u (s : String) : CpInfo := .utf8 (stringToUtf16 s)
/-- a pool by its gaps: so many unusable entries, then the entry; so many at the end -/
def gap : Nat → List CpInfo → List CpInfo
  | 0, r => r
  | n + 1, r => .unusable :: gap n r
def poolList (es : List (Nat × CpInfo)) (last : Nat) : List CpInfo := es.foldr (fun e r => gap e.1 (e.2 :: r)) (gap last [])
def pool (es : List (Nat × CpInfo)) (last : Nat) : Array CpInfo := ⟨poolList es last⟩
def fileOf (pool : Array CpInfo) (this : Nat) (attrs : Array Attribute := #[]) (ms : Array MethodInfo := #[]) (fl : Nat := 33) (sup : Nat := 0) (ifs : Array Nat := #[]) (fds : Array FieldInfo := #[]) : ClassFile where
  minorVersion := 0
  majorVersion := 65
  constantPool := pool
  accessFlags := fl
  thisClass := this
  superClass := sup
  interfaces := ifs
  fields := fds
  methods := ms
  attributes := attrs
def plain (name : String) (sup : Option ClassId) : Class where
  name := name
  kind := .ordinary
  loader := none
  accessFlags := 33
  super := sup
  interfaces := #[]
  cf := none
  fields := #[]
  methods := #[]
  instanceTypes := #[]
  staticTypes := #[]
  resolved := #[]
  callSites := []
  init := .initialized
  statics := none
  mirror := none

def pool0 : Array CpInfo := pool [(5, u "<init>"), (0, u "()V"), (1, .class_ 10), (1, u "java/lang/Object")] 113

def k0c0 : Code := { maxStack := 0, maxLocals := 1, code := object_method_1_code, exceptionTable := #[], attributes := #[] }
def k0m0 : Method := { name := "<init>", desc := "()V", sig := { parameters := [], returnType := none }, accessFlags := 1, code := some k0c0 }
/-- java/lang/Object -/
def k0 : Class := { plain "java/lang/Object" none with
  accessFlags := 33
  interfaces := #[]
  cf := some (fileOf pool0 8 #[] #[{ accessFlags := 1, nameIndex := 5, descriptorIndex := 6, attributes := #[] }] 33 0 #[] #[])
  fields := #[]
  methods := #[k0m0]
  instanceTypes := #[]
  staticTypes := #[]
  resolved := Array.replicate 124 none
  statics := none }

def pool1 : Array CpInfo := pool [(2, .class_ 4), (0, .nameAndType 5 6), (0, u "java/lang/Object"), (0, u "<init>"), (0, u "()V"), (0, .methodref 8 9), (0, .class_ 10), (0, .nameAndType 11 12), (0, u "com/example/vestwright/vestwright/io/Records"), (0, u "addField"), (0, u "(Ljava/lang/CharSequence;)V"), (0, .integer 2147483647), (0, .methodref 15 16), (0, .class_ 17), (0, .nameAndType 18 19), (0, u "java/lang/String"), (0, u "valueOf"), (0, u "(C)Ljava/lang/String;"), (0, .methodref 8 3), (0, .methodref 8 22), (0, .nameAndType 23 24), (0, u "startRecord"), (0, u "(I)V"), (0, .methodref 26 27), (0, .class_ 28), (0, .nameAndType 29 30), (0, u "com/example/vestwright/vestwright/io/RecordsWidthPinLaw"), (0, u "addFields"), (0, u "(Lcom/example/vestwright/vestwright/io/Records;ILjava/lang/String;)V"), (0, .methodref 8 32), (0, .nameAndType 33 6), (0, u "endRecord"), (0, .methodref 8 35), (0, .nameAndType 36 37), (0, u "width"), (0, u "(I)I"), (3, u "law"), (0, u "(IIIII)Z")] 2

def k1m0 : Method := { name := "<init>", desc := "()V", sig := { parameters := [], returnType := none }, accessFlags := 1, code := none }
def k1c1 : Code := { maxStack := 2, maxLocals := 3, code := method_2_code, exceptionTable := #[], attributes := #[] }
def k1m1 : Method := { name := "addFields", desc := "(Lcom/example/vestwright/vestwright/io/Records;ILjava/lang/String;)V", sig := { parameters := [(.object "com/example/vestwright/vestwright/io/Records"), .int, (.object "java/lang/String")], returnType := none }, accessFlags := 10, code := some k1c1 }
def k1c2 : Code := { maxStack := 3, maxLocals := 9, code := code, exceptionTable := #[], attributes := #[] }
def k1m2 : Method := { name := "law", desc := "(IIIII)Z", sig := { parameters := [.int, .int, .int, .int, .int], returnType := some .boolean }, accessFlags := 9, code := some k1c2 }
/-- com/example/vestwright/vestwright/io/RecordsWidthPinLaw -/
def k1 : Class := { plain "com/example/vestwright/vestwright/io/RecordsWidthPinLaw" (some 0) with
  accessFlags := 49
  interfaces := #[]
  cf := some (fileOf pool1 26 #[] #[{ accessFlags := 1, nameIndex := 5, descriptorIndex := 6, attributes := #[] }, { accessFlags := 10, nameIndex := 29, descriptorIndex := 30, attributes := #[] }, { accessFlags := 9, nameIndex := 41, descriptorIndex := 42, attributes := #[] }] 49 2 #[] #[])
  fields := #[]
  methods := #[k1m0, k1m1, k1m2]
  instanceTypes := #[]
  staticTypes := #[]
  resolved := Array.replicate 45 none
  statics := none }

def pool2 : Array CpInfo := pool [(1, .class_ 2), (0, u "java/io/Serializable"), (0, .class_ 4), (0, u "java/lang/Object")] 2

/-- java/io/Serializable -/
def k2 : Class := { plain "java/io/Serializable" (some 0) with
  accessFlags := 1537
  interfaces := #[]
  cf := some (fileOf pool2 1 #[] #[] 1537 3 #[] #[])
  fields := #[]
  methods := #[]
  instanceTypes := #[]
  staticTypes := #[]
  resolved := Array.replicate 7 none
  statics := none }

def pool3 : Array CpInfo := pool [(1, .class_ 2), (0, u "java/lang/Comparable"), (0, .class_ 4), (0, u "java/lang/Object")] 7

/-- java/lang/Comparable -/
def k3 : Class := { plain "java/lang/Comparable" (some 0) with
  accessFlags := 1537
  interfaces := #[]
  cf := some (fileOf pool3 1 #[] #[] 1537 3 #[] #[])
  fields := #[]
  methods := #[]
  instanceTypes := #[]
  staticTypes := #[]
  resolved := Array.replicate 12 none
  statics := none }

def pool4 : Array CpInfo := pool [(2, .class_ 4), (1, u "java/lang/CharSequence"), (0, u "length"), (0, u "()I"), (38, u "charAt"), (0, u "(I)C"), (0, .class_ 48), (0, u "java/lang/CharSequence$1CodePointIterator"), (10, .class_ 60), (0, u "java/lang/CharSequence$1CharIterator"), (5, .class_ 67), (0, u "java/lang/Object")] 63

def k4m0 : Method := { name := "length", desc := "()I", sig := { parameters := [], returnType := some .int }, accessFlags := 1025, code := none }
def k4m1 : Method := { name := "charAt", desc := "(I)C", sig := { parameters := [.int], returnType := some .char }, accessFlags := 1025, code := none }
/-- java/lang/CharSequence -/
def k4 : Class := { plain "java/lang/CharSequence" (some 0) with
  accessFlags := 1537
  interfaces := #[]
  cf := some (fileOf pool4 2 #[.nestMembers #[47, 59]] #[{ accessFlags := 1025, nameIndex := 5, descriptorIndex := 6, attributes := #[] }, { accessFlags := 1025, nameIndex := 45, descriptorIndex := 46, attributes := #[] }] 1537 66 #[] #[])
  fields := #[]
  methods := #[k4m0, k4m1]
  instanceTypes := #[]
  staticTypes := #[]
  resolved := Array.replicate 131 none
  statics := none }

def pool5 : Array CpInfo := pool [(1, .class_ 2), (0, u "java/lang/constant/Constable"), (0, .class_ 4), (0, u "java/lang/Object")] 6

/-- java/lang/constant/Constable -/
def k5 : Class := { plain "java/lang/constant/Constable" (some 0) with
  accessFlags := 1537
  interfaces := #[]
  cf := some (fileOf pool5 1 #[] #[] 1537 3 #[] #[])
  fields := #[]
  methods := #[]
  instanceTypes := #[]
  staticTypes := #[]
  resolved := Array.replicate 11 none
  statics := none }

def pool6 : Array CpInfo := pool [(1, .class_ 2), (0, u "java/lang/constant/ConstantDesc"), (0, .class_ 4), (0, u "java/lang/Object")] 32

/-- java/lang/constant/ConstantDesc -/
def k6 : Class := { plain "java/lang/constant/ConstantDesc" (some 0) with
  accessFlags := 1537
  interfaces := #[]
  cf := some (fileOf pool6 1 #[] #[] 1537 3 #[] #[])
  fields := #[]
  methods := #[]
  instanceTypes := #[]
  staticTypes := #[]
  resolved := Array.replicate 37 none
  statics := none }

def pool7 : Array CpInfo := pool [(1, .methodref 2 3), (0, .class_ 4), (0, .nameAndType 5 6), (0, u "java/lang/Object"), (0, u "<init>"), (0, u "()V"), (2, .fieldref 10 11), (0, .class_ 12), (0, .nameAndType 13 14), (0, u "java/lang/String"), (0, u "value"), (0, u "[B"), (0, .fieldref 10 16), (0, .nameAndType 17 18), (0, u "coder"), (0, u "B"), (2, u "hash"), (0, u "I"), (2, u "hashIsZero"), (0, u "Z"), (11, .fieldref 10 39), (0, .nameAndType 40 26), (0, u "COMPACT_STRINGS"), (12, u "toBytes"), (53, .class_ 109), (1, u "java/lang/StringLatin1"), (32, u "()Z"), (66, .methodref 10 210), (0, .nameAndType 5 211), (0, u "([BB)V"), (122, u "()I"), (0, .methodref 10 336), (0, .nameAndType 17 337), (0, u "()B"), (25, u "([BI)C"), (5, u "(C)Z"), (21, u "(II)V"), (35, u "(I)C"), (64, .methodref 10 493), (0, .nameAndType 494 142), (0, u "isLatin1"), (0, .methodref 107 496), (0, .nameAndType 497 363), (0, u "charAt"), (3, u "checkIndex"), (5, u "length"), (67, .class_ 576), (0, u "java/lang/CharSequence"), (22, u "CASE_INSENSITIVE_ORDER"), (0, u "Ljava/util/Comparator;"), (181, u "valueOf"), (0, u "(C)Ljava/lang/String;"), (231, .methodref 107 1016), (0, .nameAndType 1017 369), (0, u "canEncode"), (0, .methodref 107 1019), (0, .nameAndType 53 1020), (0, u "(C)[B"), (32, .fieldref 1054 1055), (0, .class_ 1056), (0, .nameAndType 1057 1058), (0, u "jdk/internal/util/Preconditions"), (0, u "SIOOBE_FORMATTER"), (0, u "Ljava/util/function/BiFunction;"), (0, .methodref 1054 1060), (0, .nameAndType 501 1061), (0, u "(IILjava/util/function/BiFunction;)I"), (39, u "serialPersistentFields"), (0, u "[Ljava/io/ObjectStreamField;"), (0, .class_ 1104), (0, u "java/lang/String$CaseInsensitiveComparator"), (1, .class_ 1107), (0, u "java/io/Serializable"), (0, .class_ 1109), (0, u "java/lang/Comparable"), (0, .class_ 1111), (0, u "java/lang/constant/Constable"), (0, .class_ 1113), (0, u "java/lang/constant/ConstantDesc"), (2, u "serialVersionUID"), (0, u "J"), (3, u "REPL"), (0, u "C"), (2, u "LATIN1"), (1, u "UTF16")] 323

def k7m0 : Method := { name := "<init>", desc := "()V", sig := { parameters := [], returnType := none }, accessFlags := 1, code := none }
def k7c1 : Code := { maxStack := 2, maxLocals := 1, code := jdk_42_method_54_code, exceptionTable := #[], attributes := #[] }
def k7m1 : Method := { name := "length", desc := "()I", sig := { parameters := [], returnType := some .int }, accessFlags := 1, code := some k7c1 }
def k7c2 : Code := { maxStack := 2, maxLocals := 2, code := jdk_42_method_56_code, exceptionTable := #[], attributes := #[] }
def k7m2 : Method := { name := "charAt", desc := "(I)C", sig := { parameters := [.int], returnType := some .char }, accessFlags := 1, code := some k7c2 }
def k7c3 : Code := { maxStack := 4, maxLocals := 1, code := jdk_42_method_139_code, exceptionTable := #[], attributes := #[] }
def k7m3 : Method := { name := "valueOf", desc := "(C)Ljava/lang/String;", sig := { parameters := [.char], returnType := some (.object "java/lang/String") }, accessFlags := 9, code := some k7c3 }
def k7c4 : Code := { maxStack := 2, maxLocals := 3, code := jdk_42_method_151_code, exceptionTable := #[], attributes := #[] }
def k7m4 : Method := { name := "<init>", desc := "([BB)V", sig := { parameters := [(.array .byte), .byte], returnType := none }, accessFlags := 0, code := some k7c4 }
def k7c5 : Code := { maxStack := 1, maxLocals := 1, code := jdk_42_method_152_code, exceptionTable := #[], attributes := #[] }
def k7m5 : Method := { name := "coder", desc := "()B", sig := { parameters := [], returnType := some .byte }, accessFlags := 0, code := some k7c5 }
def k7c6 : Code := { maxStack := 1, maxLocals := 1, code := jdk_42_method_154_code, exceptionTable := #[], attributes := #[] }
def k7m6 : Method := { name := "isLatin1", desc := "()Z", sig := { parameters := [], returnType := some .boolean }, accessFlags := 0, code := some k7c6 }
def k7c7 : Code := { maxStack := 3, maxLocals := 2, code := jdk_42_method_155_code, exceptionTable := #[], attributes := #[] }
def k7m7 : Method := { name := "checkIndex", desc := "(II)V", sig := { parameters := [.int, .int], returnType := none }, accessFlags := 8, code := some k7c7 }
/-- java/lang/String -/
def k7 : Class := { plain "java/lang/String" (some 0) with
  accessFlags := 49
  interfaces := #[2, 3, 4, 5, 6]
  cf := some (fileOf pool7 10 #[.nestMembers #[1103]] #[{ accessFlags := 1, nameIndex := 5, descriptorIndex := 6, attributes := #[] }, { accessFlags := 1, nameIndex := 507, descriptorIndex := 334, attributes := #[] }, { accessFlags := 1, nameIndex := 497, descriptorIndex := 427, attributes := #[] }, { accessFlags := 9, nameIndex := 782, descriptorIndex := 783, attributes := #[] }, { accessFlags := 0, nameIndex := 5, descriptorIndex := 211, attributes := #[] }, { accessFlags := 0, nameIndex := 17, descriptorIndex := 337, attributes := #[] }, { accessFlags := 0, nameIndex := 494, descriptorIndex := 142, attributes := #[] }, { accessFlags := 8, nameIndex := 501, descriptorIndex := 391, attributes := #[] }] 49 2 #[1106, 1108, 575, 1110, 1112] #[{ accessFlags := 18, nameIndex := 13, descriptorIndex := 14, attributes := #[] }, { accessFlags := 18, nameIndex := 17, descriptorIndex := 18, attributes := #[] }, { accessFlags := 2, nameIndex := 21, descriptorIndex := 22, attributes := #[] }, { accessFlags := 2, nameIndex := 25, descriptorIndex := 26, attributes := #[] }, { accessFlags := 26, nameIndex := 1116, descriptorIndex := 1117, attributes := #[] }, { accessFlags := 24, nameIndex := 40, descriptorIndex := 26, attributes := #[] }, { accessFlags := 26, nameIndex := 1101, descriptorIndex := 1102, attributes := #[] }, { accessFlags := 26, nameIndex := 1121, descriptorIndex := 1122, attributes := #[] }, { accessFlags := 25, nameIndex := 599, descriptorIndex := 600, attributes := #[] }, { accessFlags := 24, nameIndex := 1125, descriptorIndex := 18, attributes := #[] }, { accessFlags := 24, nameIndex := 1127, descriptorIndex := 18, attributes := #[] }])
  fields := #[{ name := "value", type := (.array .byte), accessFlags := 18, slot := 0, constantValue := 0 }, { name := "coder", type := .byte, accessFlags := 18, slot := 1, constantValue := 0 }, { name := "hash", type := .int, accessFlags := 2, slot := 2, constantValue := 0 }, { name := "hashIsZero", type := .boolean, accessFlags := 2, slot := 3, constantValue := 0 }, { name := "serialVersionUID", type := .long, accessFlags := 26, slot := 0, constantValue := 0 }, { name := "COMPACT_STRINGS", type := .boolean, accessFlags := 24, slot := 1, constantValue := 0 }, { name := "serialPersistentFields", type := (.array (.object "java/io/ObjectStreamField")), accessFlags := 26, slot := 2, constantValue := 0 }, { name := "REPL", type := .char, accessFlags := 26, slot := 3, constantValue := 0 }, { name := "CASE_INSENSITIVE_ORDER", type := (.object "java/util/Comparator"), accessFlags := 25, slot := 4, constantValue := 0 }, { name := "LATIN1", type := .byte, accessFlags := 24, slot := 5, constantValue := 0 }, { name := "UTF16", type := .byte, accessFlags := 24, slot := 6, constantValue := 0 }]
  methods := #[k7m0, k7m1, k7m2, k7m3, k7m4, k7m5, k7m6, k7m7]
  instanceTypes := #[(.array .byte), .byte, .int, .boolean]
  staticTypes := #[.long, .boolean, (.array (.object "java/io/ObjectStreamField")), .char, (.object "java/util/Comparator"), .byte, .byte]
  resolved := Array.replicate 1451 none
  statics := some 0 }

def pool8 : Array CpInfo := pool [(1, .class_ 2), (0, u "java/lang/String"), (1, .class_ 6), (1, u "java/lang/Object"), (0, u "<init>"), (0, u "()V"), (0, .methodref 1 10), (0, .nameAndType 11 12), (0, u "checkIndex"), (0, u "(II)V"), (1, .class_ 16), (1, u "java/lang/StringLatin1"), (36, u "([BI)C"), (36, u "canEncode"), (14, u "(C)Z"), (15, u "$assertionsDisabled"), (0, u "Z"), (98, .class_ 223), (1, u "java/lang/StringLatin1$LinesSpliterator"), (28, u "charAt"), (127, u "toBytes"), (1, u "(C)[B"), (7, .class_ 391), (0, u "java/lang/StringLatin1$CharsSpliterator")] 3

def k8m0 : Method := { name := "<init>", desc := "()V", sig := { parameters := [], returnType := none }, accessFlags := 0, code := none }
def k8c1 : Code := { maxStack := 2, maxLocals := 2, code := jdk_43_method_2_code, exceptionTable := #[], attributes := #[] }
def k8m1 : Method := { name := "charAt", desc := "([BI)C", sig := { parameters := [(.array .byte), .int], returnType := some .char }, accessFlags := 9, code := some k8c1 }
def k8c2 : Code := { maxStack := 2, maxLocals := 1, code := jdk_43_method_3_code, exceptionTable := #[], attributes := #[] }
def k8m2 : Method := { name := "canEncode", desc := "(C)Z", sig := { parameters := [.char], returnType := some .boolean }, accessFlags := 9, code := some k8c2 }
def k8c3 : Code := { maxStack := 4, maxLocals := 1, code := jdk_43_method_46_code, exceptionTable := #[], attributes := #[] }
def k8m3 : Method := { name := "toBytes", desc := "(C)[B", sig := { parameters := [.char], returnType := some (.array .byte) }, accessFlags := 9, code := some k8c3 }
/-- java/lang/StringLatin1 -/
def k8 : Class := { plain "java/lang/StringLatin1" (some 0) with
  accessFlags := 48
  interfaces := #[]
  cf := some (fileOf pool8 14 #[.nestMembers #[390, 221]] #[{ accessFlags := 0, nameIndex := 7, descriptorIndex := 8, attributes := #[] }, { accessFlags := 9, nameIndex := 252, descriptorIndex := 53, attributes := #[] }, { accessFlags := 9, nameIndex := 90, descriptorIndex := 105, attributes := #[] }, { accessFlags := 9, nameIndex := 380, descriptorIndex := 382, attributes := #[] }] 48 4 #[] #[{ accessFlags := 4120, nameIndex := 121, descriptorIndex := 122, attributes := #[] }])
  fields := #[{ name := "$assertionsDisabled", type := .boolean, accessFlags := 4120, slot := 0, constantValue := 0 }]
  methods := #[k8m0, k8m1, k8m2, k8m3]
  instanceTypes := #[]
  staticTypes := #[.boolean]
  resolved := Array.replicate 395 none
  statics := none }

def pool9 : Array CpInfo := pool [(1, .methodref 2 3), (0, .class_ 4), (0, .nameAndType 5 6), (0, u "java/lang/Object"), (0, u "<init>"), (0, u "()V"), (0, .fieldref 8 9), (0, .class_ 10), (0, .nameAndType 11 12), (0, u "com/example/vestwright/vestwright/io/Records"), (0, u "text"), (0, u "[C"), (0, .fieldref 8 14), (0, .nameAndType 15 16), (0, u "starts"), (0, u "[I"), (0, .fieldref 8 18), (0, .nameAndType 19 16), (0, u "ends"), (0, .fieldref 8 21), (0, .nameAndType 22 16), (0, u "firstFields"), (0, .fieldref 8 24), (0, .nameAndType 25 16), (0, u "lines"), (0, .class_ 27), (0, u "com/example/vestwright/vestwright/io/CsvFormatException"), (0, .fieldref 8 29), (0, .nameAndType 30 31), (0, u "faults"), (0, u "[Lcom/example/vestwright/vestwright/io/CsvFormatException;"), (0, .fieldref 8 33), (0, .nameAndType 34 35), (0, u "textUsed"), (0, u "I"), (0, .fieldref 8 37), (0, .nameAndType 38 35), (0, u "fields"), (0, .fieldref 8 40), (0, .nameAndType 41 35), (0, u "records"), (2, u "failure"), (0, u "Ljava/lang/Throwable;"), (2, u "ended"), (0, u "Z"), (17, u "()I"), (2, u "endRecord"), (0, .methodref 8 72), (0, .nameAndType 73 74), (0, u "reserve"), (0, u "(I)I"), (6, .interfaceMethodref 82 83), (0, .class_ 84), (0, .nameAndType 85 67), (0, u "java/lang/CharSequence"), (0, u "length"), (0, .interfaceMethodref 82 87), (0, .nameAndType 88 89), (0, u "charAt"), (0, u "(I)C"), (20, .class_ 111), (0, u "com/example/vestwright/vestwright/io/Records$Span"), (6, u "startRecord"), (0, u "(I)V"), (6, u "addField"), (0, u "(Ljava/lang/CharSequence;)V"), (4, u "width")] 12

def k9c0 : Code := { maxStack := 2, maxLocals := 1, code := prog_63_method_1_code, exceptionTable := #[], attributes := #[] }
def k9m0 : Method := { name := "<init>", desc := "()V", sig := { parameters := [], returnType := none }, accessFlags := 0, code := some k9c0 }
def k9c1 : Code := { maxStack := 4, maxLocals := 2, code := prog_63_method_3_code, exceptionTable := #[], attributes := #[] }
def k9m1 : Method := { name := "startRecord", desc := "(I)V", sig := { parameters := [.int], returnType := none }, accessFlags := 0, code := some k9c1 }
def k9c2 : Code := { maxStack := 3, maxLocals := 1, code := prog_63_method_4_code, exceptionTable := #[], attributes := #[] }
def k9m2 : Method := { name := "endRecord", desc := "()V", sig := { parameters := [], returnType := none }, accessFlags := 0, code := some k9c2 }
def k9c3 : Code := { maxStack := 4, maxLocals := 4, code := prog_63_method_10_code, exceptionTable := #[], attributes := #[] }
def k9m3 : Method := { name := "addField", desc := "(Ljava/lang/CharSequence;)V", sig := { parameters := [(.object "java/lang/CharSequence")], returnType := none }, accessFlags := 0, code := some k9c3 }
def k9c4 : Code := { maxStack := 5, maxLocals := 3, code := prog_63_method_11_code, exceptionTable := #[], attributes := #[] }
def k9m4 : Method := { name := "reserve", desc := "(I)I", sig := { parameters := [.int], returnType := some .int }, accessFlags := 2, code := some k9c4 }
def k9c5 : Code := { maxStack := 3, maxLocals := 2, code := prog_63_method_16_code, exceptionTable := #[], attributes := #[] }
def k9m5 : Method := { name := "width", desc := "(I)I", sig := { parameters := [.int], returnType := some .int }, accessFlags := 0, code := some k9c5 }
/-- com/example/vestwright/vestwright/io/Records -/
def k9 : Class := { plain "com/example/vestwright/vestwright/io/Records" (some 0) with
  accessFlags := 48
  interfaces := #[]
  cf := some (fileOf pool9 8 #[.nestMembers #[110]] #[{ accessFlags := 0, nameIndex := 5, descriptorIndex := 6, attributes := #[] }, { accessFlags := 0, nameIndex := 118, descriptorIndex := 119, attributes := #[] }, { accessFlags := 0, nameIndex := 70, descriptorIndex := 6, attributes := #[] }, { accessFlags := 0, nameIndex := 126, descriptorIndex := 127, attributes := #[] }, { accessFlags := 2, nameIndex := 73, descriptorIndex := 74, attributes := #[] }, { accessFlags := 0, nameIndex := 132, descriptorIndex := 74, attributes := #[] }] 48 2 #[] #[{ accessFlags := 2, nameIndex := 11, descriptorIndex := 12, attributes := #[] }, { accessFlags := 2, nameIndex := 34, descriptorIndex := 35, attributes := #[] }, { accessFlags := 2, nameIndex := 15, descriptorIndex := 16, attributes := #[] }, { accessFlags := 2, nameIndex := 19, descriptorIndex := 16, attributes := #[] }, { accessFlags := 2, nameIndex := 38, descriptorIndex := 35, attributes := #[] }, { accessFlags := 2, nameIndex := 22, descriptorIndex := 16, attributes := #[] }, { accessFlags := 2, nameIndex := 25, descriptorIndex := 16, attributes := #[] }, { accessFlags := 2, nameIndex := 30, descriptorIndex := 31, attributes := #[] }, { accessFlags := 2, nameIndex := 41, descriptorIndex := 35, attributes := #[] }, { accessFlags := 2, nameIndex := 44, descriptorIndex := 45, attributes := #[] }, { accessFlags := 2, nameIndex := 48, descriptorIndex := 49, attributes := #[] }])
  fields := #[{ name := "text", type := (.array .char), accessFlags := 2, slot := 0, constantValue := 0 }, { name := "textUsed", type := .int, accessFlags := 2, slot := 1, constantValue := 0 }, { name := "starts", type := (.array .int), accessFlags := 2, slot := 2, constantValue := 0 }, { name := "ends", type := (.array .int), accessFlags := 2, slot := 3, constantValue := 0 }, { name := "fields", type := .int, accessFlags := 2, slot := 4, constantValue := 0 }, { name := "firstFields", type := (.array .int), accessFlags := 2, slot := 5, constantValue := 0 }, { name := "lines", type := (.array .int), accessFlags := 2, slot := 6, constantValue := 0 }, { name := "faults", type := (.array (.object "com/example/vestwright/vestwright/io/CsvFormatException")), accessFlags := 2, slot := 7, constantValue := 0 }, { name := "records", type := .int, accessFlags := 2, slot := 8, constantValue := 0 }, { name := "failure", type := (.object "java/lang/Throwable"), accessFlags := 2, slot := 9, constantValue := 0 }, { name := "ended", type := .boolean, accessFlags := 2, slot := 10, constantValue := 0 }]
  methods := #[k9m0, k9m1, k9m2, k9m3, k9m4, k9m5]
  instanceTypes := #[(.array .char), .int, (.array .int), (.array .int), .int, (.array .int), (.array .int), (.array (.object "com/example/vestwright/vestwright/io/CsvFormatException")), .int, (.object "java/lang/Throwable"), .boolean]
  staticTypes := #[]
  resolved := Array.replicate 145 none
  statics := none }

def pool10 : Array CpInfo := pool [(2, .class_ 4), (1, u "java/lang/Object"), (0, u "<init>"), (0, u "()V"), (1, .class_ 10), (1, u "java/lang/Throwable"), (0, u "cause"), (0, u "Ljava/lang/Throwable;"), (2, u "UNASSIGNED_STACK"), (0, u "[Ljava/lang/StackTraceElement;"), (2, u "stackTrace"), (2, u "SUPPRESSED_SENTINEL"), (0, u "Ljava/util/List;"), (2, u "suppressedExceptions"), (6, u "detailMessage"), (0, u "Ljava/lang/String;"), (58, .class_ 94), (0, u "java/lang/Throwable$WrappedPrintStream"), (6, .class_ 103), (1, u "java/lang/Throwable$PrintStreamOrWriter"), (61, u "$assertionsDisabled"), (0, u "Z"), (26, .class_ 194), (0, u "java/lang/Throwable$WrappedPrintWriter"), (5, u "backtrace"), (0, u "Ljava/lang/Object;"), (9, u "depth"), (0, u "I"), (56, .class_ 271), (1, u "java/lang/Throwable$SentinelHolder"), (32, u "EMPTY_THROWABLE_ARRAY"), (0, u "[Ljava/lang/Throwable;"), (12, .class_ 319), (0, u "java/io/Serializable"), (0, u "serialVersionUID"), (0, u "J"), (5, u "NULL_CAUSE_MESSAGE"), (0, u "SELF_SUPPRESSION_MESSAGE"), (0, u "CAUSE_CAPTION"), (0, u "SUPPRESSED_CAPTION")] 73

def k10m0 : Method := { name := "<init>", desc := "()V", sig := { parameters := [], returnType := none }, accessFlags := 1, code := none }
/-- java/lang/Throwable -/
def k10 : Class := { plain "java/lang/Throwable" (some 0) with
  accessFlags := 33
  interfaces := #[2]
  cf := some (fileOf pool10 8 #[.nestMembers #[193, 93, 101, 269]] #[{ accessFlags := 1, nameIndex := 5, descriptorIndex := 6, attributes := #[] }] 33 2 #[318] #[{ accessFlags := 26, nameIndex := 320, descriptorIndex := 321, attributes := #[] }, { accessFlags := 130, nameIndex := 200, descriptorIndex := 201, attributes := #[] }, { accessFlags := 2, nameIndex := 33, descriptorIndex := 34, attributes := #[] }, { accessFlags := 26, nameIndex := 15, descriptorIndex := 16, attributes := #[] }, { accessFlags := 2, nameIndex := 11, descriptorIndex := 12, attributes := #[] }, { accessFlags := 2, nameIndex := 19, descriptorIndex := 16, attributes := #[] }, { accessFlags := 130, nameIndex := 211, descriptorIndex := 212, attributes := #[] }, { accessFlags := 26, nameIndex := 22, descriptorIndex := 23, attributes := #[] }, { accessFlags := 2, nameIndex := 26, descriptorIndex := 23, attributes := #[] }, { accessFlags := 26, nameIndex := 327, descriptorIndex := 34, attributes := #[] }, { accessFlags := 26, nameIndex := 328, descriptorIndex := 34, attributes := #[] }, { accessFlags := 26, nameIndex := 329, descriptorIndex := 34, attributes := #[] }, { accessFlags := 26, nameIndex := 330, descriptorIndex := 34, attributes := #[] }, { accessFlags := 26, nameIndex := 304, descriptorIndex := 305, attributes := #[] }, { accessFlags := 4120, nameIndex := 165, descriptorIndex := 166, attributes := #[] }])
  fields := #[{ name := "serialVersionUID", type := .long, accessFlags := 26, slot := 0, constantValue := 0 }, { name := "backtrace", type := (.object "java/lang/Object"), accessFlags := 130, slot := 0, constantValue := 0 }, { name := "detailMessage", type := (.object "java/lang/String"), accessFlags := 2, slot := 1, constantValue := 0 }, { name := "UNASSIGNED_STACK", type := (.array (.object "java/lang/StackTraceElement")), accessFlags := 26, slot := 1, constantValue := 0 }, { name := "cause", type := (.object "java/lang/Throwable"), accessFlags := 2, slot := 2, constantValue := 0 }, { name := "stackTrace", type := (.array (.object "java/lang/StackTraceElement")), accessFlags := 2, slot := 3, constantValue := 0 }, { name := "depth", type := .int, accessFlags := 130, slot := 4, constantValue := 0 }, { name := "SUPPRESSED_SENTINEL", type := (.object "java/util/List"), accessFlags := 26, slot := 2, constantValue := 0 }, { name := "suppressedExceptions", type := (.object "java/util/List"), accessFlags := 2, slot := 5, constantValue := 0 }, { name := "NULL_CAUSE_MESSAGE", type := (.object "java/lang/String"), accessFlags := 26, slot := 3, constantValue := 0 }, { name := "SELF_SUPPRESSION_MESSAGE", type := (.object "java/lang/String"), accessFlags := 26, slot := 4, constantValue := 0 }, { name := "CAUSE_CAPTION", type := (.object "java/lang/String"), accessFlags := 26, slot := 5, constantValue := 0 }, { name := "SUPPRESSED_CAPTION", type := (.object "java/lang/String"), accessFlags := 26, slot := 6, constantValue := 0 }, { name := "EMPTY_THROWABLE_ARRAY", type := (.array (.object "java/lang/Throwable")), accessFlags := 26, slot := 7, constantValue := 0 }, { name := "$assertionsDisabled", type := .boolean, accessFlags := 4120, slot := 8, constantValue := 0 }]
  methods := #[k10m0]
  instanceTypes := #[(.object "java/lang/Object"), (.object "java/lang/String"), (.object "java/lang/Throwable"), (.array (.object "java/lang/StackTraceElement")), .int, (.object "java/util/List")]
  staticTypes := #[.long, (.array (.object "java/lang/StackTraceElement")), (.object "java/util/List"), (.object "java/lang/String"), (.object "java/lang/String"), (.object "java/lang/String"), (.object "java/lang/String"), (.array (.object "java/lang/Throwable")), .boolean]
  resolved := Array.replicate 404 none
  statics := none }

def pool11 : Array CpInfo := pool [(2, .class_ 4), (1, u "java/lang/Throwable"), (0, u "<init>"), (0, u "()V"), (12, .class_ 20), (0, u "java/lang/Exception"), (0, u "serialVersionUID"), (0, u "J")] 17

def k11m0 : Method := { name := "<init>", desc := "()V", sig := { parameters := [], returnType := none }, accessFlags := 1, code := none }
/-- java/lang/Exception -/
def k11 : Class := { plain "java/lang/Exception" (some 10) with
  accessFlags := 33
  interfaces := #[]
  cf := some (fileOf pool11 19 #[] #[{ accessFlags := 1, nameIndex := 5, descriptorIndex := 6, attributes := #[] }] 33 2 #[] #[{ accessFlags := 24, nameIndex := 21, descriptorIndex := 22, attributes := #[] }])
  fields := #[{ name := "serialVersionUID", type := .long, accessFlags := 24, slot := 0, constantValue := 0 }]
  methods := #[k11m0]
  instanceTypes := #[(.object "java/lang/Object"), (.object "java/lang/String"), (.object "java/lang/Throwable"), (.array (.object "java/lang/StackTraceElement")), .int, (.object "java/util/List")]
  staticTypes := #[.long]
  resolved := Array.replicate 40 none
  statics := none }

def pool12 : Array CpInfo := pool [(2, .class_ 4), (1, u "java/lang/Exception"), (0, u "<init>"), (0, u "()V"), (9, .class_ 17), (0, u "java/io/IOException"), (0, u "serialVersionUID"), (0, u "J")] 14

def k12m0 : Method := { name := "<init>", desc := "()V", sig := { parameters := [], returnType := none }, accessFlags := 1, code := none }
/-- java/io/IOException -/
def k12 : Class := { plain "java/io/IOException" (some 11) with
  accessFlags := 33
  interfaces := #[]
  cf := some (fileOf pool12 16 #[] #[{ accessFlags := 1, nameIndex := 5, descriptorIndex := 6, attributes := #[] }] 33 2 #[] #[{ accessFlags := 24, nameIndex := 18, descriptorIndex := 19, attributes := #[] }])
  fields := #[{ name := "serialVersionUID", type := .long, accessFlags := 24, slot := 0, constantValue := 0 }]
  methods := #[k12m0]
  instanceTypes := #[(.object "java/lang/Object"), (.object "java/lang/String"), (.object "java/lang/Throwable"), (.array (.object "java/lang/StackTraceElement")), .int, (.object "java/util/List")]
  staticTypes := #[.long]
  resolved := Array.replicate 34 none
  statics := none }

def pool13 : Array CpInfo := pool [(2, .class_ 4), (1, u "java/io/IOException"), (3, .class_ 10), (1, u "com/example/vestwright/vestwright/io/CsvFormatException"), (0, u "line"), (0, u "I"), (2, u "field"), (0, u "serialVersionUID"), (0, u "J")] 9

/-- com/example/vestwright/vestwright/io/CsvFormatException -/
def k13 : Class := { plain "com/example/vestwright/vestwright/io/CsvFormatException" (some 12) with
  accessFlags := 49
  interfaces := #[]
  cf := some (fileOf pool13 8 #[] #[] 49 2 #[] #[{ accessFlags := 26, nameIndex := 16, descriptorIndex := 17, attributes := #[] }, { accessFlags := 18, nameIndex := 11, descriptorIndex := 12, attributes := #[] }, { accessFlags := 18, nameIndex := 15, descriptorIndex := 12, attributes := #[] }])
  fields := #[{ name := "serialVersionUID", type := .long, accessFlags := 26, slot := 0, constantValue := 0 }, { name := "line", type := .int, accessFlags := 18, slot := 6, constantValue := 0 }, { name := "field", type := .int, accessFlags := 18, slot := 7, constantValue := 0 }]
  methods := #[]
  instanceTypes := #[(.object "java/lang/Object"), (.object "java/lang/String"), (.object "java/lang/Throwable"), (.array (.object "java/lang/StackTraceElement")), .int, (.object "java/util/List"), .int, .int]
  staticTypes := #[.long]
  resolved := Array.replicate 27 none
  statics := none }

def pool14 : Array CpInfo := pool [(2, .class_ 4), (1, u "java/lang/Object"), (0, u "<init>"), (0, u "()V"), (17, .class_ 26), (1, u "jdk/internal/util/Preconditions"), (6, u "checkIndex"), (21, .class_ 56), (0, u "jdk/internal/util/Preconditions$4"), (57, .class_ 115), (0, u "jdk/internal/util/Preconditions$1"), (7, u "SIOOBE_FORMATTER"), (0, u "Ljava/util/function/BiFunction;"), (0, .class_ 126), (0, u "jdk/internal/util/Preconditions$2"), (3, u "AIOOBE_FORMATTER"), (0, .class_ 132), (0, u "jdk/internal/util/Preconditions$3"), (3, u "IOOBE_FORMATTER"), (41, u "(IILjava/util/function/BiFunction;)I")] 15

def k14m0 : Method := { name := "<init>", desc := "()V", sig := { parameters := [], returnType := none }, accessFlags := 1, code := none }
def k14c1 : Code := { maxStack := 3, maxLocals := 3, code := jdk_41_method_11_code, exceptionTable := #[], attributes := #[] }
def k14m1 : Method := { name := "checkIndex", desc := "(IILjava/util/function/BiFunction;)I", sig := { parameters := [.int, .int, (.object "java/util/function/BiFunction")], returnType := some .int }, accessFlags := 9, code := some k14c1 }
/-- jdk/internal/util/Preconditions -/
def k14 : Class := { plain "jdk/internal/util/Preconditions" (some 0) with
  accessFlags := 33
  interfaces := #[]
  cf := some (fileOf pool14 24 #[.nestMembers #[55, 131, 125, 114]] #[{ accessFlags := 1, nameIndex := 5, descriptorIndex := 6, attributes := #[] }, { accessFlags := 9, nameIndex := 33, descriptorIndex := 178, attributes := #[] }] 33 2 #[] #[{ accessFlags := 25, nameIndex := 123, descriptorIndex := 124, attributes := #[] }, { accessFlags := 25, nameIndex := 130, descriptorIndex := 124, attributes := #[] }, { accessFlags := 25, nameIndex := 136, descriptorIndex := 124, attributes := #[] }])
  fields := #[{ name := "SIOOBE_FORMATTER", type := (.object "java/util/function/BiFunction"), accessFlags := 25, slot := 0, constantValue := 0 }, { name := "AIOOBE_FORMATTER", type := (.object "java/util/function/BiFunction"), accessFlags := 25, slot := 1, constantValue := 0 }, { name := "IOOBE_FORMATTER", type := (.object "java/util/function/BiFunction"), accessFlags := 25, slot := 2, constantValue := 0 }]
  methods := #[k14m0, k14m1]
  instanceTypes := #[]
  staticTypes := #[(.object "java/util/function/BiFunction"), (.object "java/util/function/BiFunction"), (.object "java/util/function/BiFunction")]
  resolved := Array.replicate 194 none
  statics := some 1 }

def pool15 : Array CpInfo := pool [(9, u "<init>"), (6, .class_ 18), (1, u "java/lang/Object"), (0, u "()V"), (1, .class_ 23), (1, u "jdk/internal/util/ArraysSupport"), (0, u "LOG2_ARRAY_LONG_INDEX_SCALE"), (0, u "I"), (2, u "U"), (0, u "Ljdk/internal/misc/Unsafe;"), (8, u "BIG_ENDIAN"), (0, u "Z"), (8, u "LOG2_BYTE_BIT_SIZE"), (4, u "LOG2_ARRAY_INT_INDEX_SCALE"), (54, u "JLA"), (0, u "Ljdk/internal/access/JavaLangAccess;"), (11, u "LOG2_ARRAY_BOOLEAN_INDEX_SCALE"), (9, u "LOG2_ARRAY_BYTE_INDEX_SCALE"), (5, u "LOG2_ARRAY_CHAR_INDEX_SCALE"), (5, u "LOG2_ARRAY_SHORT_INDEX_SCALE"), (18, u "LOG2_ARRAY_FLOAT_INDEX_SCALE"), (24, u "LOG2_ARRAY_DOUBLE_INDEX_SCALE"), (89, u "T_BOOLEAN"), (2, u "T_CHAR"), (1, u "T_FLOAT"), (1, u "T_DOUBLE"), (1, u "T_BYTE"), (1, u "T_SHORT"), (1, u "T_INT"), (1, u "T_LONG"), (1, u "SOFT_MAX_ARRAY_LENGTH")] 83

def k15m0 : Method := { name := "<init>", desc := "()V", sig := { parameters := [], returnType := none }, accessFlags := 2, code := none }
/-- jdk/internal/util/ArraysSupport -/
def k15 : Class := { plain "jdk/internal/util/ArraysSupport" (some 0) with
  accessFlags := 33
  interfaces := #[]
  cf := some (fileOf pool15 21 #[] #[{ accessFlags := 2, nameIndex := 9, descriptorIndex := 19, attributes := #[] }] 33 16 #[] #[{ accessFlags := 24, nameIndex := 28, descriptorIndex := 29, attributes := #[] }, { accessFlags := 26, nameIndex := 38, descriptorIndex := 39, attributes := #[] }, { accessFlags := 25, nameIndex := 121, descriptorIndex := 25, attributes := #[] }, { accessFlags := 25, nameIndex := 131, descriptorIndex := 25, attributes := #[] }, { accessFlags := 25, nameIndex := 137, descriptorIndex := 25, attributes := #[] }, { accessFlags := 25, nameIndex := 143, descriptorIndex := 25, attributes := #[] }, { accessFlags := 25, nameIndex := 53, descriptorIndex := 25, attributes := #[] }, { accessFlags := 25, nameIndex := 24, descriptorIndex := 25, attributes := #[] }, { accessFlags := 25, nameIndex := 162, descriptorIndex := 25, attributes := #[] }, { accessFlags := 25, nameIndex := 187, descriptorIndex := 25, attributes := #[] }, { accessFlags := 26, nameIndex := 48, descriptorIndex := 25, attributes := #[] }, { accessFlags := 25, nameIndex := 277, descriptorIndex := 25, attributes := #[] }, { accessFlags := 25, nameIndex := 280, descriptorIndex := 25, attributes := #[] }, { accessFlags := 25, nameIndex := 282, descriptorIndex := 25, attributes := #[] }, { accessFlags := 25, nameIndex := 284, descriptorIndex := 25, attributes := #[] }, { accessFlags := 25, nameIndex := 286, descriptorIndex := 25, attributes := #[] }, { accessFlags := 25, nameIndex := 288, descriptorIndex := 25, attributes := #[] }, { accessFlags := 25, nameIndex := 290, descriptorIndex := 25, attributes := #[] }, { accessFlags := 25, nameIndex := 292, descriptorIndex := 25, attributes := #[] }, { accessFlags := 26, nameIndex := 108, descriptorIndex := 109, attributes := #[] }, { accessFlags := 25, nameIndex := 294, descriptorIndex := 25, attributes := #[] }])
  fields := #[{ name := "U", type := (.object "jdk/internal/misc/Unsafe"), accessFlags := 24, slot := 0, constantValue := 0 }, { name := "BIG_ENDIAN", type := .boolean, accessFlags := 26, slot := 1, constantValue := 0 }, { name := "LOG2_ARRAY_BOOLEAN_INDEX_SCALE", type := .int, accessFlags := 25, slot := 2, constantValue := 0 }, { name := "LOG2_ARRAY_BYTE_INDEX_SCALE", type := .int, accessFlags := 25, slot := 3, constantValue := 0 }, { name := "LOG2_ARRAY_CHAR_INDEX_SCALE", type := .int, accessFlags := 25, slot := 4, constantValue := 0 }, { name := "LOG2_ARRAY_SHORT_INDEX_SCALE", type := .int, accessFlags := 25, slot := 5, constantValue := 0 }, { name := "LOG2_ARRAY_INT_INDEX_SCALE", type := .int, accessFlags := 25, slot := 6, constantValue := 0 }, { name := "LOG2_ARRAY_LONG_INDEX_SCALE", type := .int, accessFlags := 25, slot := 7, constantValue := 0 }, { name := "LOG2_ARRAY_FLOAT_INDEX_SCALE", type := .int, accessFlags := 25, slot := 8, constantValue := 0 }, { name := "LOG2_ARRAY_DOUBLE_INDEX_SCALE", type := .int, accessFlags := 25, slot := 9, constantValue := 0 }, { name := "LOG2_BYTE_BIT_SIZE", type := .int, accessFlags := 26, slot := 10, constantValue := 0 }, { name := "T_BOOLEAN", type := .int, accessFlags := 25, slot := 11, constantValue := 0 }, { name := "T_CHAR", type := .int, accessFlags := 25, slot := 12, constantValue := 0 }, { name := "T_FLOAT", type := .int, accessFlags := 25, slot := 13, constantValue := 0 }, { name := "T_DOUBLE", type := .int, accessFlags := 25, slot := 14, constantValue := 0 }, { name := "T_BYTE", type := .int, accessFlags := 25, slot := 15, constantValue := 0 }, { name := "T_SHORT", type := .int, accessFlags := 25, slot := 16, constantValue := 0 }, { name := "T_INT", type := .int, accessFlags := 25, slot := 17, constantValue := 0 }, { name := "T_LONG", type := .int, accessFlags := 25, slot := 18, constantValue := 0 }, { name := "JLA", type := (.object "jdk/internal/access/JavaLangAccess"), accessFlags := 26, slot := 19, constantValue := 0 }, { name := "SOFT_MAX_ARRAY_LENGTH", type := .int, accessFlags := 25, slot := 20, constantValue := 0 }]
  methods := #[k15m0]
  instanceTypes := #[]
  staticTypes := #[(.object "jdk/internal/misc/Unsafe"), .boolean, .int, .int, .int, .int, .int, .int, .int, .int, .int, .int, .int, .int, .int, .int, .int, .int, .int, (.object "jdk/internal/access/JavaLangAccess"), .int]
  resolved := Array.replicate 378 none
  statics := none }

def pool16 : Array CpInfo := pool [(1, u "java/lang/Cloneable"), (0, .class_ 1), (0, u "java/lang/Object"), (0, .class_ 3)] 3

/-- java/lang/Cloneable -/
def k16 : Class := { plain "java/lang/Cloneable" (some 0) with
  accessFlags := 1537
  interfaces := #[]
  cf := some (fileOf pool16 2 #[] #[] 1537 4 #[] #[])
  fields := #[]
  methods := #[]
  instanceTypes := #[]
  staticTypes := #[]
  resolved := Array.replicate 8 none
  statics := none }

/-- the primitive byte -/
def k17 : Class := { plain "byte" none with kind := .primitive 'B', accessFlags := 0x411 }
/-- [B -/
def k18 : Class := { plain "[B" (some 0) with kind := .array 17 .byte, interfaces := #[16, 2], accessFlags := 1041 }

/-- the primitive char -/
def k19 : Class := { plain "char" none with kind := .primitive 'C', accessFlags := 0x411 }
/-- [C -/
def k20 : Class := { plain "[C" (some 0) with kind := .array 19 .char, interfaces := #[16, 2], accessFlags := 1041 }

/-- the primitive int -/
def k21 : Class := { plain "int" none with kind := .primitive 'I', accessFlags := 0x411 }
/-- [I -/
def k22 : Class := { plain "[I" (some 0) with kind := .array 21 .int, interfaces := #[16, 2], accessFlags := 1041 }

/-- [Lcom/example/vestwright/vestwright/io/CsvFormatException; -/
def k23 : Class := { plain "[Lcom/example/vestwright/vestwright/io/CsvFormatException;" (some 0) with kind := .array 13 (.object "com/example/vestwright/vestwright/io/CsvFormatException"), interfaces := #[16, 2], accessFlags := 1041 }

def heap : Heap := #[{ cls := 7, slots := #[.long 0, .int 1, .null, .int 0, .null, .int 0, .int 0], vm := .statics 7 },
  { cls := 14, slots := #[.null, .null, .null], vm := .statics 14 }]
def classes : Array Class := #[k0, k1, k2, k3, k4, k5, k6, k7, k8, k9, k10, k11, k12, k13, k14, k15, k16, k17, k18, k19, k20, k21, k22, k23]
def interned : List (Array UInt16 × Addr) := []
def slotsUsed : Nat := 10
def theMethod : MethodId := ⟨1, 2⟩
def args0 : Array Value := #[.int 5, .int 7, .int 8, .int 9, .int 65]
def aboutOver (below : List Frame) : State where
  vm := { classes := classes, interned := interned.toArray }
  heap := heap
  slotsUsed := slotsUsed
  threads := #[{ frames := .invoking theMethod args0 :: below }]
def below0 : List Frame := [.native { method := ⟨0, 0⟩, args := #[] }]
def about1 : State := aboutOver below0
def p0 : Program := .bare "" "" ""
def e0 : Env := launch0.env 0 0 0
theorem w_frames : about1.frames = Frame.invoking theMethod args0 :: below0 := rfl
set_option maxRecDepth 65536 in
theorem w_args : argsFit about1.vm theMethod args0 = true := by decide +kernel
set_option maxRecDepth 65536 in
theorem w_heap : heapFits about1 = true := by decide +kernel
set_option maxRecDepth 65536 in
theorem w_runnable : about1.curStatus? = some .runnable := by decide +kernel
set_option maxRecDepth 65536 in
theorem w_alone : about1.alone = true := by decide +kernel
set_option maxRecDepth 65536 in
theorem w_named : about1.methodNamed? x = some theMethod := by decide +kernel
set_option maxRecDepth 65536 in
theorem w_hears : about1.hears theMethod below0 = true := by decide +kernel
set_option maxRecDepth 65536 in
theorem w_ripe : about1.ripe theMethod args0 below0 = true := by decide +kernel
theorem w_running : about1.status = .running := rfl
set_option maxRecDepth 65536 in
theorem w_room : about1.hasRoom e0.platform room_1 = true :=
  launch0.hasRoom_least _ room_1 (by decide +kernel) (by decide +kernel) (by decide +kernel) (by decide +kernel) (by decide +kernel) (by decide +kernel)
theorem allAtoms_all (ts : List Jvm.Cond) (a : Array Jvm.Value) (st : Jvm.State) : (allAtoms ts).before a st = ts.all (fun c => c.before a st) := by
  induction ts with
  | nil => rfl
  | cons c t ih =>
    show (Jvm.Cond.and c (allAtoms t)).before a st = _
    rw [Jvm.Cond.before_and, ih, List.all_cons]
def words1 : List Jvm.Cond := Jvm.Cond.code x code maxLocals ret :: tables_1
/-- a 'code' word, met by the world's own term for the bytes: nothing is compared byte by byte -/
theorem code_word {y : MethodName} {bytes : ByteArray} {mx : Nat} {rt : Option FieldType} {a : Array Value} {s : State} {m : MethodId} {meth : Method} {c : Code} (h1 : s.methodNamed? y = some m) (h2 : s.vm.method? m = some meth) (h3 : meth.code = some c) (h4 : c.code = bytes)
    (h5 : (c.maxLocals == mx && c.exceptionTable.isEmpty && decide (c.maxStack ≤ mostOperands) && decide (meth.sig.returnType = rt) && !meth.locks && decide (parseMethodDescriptor y.desc = some meth.sig)) = true) : (Jvm.Cond.code y bytes mx rt).before a s = true := by
  simp only [Bool.and_eq_true, beq_iff_eq, Bool.not_eq_true', decide_eq_true_eq] at h5
  obtain ⟨⟨⟨⟨⟨g1, g2⟩, g3⟩, g4⟩, g5⟩, g6⟩ := h5
  simp [Cond.before, Cond.holds, Cond.value, h1, h2, h3, h4, g1, g2, g3, g4, g5, g6]
def isCode : Jvm.Cond → Bool
  | .code _ _ _ _ => true
  | _ => false
theorem all_split {L : List Jvm.Cond} {P : Jvm.Cond → Bool} (h1 : L.all (fun c => isCode c || P c) = true) (h2 : ∀ c ∈ L.filter isCode, P c = true) : L.all P = true := by
  refine List.all_eq_true.mpr fun c hc => ?_
  have h := List.all_eq_true.mp h1 c hc
  rcases Bool.eq_false_or_eq_true (isCode c) with hi | hi
  · exact h2 c (List.mem_filter.mpr ⟨hc, hi⟩)
  · simpa [hi] using h
set_option maxRecDepth 65536 in
theorem w_c0 : (Jvm.Cond.code x code maxLocals ret).before args0 about1 = true := code_word (m := ⟨1, 2⟩) (meth := k1m2) (c := k1c2) (by decide +kernel) rfl rfl rfl (by decide +kernel)
set_option maxRecDepth 65536 in
theorem w_c1 : (Jvm.Cond.code ({ cls := "java/lang/String", name := "valueOf", desc := "(C)Ljava/lang/String;" } : Jvm.MethodName) jdk_42_method_139_code (1 : Nat) (Option.some (Jvm.ClassFile.FieldType.object "java/lang/String"))).before args0 about1 = true := code_word (m := ⟨7, 3⟩) (meth := k7m3) (c := k7c3) (by decide +kernel) rfl rfl rfl (by decide +kernel)
set_option maxRecDepth 65536 in
theorem w_c2 : (Jvm.Cond.code ({ cls := "java/lang/StringLatin1", name := "canEncode", desc := "(C)Z" } : Jvm.MethodName) jdk_43_method_3_code (1 : Nat) (Option.some Jvm.ClassFile.FieldType.boolean)).before args0 about1 = true := code_word (m := ⟨8, 2⟩) (meth := k8m2) (c := k8c2) (by decide +kernel) rfl rfl rfl (by decide +kernel)
set_option maxRecDepth 65536 in
theorem w_c3 : (Jvm.Cond.code ({ cls := "java/lang/StringLatin1", name := "toBytes", desc := "(C)[B" } : Jvm.MethodName) jdk_43_method_46_code (1 : Nat) (Option.some (Jvm.ClassFile.FieldType.array Jvm.ClassFile.FieldType.byte))).before args0 about1 = true := code_word (m := ⟨8, 3⟩) (meth := k8m3) (c := k8c3) (by decide +kernel) rfl rfl rfl (by decide +kernel)
set_option maxRecDepth 65536 in
theorem w_c4 : (Jvm.Cond.code ({ cls := "java/lang/String", name := "<init>", desc := "([BB)V" } : Jvm.MethodName) jdk_42_method_151_code (3 : Nat) (Option.none : Option Jvm.ClassFile.FieldType)).before args0 about1 = true := code_word (m := ⟨7, 4⟩) (meth := k7m4) (c := k7c4) (by decide +kernel) rfl rfl rfl (by decide +kernel)
set_option maxRecDepth 65536 in
theorem w_c5 : (Jvm.Cond.code ({ cls := "java/lang/Object", name := "<init>", desc := "()V" } : Jvm.MethodName) object_method_1_code (1 : Nat) (Option.none : Option Jvm.ClassFile.FieldType)).before args0 about1 = true := code_word (m := ⟨0, 0⟩) (meth := k0m0) (c := k0c0) (by decide +kernel) rfl rfl rfl (by decide +kernel)
set_option maxRecDepth 65536 in
theorem w_c6 : (Jvm.Cond.code ({ cls := "com/example/vestwright/vestwright/io/Records", name := "<init>", desc := "()V" } : Jvm.MethodName) prog_63_method_1_code (1 : Nat) (Option.none : Option Jvm.ClassFile.FieldType)).before args0 about1 = true := code_word (m := ⟨9, 0⟩) (meth := k9m0) (c := k9c0) (by decide +kernel) rfl rfl rfl (by decide +kernel)
set_option maxRecDepth 65536 in
theorem w_c7 : (Jvm.Cond.code ({ cls := "com/example/vestwright/vestwright/io/Records", name := "startRecord", desc := "(I)V" } : Jvm.MethodName) prog_63_method_3_code (2 : Nat) (Option.none : Option Jvm.ClassFile.FieldType)).before args0 about1 = true := code_word (m := ⟨9, 1⟩) (meth := k9m1) (c := k9c1) (by decide +kernel) rfl rfl rfl (by decide +kernel)
set_option maxRecDepth 65536 in
theorem w_c8 : (Jvm.Cond.code ({ cls := "com/example/vestwright/vestwright/io/RecordsWidthPinLaw", name := "addFields", desc := "(Lcom/example/vestwright/vestwright/io/Records;ILjava/lang/String;)V" } : Jvm.MethodName) method_2_code (3 : Nat) (Option.none : Option Jvm.ClassFile.FieldType)).before args0 about1 = true := code_word (m := ⟨1, 1⟩) (meth := k1m1) (c := k1c1) (by decide +kernel) rfl rfl rfl (by decide +kernel)
set_option maxRecDepth 65536 in
theorem w_c9 : (Jvm.Cond.code ({ cls := "com/example/vestwright/vestwright/io/Records", name := "endRecord", desc := "()V" } : Jvm.MethodName) prog_63_method_4_code (1 : Nat) (Option.none : Option Jvm.ClassFile.FieldType)).before args0 about1 = true := code_word (m := ⟨9, 2⟩) (meth := k9m2) (c := k9c2) (by decide +kernel) rfl rfl rfl (by decide +kernel)
set_option maxRecDepth 65536 in
theorem w_c10 : (Jvm.Cond.code ({ cls := "com/example/vestwright/vestwright/io/Records", name := "width", desc := "(I)I" } : Jvm.MethodName) prog_63_method_16_code (2 : Nat) (Option.some Jvm.ClassFile.FieldType.int)).before args0 about1 = true := code_word (m := ⟨9, 5⟩) (meth := k9m5) (c := k9c5) (by decide +kernel) rfl rfl rfl (by decide +kernel)
set_option maxRecDepth 65536 in
theorem w_c11 : (Jvm.Cond.code ({ cls := "com/example/vestwright/vestwright/io/Records", name := "addField", desc := "(Ljava/lang/CharSequence;)V" } : Jvm.MethodName) prog_63_method_10_code (4 : Nat) (Option.none : Option Jvm.ClassFile.FieldType)).before args0 about1 = true := code_word (m := ⟨9, 3⟩) (meth := k9m3) (c := k9c3) (by decide +kernel) rfl rfl rfl (by decide +kernel)
set_option maxRecDepth 65536 in
theorem w_c12 : (Jvm.Cond.code ({ cls := "java/lang/String", name := "length", desc := "()I" } : Jvm.MethodName) jdk_42_method_54_code (1 : Nat) (Option.some Jvm.ClassFile.FieldType.int)).before args0 about1 = true := code_word (m := ⟨7, 1⟩) (meth := k7m1) (c := k7c1) (by decide +kernel) rfl rfl rfl (by decide +kernel)
set_option maxRecDepth 65536 in
theorem w_c13 : (Jvm.Cond.code ({ cls := "java/lang/String", name := "coder", desc := "()B" } : Jvm.MethodName) jdk_42_method_152_code (1 : Nat) (Option.some Jvm.ClassFile.FieldType.byte)).before args0 about1 = true := code_word (m := ⟨7, 5⟩) (meth := k7m5) (c := k7c5) (by decide +kernel) rfl rfl rfl (by decide +kernel)
set_option maxRecDepth 65536 in
theorem w_c14 : (Jvm.Cond.code ({ cls := "com/example/vestwright/vestwright/io/Records", name := "reserve", desc := "(I)I" } : Jvm.MethodName) prog_63_method_11_code (3 : Nat) (Option.some Jvm.ClassFile.FieldType.int)).before args0 about1 = true := code_word (m := ⟨9, 4⟩) (meth := k9m4) (c := k9c4) (by decide +kernel) rfl rfl rfl (by decide +kernel)
set_option maxRecDepth 65536 in
theorem w_c15 : (Jvm.Cond.code ({ cls := "java/lang/String", name := "charAt", desc := "(I)C" } : Jvm.MethodName) jdk_42_method_56_code (2 : Nat) (Option.some Jvm.ClassFile.FieldType.char)).before args0 about1 = true := code_word (m := ⟨7, 2⟩) (meth := k7m2) (c := k7c2) (by decide +kernel) rfl rfl rfl (by decide +kernel)
set_option maxRecDepth 65536 in
theorem w_c16 : (Jvm.Cond.code ({ cls := "java/lang/String", name := "isLatin1", desc := "()Z" } : Jvm.MethodName) jdk_42_method_154_code (1 : Nat) (Option.some Jvm.ClassFile.FieldType.boolean)).before args0 about1 = true := code_word (m := ⟨7, 6⟩) (meth := k7m6) (c := k7c6) (by decide +kernel) rfl rfl rfl (by decide +kernel)
set_option maxRecDepth 65536 in
theorem w_c17 : (Jvm.Cond.code ({ cls := "java/lang/StringLatin1", name := "charAt", desc := "([BI)C" } : Jvm.MethodName) jdk_43_method_2_code (2 : Nat) (Option.some Jvm.ClassFile.FieldType.char)).before args0 about1 = true := code_word (m := ⟨8, 1⟩) (meth := k8m1) (c := k8c1) (by decide +kernel) rfl rfl rfl (by decide +kernel)
set_option maxRecDepth 65536 in
theorem w_c18 : (Jvm.Cond.code ({ cls := "java/lang/String", name := "checkIndex", desc := "(II)V" } : Jvm.MethodName) jdk_42_method_155_code (2 : Nat) (Option.none : Option Jvm.ClassFile.FieldType)).before args0 about1 = true := code_word (m := ⟨7, 7⟩) (meth := k7m7) (c := k7c7) (by decide +kernel) rfl rfl rfl (by decide +kernel)
set_option maxRecDepth 65536 in
theorem w_c19 : (Jvm.Cond.code ({ cls := "jdk/internal/util/Preconditions", name := "checkIndex", desc := "(IILjava/util/function/BiFunction;)I" } : Jvm.MethodName) jdk_41_method_11_code (3 : Nat) (Option.some Jvm.ClassFile.FieldType.int)).before args0 about1 = true := code_word (m := ⟨14, 1⟩) (meth := k14m1) (c := k14c1) (by decide +kernel) rfl rfl rfl (by decide +kernel)
def codes1 : List Jvm.Cond := [Jvm.Cond.code x code maxLocals ret, Jvm.Cond.code ({ cls := "java/lang/String", name := "valueOf", desc := "(C)Ljava/lang/String;" } : Jvm.MethodName) jdk_42_method_139_code (1 : Nat) (Option.some (Jvm.ClassFile.FieldType.object "java/lang/String")), Jvm.Cond.code ({ cls := "java/lang/StringLatin1", name := "canEncode", desc := "(C)Z" } : Jvm.MethodName) jdk_43_method_3_code (1 : Nat) (Option.some Jvm.ClassFile.FieldType.boolean), Jvm.Cond.code ({ cls := "java/lang/StringLatin1", name := "toBytes", desc := "(C)[B" } : Jvm.MethodName) jdk_43_method_46_code (1 : Nat) (Option.some (Jvm.ClassFile.FieldType.array Jvm.ClassFile.FieldType.byte)), Jvm.Cond.code ({ cls := "java/lang/String", name := "<init>", desc := "([BB)V" } : Jvm.MethodName) jdk_42_method_151_code (3 : Nat) (Option.none : Option Jvm.ClassFile.FieldType), Jvm.Cond.code ({ cls := "java/lang/Object", name := "<init>", desc := "()V" } : Jvm.MethodName) object_method_1_code (1 : Nat) (Option.none : Option Jvm.ClassFile.FieldType), Jvm.Cond.code ({ cls := "com/example/vestwright/vestwright/io/Records", name := "<init>", desc := "()V" } : Jvm.MethodName) prog_63_method_1_code (1 : Nat) (Option.none : Option Jvm.ClassFile.FieldType), Jvm.Cond.code ({ cls := "com/example/vestwright/vestwright/io/Records", name := "startRecord", desc := "(I)V" } : Jvm.MethodName) prog_63_method_3_code (2 : Nat) (Option.none : Option Jvm.ClassFile.FieldType), Jvm.Cond.code ({ cls := "com/example/vestwright/vestwright/io/RecordsWidthPinLaw", name := "addFields", desc := "(Lcom/example/vestwright/vestwright/io/Records;ILjava/lang/String;)V" } : Jvm.MethodName) method_2_code (3 : Nat) (Option.none : Option Jvm.ClassFile.FieldType), Jvm.Cond.code ({ cls := "com/example/vestwright/vestwright/io/Records", name := "endRecord", desc := "()V" } : Jvm.MethodName) prog_63_method_4_code (1 : Nat) (Option.none : Option Jvm.ClassFile.FieldType), Jvm.Cond.code ({ cls := "com/example/vestwright/vestwright/io/Records", name := "width", desc := "(I)I" } : Jvm.MethodName) prog_63_method_16_code (2 : Nat) (Option.some Jvm.ClassFile.FieldType.int), Jvm.Cond.code ({ cls := "com/example/vestwright/vestwright/io/Records", name := "addField", desc := "(Ljava/lang/CharSequence;)V" } : Jvm.MethodName) prog_63_method_10_code (4 : Nat) (Option.none : Option Jvm.ClassFile.FieldType), Jvm.Cond.code ({ cls := "java/lang/String", name := "length", desc := "()I" } : Jvm.MethodName) jdk_42_method_54_code (1 : Nat) (Option.some Jvm.ClassFile.FieldType.int), Jvm.Cond.code ({ cls := "java/lang/String", name := "coder", desc := "()B" } : Jvm.MethodName) jdk_42_method_152_code (1 : Nat) (Option.some Jvm.ClassFile.FieldType.byte), Jvm.Cond.code ({ cls := "com/example/vestwright/vestwright/io/Records", name := "reserve", desc := "(I)I" } : Jvm.MethodName) prog_63_method_11_code (3 : Nat) (Option.some Jvm.ClassFile.FieldType.int), Jvm.Cond.code ({ cls := "java/lang/String", name := "charAt", desc := "(I)C" } : Jvm.MethodName) jdk_42_method_56_code (2 : Nat) (Option.some Jvm.ClassFile.FieldType.char), Jvm.Cond.code ({ cls := "java/lang/String", name := "isLatin1", desc := "()Z" } : Jvm.MethodName) jdk_42_method_154_code (1 : Nat) (Option.some Jvm.ClassFile.FieldType.boolean), Jvm.Cond.code ({ cls := "java/lang/StringLatin1", name := "charAt", desc := "([BI)C" } : Jvm.MethodName) jdk_43_method_2_code (2 : Nat) (Option.some Jvm.ClassFile.FieldType.char), Jvm.Cond.code ({ cls := "java/lang/String", name := "checkIndex", desc := "(II)V" } : Jvm.MethodName) jdk_42_method_155_code (2 : Nat) (Option.none : Option Jvm.ClassFile.FieldType), Jvm.Cond.code ({ cls := "jdk/internal/util/Preconditions", name := "checkIndex", desc := "(IILjava/util/function/BiFunction;)I" } : Jvm.MethodName) jdk_41_method_11_code (3 : Nat) (Option.some Jvm.ClassFile.FieldType.int)]
set_option maxRecDepth 65536 in
theorem codes_eq : words1.filter isCode = codes1 := rfl
theorem w_codes : ∀ c ∈ words1.filter isCode, c.before args0 about1 = true := by
  rw [codes_eq]
  intro c hc
  simp only [codes1, List.mem_cons, List.not_mem_nil, or_false] at hc
  rcases hc with rfl | rfl | rfl | rfl | rfl | rfl | rfl | rfl | rfl | rfl | rfl | rfl | rfl | rfl | rfl | rfl | rfl | rfl | rfl | rfl
  · exact w_c0
  · exact w_c1
  · exact w_c2
  · exact w_c3
  · exact w_c4
  · exact w_c5
  · exact w_c6
  · exact w_c7
  · exact w_c8
  · exact w_c9
  · exact w_c10
  · exact w_c11
  · exact w_c12
  · exact w_c13
  · exact w_c14
  · exact w_c15
  · exact w_c16
  · exact w_c17
  · exact w_c18
  · exact w_c19
set_option maxRecDepth 65536 in
theorem w_t1 : (words1.take 24).all (fun c => isCode c || c.before args0 about1) = true := by decide +kernel
set_option maxRecDepth 65536 in
theorem w_t2 : ((words1.drop 24).take 24).all (fun c => isCode c || c.before args0 about1) = true := by decide +kernel
set_option maxRecDepth 65536 in
theorem w_t3 : (((words1.drop 24).drop 24).take 24).all (fun c => isCode c || c.before args0 about1) = true := by decide +kernel
set_option maxRecDepth 65536 in
theorem w_t4 : ((((words1.drop 24).drop 24).drop 24).take 24).all (fun c => isCode c || c.before args0 about1) = true := by decide +kernel
set_option maxRecDepth 65536 in
theorem w_t5 : (((((words1.drop 24).drop 24).drop 24).drop 24).take 24).all (fun c => isCode c || c.before args0 about1) = true := by decide +kernel
set_option maxRecDepth 65536 in
theorem w_t6 : (((((words1.drop 24).drop 24).drop 24).drop 24).drop 24).all (fun c => isCode c || c.before args0 about1) = true := by decide +kernel
theorem w_tables : (allAtoms (Jvm.Cond.code x code maxLocals ret :: tables_1)).before args0 about1 = true := by
  rw [allAtoms_all]
  show words1.all (fun c => c.before args0 about1) = true
  refine all_split ?_ w_codes
  rw [← List.take_append_drop 24 words1, List.all_append, w_t1, ← List.take_append_drop 24 (words1.drop 24), List.all_append, w_t2, ← List.take_append_drop 24 ((words1.drop 24).drop 24), List.all_append, w_t3, ← List.take_append_drop 24 (((words1.drop 24).drop 24).drop 24), List.all_append, w_t4, ← List.take_append_drop 24 ((((words1.drop 24).drop 24).drop 24).drop 24), List.all_append, w_t5, w_t6]
  rfl
set_option maxRecDepth 65536 in
theorem w_rest : rest_1_c.before args0 about1 = true := by decide +kernel
set_option maxRecDepth 65536 in
theorem w_case : (Jvm.Cond.and given_1 narrow_1).before args0 about1 = true := by decide +kernel
theorem w_applies : (headSpec (Jvm.Cond.code x code maxLocals ret :: tables_1) room_1).applies x e0.platform about1 = true :=
  (Spec.applies_iff w_frames).mpr ⟨w_running, w_runnable, w_alone, w_named, w_hears, w_ripe, w_room, w_tables⟩
theorem atStart : AtStart classFile x code maxLocals ret World_1 tables_1 room_1 Calls_1 rest_1 Pre_1 launch0 p0 e0 about1 theMethod args0 below0 :=
  ⟨lists_1, trivial, launch0.admits_env _ _ _, launch0.least_env, fairChoices_fair.cas, fairChoices_fair.clock, w_frames, w_args, w_heap, w_applies, trivial, w_rest, w_case⟩
end start1
theorem witness_1 : WitnessClaimed_1 := ⟨start1.p0, start1.e0, start1.about1, start1.theMethod, start1.args0, start1.below0, start1.atStart⟩
end Jvm.Pilot.@@N@@
