import JvmDerived
import JvmDerived.Pilot.@@N@@Statement
import JvmDerived.Pilot.@@N@@Code
set_option linter.unusedVariables false
set_option linter.unusedSimpArgs false
namespace Jvm.Pilot.@@N@@
open Jvm Jvm.ClassFile Sem Op Lib Jvm.Free Jvm.Stand Jvm.LawKit Jvm.RoadKit Bundle Jvm.Pilot.@@N@@.Jvm.D
section Own
variable {p : Program} {l : Launch} {e : Env} {R : Room} {s : State} {m : MethodId} {args : Array Value} {below : List Frame} {meth : Method} {c : Code} {T : State} {locs : List Loc} {cells slots : Nat} {Z : State} {h h' : Heap} {a b : Addr}
/-- from the state σ the run comes to a return that meets Qk -/
def Go (p : Program) (e : Env) (below : List Frame) (s : State) (Qk : Option Value → Heap → List Loc → Prop) (C S : Nat) (σ : State) : Prop :=
  ∃ s₂ o, Steps p.tables e below σ s₂ ∧ s₂.status = .running ∧ Ended s₂ below o ∧ ∃ v L, o = .returned v ∧ Qk v s₂.heap L ∧ FrameEnd s o s₂ L C S
variable {Qk : Option Value → Heap → List Loc → Prop} {C S : Nat}
theorem Go.step {σ σ' : State} (hs : ∀ t, Steps p.tables e below σ' t → Steps p.tables e below σ t) (k : Go p e below s Qk C S σ') : Go p e below s Qk C S σ := by
  obtain ⟨s₂, o, h1, r⟩ := k
  exact ⟨s₂, o, hs _ h1, r⟩
theorem Go.retV (X : Stand p l e R s m args below meth c T locs cells slots) (hlk : meth.locks = false) (hx : p.tables.exec = Jvm.exec) {pc : Nat} {Ls : Array Slot} (hret : meth.sig.returnType = none) (hd : decode c.code pc = .ok (.return_, 1)) (hc : cells ≤ C) (hs : slots ≤ S) (hQ : Qk none T.heap locs) :
    Go p e below s Qk C S (T.setTop (mkF m pc Ls [])) := by
  obtain ⟨fs, hr, hrun, hended, hW, hsame⟩ := X.leave (v := none) (fun _ => rfl) hlk
  exact ⟨_, _, X.returnOut hx hret hd hr, hrun, hended, _, _, rfl, hQ, ⟨_, rfl⟩, hW, hsame.mono hc hs⟩
theorem Go.retW (X : Stand p l e R s m args below meth c T locs cells slots) (hlk : meth.locks = false) (hx : p.tables.exec = Jvm.exec) {pc : Nat} {Ls : Array Slot} {w : Value} {t : FieldType} {i : Instr} {rest : List Value} (hret : meth.sig.returnType = some t) (hn : narrow t w = w)
    (hi : (i = .ireturn ∧ (t = .int ∨ t = .boolean ∨ t = .byte ∨ t = .char ∨ t = .short) ∧ ∃ z, w = .int z) ∨ (i = .lreturn ∧ t = .long ∧ ∃ z, w = .long z) ∨ (i = .dreturn ∧ t = .double ∧ ∃ z, w = .double z) ∨ (i = .freturn ∧ t = .float ∧ ∃ z, w = .float z) ∨ (i = .areturn ∧ t.isReference = true ∧ w.isRef = true))
    (hd : decode c.code pc = .ok (i, 1)) (hc : cells ≤ C) (hs : slots ≤ S) (hQ : Qk (some w) T.heap locs) :
    Go p e below s Qk C S (T.setTop (mkF m pc Ls (w :: rest))) := by
  obtain ⟨fs, hr, hrun, hended, hW, hsame⟩ := X.leave (v := some w) (fun q => by rw [hret] at q; cases q) hlk
  exact ⟨_, _, retOut X hx hret hn hi hd hr, hrun, hended, _, _, rfl, hQ, ⟨_, rfl⟩, hW, hsame.mono hc hs⟩
theorem Go.retI (X : Stand p l e R s m args below meth c T locs cells slots) (hlk : meth.locks = false) (hx : p.tables.exec = Jvm.exec) {pc : Nat} {Ls : Array Slot} {z : Int32} {rest : List Value} (hret : meth.sig.returnType = some .int) (hd : decode c.code pc = .ok (.ireturn, 1)) (hc : cells ≤ C) (hs : slots ≤ S) (hQ : Qk (some (.int z)) T.heap locs) :
    Go p e below s Qk C S (T.setTop (mkF m pc Ls (.int z :: rest))) :=
  Go.retW X hlk hx hret rfl (Or.inl ⟨rfl, Or.inl rfl, z, rfl⟩) hd hc hs hQ
theorem Go.retJ (X : Stand p l e R s m args below meth c T locs cells slots) (hlk : meth.locks = false) (hx : p.tables.exec = Jvm.exec) {pc : Nat} {Ls : Array Slot} {z : Int64} {rest : List Value} (hret : meth.sig.returnType = some .long) (hd : decode c.code pc = .ok (.lreturn, 1)) (hc : cells ≤ C) (hs : slots ≤ S) (hQ : Qk (some (.long z)) T.heap locs) :
    Go p e below s Qk C S (T.setTop (mkF m pc Ls (.long z :: rest))) :=
  Go.retW X hlk hx hret rfl (Or.inr (Or.inl ⟨rfl, rfl, z, rfl⟩)) hd hc hs hQ
theorem Go.retA (X : Stand p l e R s m args below meth c T locs cells slots) (hlk : meth.locks = false) (hx : p.tables.exec = Jvm.exec) {pc : Nat} {Ls : Array Slot} {w : Value} {t : FieldType} {rest : List Value} (hret : meth.sig.returnType = some t) (hn : narrow t w = w) (ht : t.isReference = true) (hw : w.isRef = true) (hd : decode c.code pc = .ok (.areturn, 1)) (hc : cells ≤ C) (hs : slots ≤ S) (hQ : Qk (some w) T.heap locs) :
    Go p e below s Qk C S (T.setTop (mkF m pc Ls (w :: rest))) :=
  Go.retW X hlk hx hret hn (Or.inr (Or.inr (Or.inr (Or.inr ⟨rfl, ht, hw⟩)))) hd hc hs hQ
theorem Go.retN (X : Stand p l e R s m args below meth c T locs cells slots) (hlk : meth.locks = false) (hx : p.tables.exec = Jvm.exec) {pc : Nat} {Ls : Array Slot} {z : Int32} {t : FieldType} {rest : List Value} (hret : meth.sig.returnType = some t) (ht : t = .boolean ∨ t = .byte ∨ t = .char ∨ t = .short) (hd : decode c.code pc = .ok (.ireturn, 1)) (hc : cells ≤ C) (hs : slots ≤ S) (z' : Int32) (hz : nar t z = z') (hQ : Qk (some (.int z')) T.heap locs) :
    Go p e below s Qk C S (T.setTop (mkF m pc Ls (.int z :: rest))) := by
  subst hz
  obtain ⟨fs, hr, hrun, hended, hW, hsame⟩ := X.leave (v := some (.int (nar t z))) (fun q => by rw [hret] at q; cases q) hlk
  exact ⟨_, _, Jvm.RoadKit.retN X hx hret ht hd hr, hrun, hended, _, _, rfl, hQ, ⟨_, rfl⟩, hW, hsame.mono hc hs⟩
theorem own_narb {P : Prop} [Decidable P] : nar .boolean (if P then (1 : Int32) else (0 : Int32)) = (if P then (1 : Int32) else (0 : Int32)) := by split <;> rfl
theorem own_narb01 {z : Int32} (h : z = 0 ∨ z = 1) : nar .boolean z = z := by rcases h with rfl | rfl <;> rfl
/-- a function turned at one place -/
def up {α : Type} (f : Nat → α) (k : Nat) (v : α) : Nat → α := fun i => if i = k then v else f i
theorem up_same {α : Type} (f : Nat → α) (k : Nat) (v : α) : up f k v k = v := if_pos rfl
theorem up_ne {α : Type} (f : Nat → α) {k i : Nat} (v : α) (q : i ≠ k) : up f k v i = f i := if_neg q
/-- an array of n places; place i holds g i -/
def Ary (Z : State) (h : Heap) (a : Addr) (ty : FieldType) (n : Nat) (g : Nat → Value) : Prop := ∃ c : Cell, Arr Z h a c ty ∧ c.slots.size = n ∧ n < 2 ^ 31 ∧ ∀ i, i < n → c.slots[i]? = some (g i)
variable {ty : FieldType} {n : Nat} {g : Nat → Value}
theorem Ary.lt (F : Ary Z h a ty n g) : a < h.size := by obtain ⟨c, A, -⟩ := F; exact A.lt
theorem Ary.ext (F : Ary Z h a ty n g) (E : Ext h h') : Ary Z h' a ty n g := by obtain ⟨c, A, r⟩ := F; exact ⟨c, A.ext E, r⟩
theorem Ary.other {sl : Nat} {v : Value} (F : Ary Z h b ty n g) (W : Wr h h' a sl v) (q : b ≠ a) : Ary Z h' b ty n g := by obtain ⟨c, A, r⟩ := F; exact ⟨c, A.other W q, r⟩
theorem Ary.keep {ws : List Addr} (F : Ary Z h a ty n g) (K : Keep h h' ws) (q : a ∉ ws) : Ary Z h' a ty n g := by obtain ⟨c, A, r⟩ := F; exact ⟨c, ⟨K.2.1 a c A.1 q, A.2⟩, r⟩
theorem Ary.set {k : Nat} {v : Value} (F : Ary Z h a ty n g) (W : Wr h h' a k v) : Ary Z h' a ty n (up g k v) := by
  obtain ⟨c, A, S, B, H⟩ := F
  refine ⟨_, A.same W, by rw [sz_set]; exact S, B, fun i hi => ?_⟩
  by_cases q : k = i
  · subst q; rw [up_same]; simp [Cell.setSlot, S, hi]
  · rw [up_ne _ _ (Ne.symm q), ← H i hi]; simp only [Cell.setSlot]; rw [Array.getElem?_setIfInBounds_ne q]
theorem Ary.new {k : ClassId} {z : Int32} (A : Arr Z h a (newA k ty z) ty) (q : z.toInt = n) : Ary Z h a ty n (fun _ => defaultValue ty) := by
  have e1 : z.toNatClampNeg = n := by simp only [Int32.toNatClampNeg]; omega
  refine ⟨_, A, by rw [sz_new]; exact e1, ?_, fun i hi => ?_⟩
  · have := Int32.toInt_lt z; omega
  · simp [newA, e1, hi]
theorem Ary.congr {g' : Nat → Value} (F : Ary Z h a ty n g) (q : ∀ i, i < n → g i = g' i) : Ary Z h a ty n g' := by
  obtain ⟨c, A, S, B, H⟩ := F
  exact ⟨c, A, S, B, fun i hi => by rw [← q i hi]; exact H i hi⟩
abbrev AryI (Z : State) (h : Heap) (a : Addr) (ty : FieldType) (n : Nat) (g : Nat → Int32) : Prop := Ary Z h a ty n (fun i => .int (g i))
abbrev AryJ (Z : State) (h : Heap) (a : Addr) (n : Nat) (g : Nat → Int64) : Prop := Ary Z h a .long n (fun i => .long (g i))
theorem own_upI (f : Nat → Int32) (k : Nat) (v : Int32) : up (fun i => Value.int (f i)) k (.int v) = fun i => Value.int (up f k v i) := by funext i; simp only [up]; split <;> rfl
theorem own_upJ (f : Nat → Int64) (k : Nat) (v : Int64) : up (fun i => Value.long (f i)) k (.long v) = fun i => Value.long (up f k v i) := by funext i; simp only [up]; split <;> rfl
theorem Ary.setI {f : Nat → Int32} {k : Nat} {v : Int32} (F : AryI Z h a ty n f) (W : Wr h h' a k (.int v)) : AryI Z h' a ty n (up f k v) := by have r := Ary.set F W; rw [own_upI] at r; exact r
theorem Ary.setJ {f : Nat → Int64} {k : Nat} {v : Int64} (F : AryJ Z h a n f) (W : Wr h h' a k (.long v)) : AryJ Z h' a n (up f k v) := by have r := Ary.set F W; rw [own_upJ] at r; exact r
theorem own_idx {c : Cell} {j : Int32} {k : Nat} (S : c.slots.size = n) (q : j.toInt = k) (hk : k < n) : ¬ (j < 0 ∨ c.slots.size ≤ j.toNatClampNeg) ∧ j.toNatClampNeg = k := by
  have e1 : j.toNatClampNeg = k := by simp only [Int32.toNatClampNeg]; omega
  have e0 : (0 : Int32).toInt = 0 := rfl
  refine ⟨?_, e1⟩
  rw [e1, S, Int32.lt_iff_toInt_lt]; omega
theorem own_ld (X : Stand p l e R s m args below meth c T locs cells slots) (hx : p.tables.exec = Jvm.exec) (hZ : Z.Warmed39 s.vm) (eT : T.heap = h) (F : Ary Z h a ty n g) {j : Int32} (k : Nat) (q : j.toInt = k) (hk : k < n) {v : Value} (hv : g k = v) {i : Instr}
    (hi : (i = .iaload ∧ ty = .int) ∨ (i = .laload ∧ ty = .long) ∨ (i = .caload ∧ ty = .char) ∨ (i = .baload ∧ ty = .byte)) {f : JFrame} (hg : f.method = m) {rest : List Value} (hs : f.stack = .int j :: .ref a :: rest) (hd : decode c.code f.pc = .ok (i, 1)) :
    ∀ target, Steps p.tables e below (T.setTop { f with pc := f.pc + 1, stack := v :: rest }) target → Steps p.tables e below (T.setTop f) target := by
  subst hv
  obtain ⟨cl, A, S, -, H⟩ := F
  obtain ⟨hin, e1⟩ := own_idx S q hk
  have hat : cl.slots[j.toNatClampNeg]? = some (g k) := by rw [e1]; exact H k hk
  intro t kt
  rcases hi with ⟨rfl, rfl⟩ | ⟨rfl, rfl⟩ | ⟨rfl, rfl⟩ | ⟨rfl, rfl⟩
  · exact X.iaload hx (by rw [eT]; exact A.1) (State.isArrayOf_alike hZ.alike A.2.1) A.2.2 hin hat hg hs hd t kt
  · exact X.laload hx (by rw [eT]; exact A.1) (State.isArrayOf_alike hZ.alike A.2.1) A.2.2 hin hat hg hs hd t kt
  · exact X.caload hx (by rw [eT]; exact A.1) (State.isArrayOf_alike hZ.alike A.2.1) A.2.2 hin hat hg hs hd t kt
  · exact X.baloadBytes hx (by rw [eT]; exact A.1) (State.isArrayOf_alike hZ.alike A.2.1) A.2.2 hin hat hg hs hd t kt
theorem own_len (X : Stand p l e R s m args below meth c T locs cells slots) (hx : p.tables.exec = Jvm.exec) (hZ : Z.Warmed39 s.vm) (eT : T.heap = h) (F : Ary Z h a ty n g) {z : Int32} (hz : n.toInt32 = z) {f : JFrame} (hg : f.method = m) {rest : List Value} (hs : f.stack = .ref a :: rest) (hd : decode c.code f.pc = .ok (.arraylength, 1)) :
    ∀ target, Steps p.tables e below (T.setTop { f with pc := f.pc + 1, stack := .int z :: rest }) target → Steps p.tables e below (T.setTop f) target := by
  subst hz
  obtain ⟨cl, A, S, -⟩ := F
  intro t kt
  refine X.arraylength hx (by rw [eT]; exact A.1) (State.isArrayOf_alike hZ.alike A.2.1) hg hs hd t ?_
  rw [S]; exact kt
theorem own_stI (X : Stand p l e R s m args below meth c T locs cells slots) (hx : p.tables.exec = Jvm.exec) (hZ : Z.Warmed39 s.vm) (eT : T.heap = h) (F : Ary Z h a .int n g) {j x : Int32} (k : Nat) (q : j.toInt = k) (hk : k < n) {f : JFrame} (hg : f.method = m) {rest : List Value} (hs : f.stack = .int x :: .int j :: .ref a :: rest) (hd : decode c.code f.pc = .ok (.iastore, 1)) :
    ∃ T' h', Stand p l e R s m args below meth c T' (locs ++ [⟨a, k⟩]) cells slots ∧ T'.heap = h' ∧ Wr h h' a k (.int x) ∧ ∀ target, Steps p.tables e below (T'.setTop { f with pc := f.pc + 1, stack := rest }) target → Steps p.tables e below (T.setTop f) target := by
  obtain ⟨cl, A, S, -, -⟩ := F
  obtain ⟨hin, e1⟩ := own_idx S q hk
  have r := stI X hx hZ eT A hin hg hs hd
  rw [e1] at r; exact r
theorem own_stJ (X : Stand p l e R s m args below meth c T locs cells slots) (hx : p.tables.exec = Jvm.exec) (hZ : Z.Warmed39 s.vm) (eT : T.heap = h) (F : Ary Z h a .long n g) {j : Int32} {x : Int64} (k : Nat) (q : j.toInt = k) (hk : k < n) {f : JFrame} (hg : f.method = m) {rest : List Value} (hs : f.stack = .long x :: .int j :: .ref a :: rest) (hd : decode c.code f.pc = .ok (.lastore, 1)) :
    ∃ T' h', Stand p l e R s m args below meth c T' (locs ++ [⟨a, k⟩]) cells slots ∧ T'.heap = h' ∧ Wr h h' a k (.long x) ∧ ∀ target, Steps p.tables e below (T'.setTop { f with pc := f.pc + 1, stack := rest }) target → Steps p.tables e below (T.setTop f) target := by
  obtain ⟨cl, A, S, -, -⟩ := F
  obtain ⟨hin, e1⟩ := own_idx S q hk
  have r := stJ X hx hZ eT A hin hg hs hd
  rw [e1] at r; exact r
theorem own_stB (X : Stand p l e R s m args below meth c T locs cells slots) (hx : p.tables.exec = Jvm.exec) (hZ : Z.Warmed39 s.vm) (eT : T.heap = h) (F : Ary Z h a .byte n g) {j x : Int32} (k : Nat) (q : j.toInt = k) (hk : k < n) {f : JFrame} (hg : f.method = m) {rest : List Value} (hs : f.stack = .int x :: .int j :: .ref a :: rest) (hd : decode c.code f.pc = .ok (.bastore, 1)) :
    ∃ T' h', Stand p l e R s m args below meth c T' (locs ++ [⟨a, k⟩]) cells slots ∧ T'.heap = h' ∧ Wr h h' a k (.int (nar .byte x)) ∧ ∀ target, Steps p.tables e below (T'.setTop { f with pc := f.pc + 1, stack := rest }) target → Steps p.tables e below (T.setTop f) target := by
  obtain ⟨cl, A, S, -, -⟩ := F
  obtain ⟨hin, e1⟩ := own_idx S q hk
  have r := stB X hx hZ eT A hin hg hs hd
  rw [e1] at r; exact r
theorem own_stC (X : Stand p l e R s m args below meth c T locs cells slots) (hx : p.tables.exec = Jvm.exec) (hZ : Z.Warmed39 s.vm) (eT : T.heap = h) (F : Ary Z h a .char n g) {j x : Int32} (k : Nat) (q : j.toInt = k) (hk : k < n) {f : JFrame} (hg : f.method = m) {rest : List Value} (hs : f.stack = .int x :: .int j :: .ref a :: rest) (hd : decode c.code f.pc = .ok (.castore, 1)) :
    ∃ T' h', Stand p l e R s m args below meth c T' (locs ++ [⟨a, k⟩]) cells slots ∧ T'.heap = h' ∧ Wr h h' a k (.int (nar .char x)) ∧ ∀ target, Steps p.tables e below (T'.setTop { f with pc := f.pc + 1, stack := rest }) target → Steps p.tables e below (T.setTop f) target := by
  obtain ⟨cl, A, S, -, -⟩ := F
  obtain ⟨hin, e1⟩ := own_idx S q hk
  have r := stC X hx hZ eT A hin hg hs hd
  rw [e1] at r; exact r
theorem own_neA {a0 : Array Value} {k : Nat} {K : String} (F : Exa Z h a K) (wi : (Cond.instantiable K k).before a0 Z = true) (G : Ary Z h b ty n g) : a ≠ b := by
  obtain ⟨cl, A, -⟩ := G
  exact ne_arr F wi A
theorem own_selP {y : MethodName} {k : Nat} {a0 as' : Array Value} (hZ : Z.Warmed39 s.vm) (wi : (Cond.instantiable y.cls k).before a0 Z = true) (wn : (Cond.instanceMethod y).before a0 Z = true) (wp : (Cond.privateMethod y).before a0 Z = true) (hy : y.cls ≠ "java/lang/invoke/MethodHandle" ∧ y.cls ≠ "java/lang/invoke/VarHandle") : (Cond.selects y.cls y y).before as' s = true := by
  have wi' : (Cond.instantiable y.cls k).before as' s = true := mvT hZ wi
  obtain ⟨c, kc, h1, h2, -, h4, -⟩ := Cond.instantiable_spec wi'
  refine selects_self_of_private h1 h2 ?_ (Cond.privateMethod_at (mvP hZ wp (args := #[]))) (mvT hZ wn) hy
  cases hi : kc.isInterface with
  | false => rfl
  | true => rw [hi] at h4; simp at h4
/-- long comparisons -/
theorem own_lwlt {x y : Int64} (h : x < y) : lcmpW x y < 0 := (lw_lt x y).mpr h
theorem own_nlwlt {x y : Int64} (h : ¬ x < y) : ¬ lcmpW x y < 0 := fun q => h ((lw_lt x y).mp q)
theorem own_lwgt {x y : Int64} (h : y < x) : 0 < lcmpW x y := (lw_gt x y).mpr h
theorem own_nlwgt {x y : Int64} (h : ¬ y < x) : ¬ 0 < lcmpW x y := fun q => h ((lw_gt x y).mp q)
theorem own_lweq {x y : Int64} (h : x = y) : lcmpW x y = 0 := (lw_eq x y).mpr h
theorem own_nlweq {x y : Int64} (h : ¬ x = y) : ¬ lcmpW x y = 0 := fun q => h ((lw_eq x y).mp q)
end Own
theorem own_lt {x y : Int32} (h : x < y) : x.toInt < y.toInt := Int32.lt_iff_toInt_lt.mp h
theorem own_nlt {x y : Int32} (h : ¬ x < y) : ¬ x.toInt < y.toInt := fun q => h (Int32.lt_iff_toInt_lt.mpr q)
theorem own_eq {x y : Int32} (h : x = y) : x.toInt = y.toInt := by rw [h]
theorem own_neq {x y : Int32} (h : ¬ x = y) : ¬ x.toInt = y.toInt := fun q => h (Int32.toInt_inj.mp q)
theorem own_ltL {x y : Int64} (h : x < y) : x.toInt < y.toInt := Int64.lt_iff_toInt_lt.mp h
theorem own_nltL {x y : Int64} (h : ¬ x < y) : ¬ x.toInt < y.toInt := fun q => h (Int64.lt_iff_toInt_lt.mpr q)
theorem own_eqL {x y : Int64} (h : x = y) : x.toInt = y.toInt := by rw [h]
theorem own_neqL {x y : Int64} (h : ¬ x = y) : ¬ x.toInt = y.toInt := fun q => h (Int64.toInt_inj.mp q)
theorem own_rng32 (x : Int32) : -2147483648 ≤ x.toInt ∧ x.toInt ≤ 2147483647 := by
  have h1 := Int32.le_toInt x
  have h2 := Int32.toInt_lt x
  omega
theorem own_rng64 (x : Int64) : -9223372036854775808 ≤ x.toInt ∧ x.toInt ≤ 9223372036854775807 := by
  have h1 := Int64.le_toInt x
  have h2 := Int64.toInt_lt x
  omega
section Txt
variable {p : Program} {l : Launch} {e : Env} {R : Room} {s : State} {m : MethodId} {args : Array Value} {below : List Frame} {meth : Method} {c : Code} {T : State} {locs : List Loc} {cells slots : Nat} {Z : State} {h h' : Heap} {a b : Addr} {n n' : Nat}
/-- a char array of n places, whatever it holds -/
def Txt (Z : State) (h : Heap) (a : Addr) (n : Nat) : Prop := ∃ (k : ClassId) (z : Int32) (vs : List Value), z.toInt = (n : Int) ∧ Arv Z h a k .char z vs (.int 0)
theorem Txt.lt (F : Txt Z h a n) : a < h.size := by obtain ⟨k, z, vs, -, F⟩ := F; exact F.lt
theorem Txt.ext (F : Txt Z h a n) (E : Ext h h') : Txt Z h' a n := by obtain ⟨k, z, vs, q, F⟩ := F; exact ⟨k, z, vs, q, F.ext E⟩
theorem Txt.other {sl : Nat} {v : Value} (F : Txt Z h b n) (W : Wr h h' a sl v) (q : b ≠ a) : Txt Z h' b n := by obtain ⟨k, z, vs, r, F⟩ := F; exact ⟨k, z, vs, r, F.other W q⟩
theorem Txt.keep {ws : List Addr} (F : Txt Z h a n) (K : Keep h h' ws) (q : a ∉ ws) : Txt Z h' a n := by obtain ⟨k, z, vs, r, F⟩ := F; exact ⟨k, z, vs, r, F.keep K q⟩
theorem Txt.new {k : ClassId} {z : Int32} (A : Arr Z h a (newA k .char z) .char) (q : z.toInt = n) : Txt Z h a n := ⟨k, z, [], q, Arv.new A (by rw [Int32.lt_iff_toInt_lt, q]; show ¬ (n : Int) < 0; omega)⟩
theorem own_clamp {z : Int32} (q : z.toInt = (n : Int)) : z.toNatClampNeg = n := by simp only [Int32.toNatClampNeg]; omega
theorem own_nn {z : Int32} (q : z.toInt = (n : Int)) : ¬ z < 0 := by rw [Int32.lt_iff_toInt_lt, q]; show ¬ (n : Int) < 0; omega
theorem Txt.ary (F : Txt Z h a n) : ∃ g, Ary Z h a .char n g := by
  obtain ⟨k, z, vs, q, c, A, -, S, -, H, -⟩ := F
  refine ⟨fun i => vs.getD i (.int 0), c, A, by rw [S]; exact own_clamp q, ?_, fun i hi => H i (by rw [S, own_clamp q]; exact hi)⟩
  have := Int32.toInt_lt z; omega
theorem own_lenT (X : Stand p l e R s m args below meth c T locs cells slots) (hx : p.tables.exec = Jvm.exec) (hZ : Z.Warmed39 s.vm) (eT : T.heap = h) (F : Txt Z h a n) {z : Int32} (hz : z.toInt = (n : Int)) {f : JFrame} (hg : f.method = m) {rest : List Value} (hs : f.stack = .ref a :: rest) (hd : decode c.code f.pc = .ok (.arraylength, 1)) :
    ∀ target, Steps p.tables e below (T.setTop { f with pc := f.pc + 1, stack := .int z :: rest }) target → Steps p.tables e below (T.setTop f) target := by
  obtain ⟨g, F⟩ := F.ary
  refine own_len X hx hZ eT F ?_ hg hs hd
  apply Int32.toInt_inj.mp
  rw [hz]
  obtain ⟨c, -, -, hb, -⟩ := F
  exact len_toInt hb
theorem own_stT (X : Stand p l e R s m args below meth c T locs cells slots) (hx : p.tables.exec = Jvm.exec) (hZ : Z.Warmed39 s.vm) (eT : T.heap = h) (F : Txt Z h a n) {j x : Int32} (k : Nat) (q : j.toInt = k) (hk : k < n) {f : JFrame} (hg : f.method = m) {rest : List Value} (hs : f.stack = .int x :: .int j :: .ref a :: rest) (hd : decode c.code f.pc = .ok (.castore, 1)) :
    ∃ T' h', Stand p l e R s m args below meth c T' (locs ++ [⟨a, k⟩]) cells slots ∧ T'.heap = h' ∧ Wr h h' a k (.int (nar .char x)) ∧ Txt Z h' a n ∧ ∀ target, Steps p.tables e below (T'.setTop { f with pc := f.pc + 1, stack := rest }) target → Steps p.tables e below (T.setTop f) target := by
  obtain ⟨kc, z, vs, qz, F⟩ := F
  have F' := F.pad (pad_rep vs (.int 0) n)
  obtain ⟨cl, A, q1, S, q3, H, G⟩ := F'
  have S' : cl.slots.size = n := by rw [S]; exact own_clamp qz
  obtain ⟨hin, e1⟩ := own_idx S' q hk
  obtain ⟨T', h', X', e', W, st⟩ := stC X hx hZ eT A hin hg hs hd
  have V := Arv.set A q1 S q3 H G (fits_nar_char x) W k e1 (by simp; omega)
  rw [e1] at X' W
  exact ⟨T', h', X', e', W, ⟨kc, z, _, qz, V⟩, st⟩
theorem own_cp (X : Stand p l e R s m args below meth c T locs cells slots) (hx : p.tables.exec = Jvm.exec) (hZ : Z.Warmed39 s.vm) {a0 : Array Value} {own : String} {index : Nat} (hown : s.vm.findClass own = some m.cls)
    (w1 : (Cond.methodLink own index Jvm.Stand.acN).before a0 Z = true) (w2 : (Cond.native Jvm.Stand.acN).before a0 Z = true) (w3 : (Cond.static Jvm.Stand.acN).before a0 Z = true) (w4 : (Cond.initialized "java/lang/System").before a0 Z = true) (eT : T.heap = h)
    {sp dp nn : Int32} (A : Txt Z h a n) (B : Txt Z h b n') (i j k : Nat) (hi : sp.toInt = i) (hj : dp.toInt = j) (hk : nn.toInt = k) (h4 : i + k ≤ n) (h5 : j + k ≤ n') {n0 : Nat} (N : Fr n0 locs) (ge : n0 ≤ b)
    {g : JFrame} (hg : g.method = m) (hsize : g.locals.size = c.maxLocals) {rest : List Value} (hs : g.stack = .int nn :: .int dp :: .ref b :: .int sp :: .ref a :: rest) (hd : decode c.code g.pc = .ok (.invokestatic index, 3))
    (hf : 1 ≤ R.frames) {W : Nat} (hW : 2 * g.monitorRoom + (rest.map fun v => v.category).sum ≤ W) (hlo : W + (nativeFrameWords "java/lang/System" "arraycopy" 5 + 11) ≤ R.locals) :
    ∃ T' h' L, Stand p l e R s m args below meth c T' L cells slots ∧ T'.heap = h' ∧ Fr n0 L ∧ Keep h h' [b] ∧ Txt Z h' b n' ∧
      ∀ target, Steps p.tables e below (T'.setTop { g with pc := g.pc + 3, stack := rest }) target → Steps p.tables e below (T.setTop g) target := by
  obtain ⟨ka, za, va, qa, A⟩ := A
  obtain ⟨kb, zb, vb, qb, B⟩ := B
  have B' := B.pad (pad_rep vb (.int 0) n')
  obtain ⟨T', h', L, X', e', N', K, V, st⟩ := cpA X hx hZ hown w1 w2 w3 w4 eT A B' (Or.inl ⟨rfl, rfl⟩) (own_nn hi) (own_nn hj) (own_nn hk) (by rw [own_clamp hi, own_clamp hk, own_clamp qa]; exact h4) (by rw [own_clamp hj, own_clamp hk, own_clamp qb]; exact h5) rfl (by rw [own_clamp hj, own_clamp hk]; simp; omega) N ge hg hsize hs hd hf hW hlo
  exact ⟨T', h', L, X', e', N', K, ⟨kb, zb, _, qb, V⟩, st⟩
theorem own_neT {a0 : Array Value} {k : Nat} {K : String} (F : Exa Z h a K) (wi : (Cond.instantiable K k).before a0 Z = true) (G : Txt Z h b n) : a ≠ b := by
  obtain ⟨g, G⟩ := G.ary
  exact own_neA F wi G
end Txt
theorem own_nex {x y z : Addr} {k : Nat} (o : y = z ∨ k ≤ y) (q : x ≠ z) (r : x < k) : x ≠ y := by
  rcases o with rfl | o
  · exact q
  · exact Nat.ne_of_lt (Nat.lt_of_lt_of_le r o)
theorem own_gex {y z : Addr} {k n0 : Nat} (o : y = z ∨ k ≤ y) (q : n0 ≤ z) (r : n0 ≤ k) : n0 ≤ y := by
  rcases o with rfl | o
  · exact q
  · exact Nat.le_trans r o
theorem own_wqx {y z : Addr} {k k0 : Nat} {ws : List Addr} (o : y = z ∨ k ≤ y) (q : z ∈ ws ∨ k0 ≤ z) (r : k0 ≤ k) : y ∈ ws ∨ k0 ≤ y := by
  rcases o with rfl | o
  · exact q
  · exact Or.inr (Nat.le_trans r o)

theorem own_inc {x : Int32} {k : Nat} (h : x.toInt = (k : Int)) (hk : k < 100000) : (x + (1 : Int32)).toInt = ((k + 1 : Nat) : Int) := by
  have h1 := c_iadd x 1
  have h2 := own_rng32 (x + 1)
  have h3 : (1 : Int32).toInt = 1 := rfl
  omega
theorem own_add {x y : Int32} {k j : Nat} (h : x.toInt = (k : Int)) (h' : y.toInt = (j : Int)) (hk : k + j < 1000000) : (x + y).toInt = ((k + j : Nat) : Int) := by
  have h1 := c_iadd x y
  have h2 := own_rng32 (x + y)
  omega
theorem own_dbl {x : Int32} {k : Nat} (h : x.toInt = (k : Int)) (hk : k < 100000) : (x * (2 : Int32)).toInt = ((2 * k : Nat) : Int) := by
  have h1 := c_imul x 2
  have h2 := own_rng32 (x * 2)
  have h3 : (2 : Int32).toInt = 2 := rfl
  rw [h3] at h1
  omega
theorem own_neq_ {x : Int32} {z : Int32} {k : Nat} {j : Nat} (h : x.toInt = (k : Int)) (hz : z.toInt = (j : Int)) (q : k ≠ j) : ¬ x = z := fun r => by
  have t := congrArg Int32.toInt r
  omega
theorem own_nlt_ {x : Int32} {z : Int32} {k : Nat} {j : Nat} (h : x.toInt = (k : Int)) (hz : z.toInt = (j : Int)) (q : j ≤ k) : ¬ x < z := by
  rw [Int32.lt_iff_toInt_lt]; omega
theorem own_lt_ {x : Int32} {z : Int32} {k : Nat} {j : Nat} (h : x.toInt = (k : Int)) (hz : z.toInt = (j : Int)) (q : k < j) : x < z := by
  rw [Int32.lt_iff_toInt_lt]; omega
theorem own_unlt {x : Int32} {z : Int32} {k : Nat} {j : Nat} (h : x.toInt = (k : Int)) (hz : z.toInt = (j : Int)) (q : ¬ x < z) : j ≤ k := by
  rw [Int32.lt_iff_toInt_lt] at q; omega
theorem own_unlt' {x : Int32} {z : Int32} {k : Nat} {j : Nat} (h : x.toInt = (k : Int)) (hz : z.toInt = (j : Int)) (q : x < z) : k < j := by
  rw [Int32.lt_iff_toInt_lt] at q; omega

theorem own_mk {x m : Int32} (q : (x &&& (4095 : Int32)) = m) : m.toInt = ((m.toInt.toNat : Nat) : Int) ∧ m.toInt.toNat ≤ 4095 := by
  have a1 := c_mask x (4095 : Int32) 12 (by decide) (by decide)
  have t := congrArg Int32.toInt q
  omega
theorem own_three {nn vk : Int32} (q : ((nn &&& (2147483647 : Int32)) % (3 : Int32)) = vk) : vk = (0 : Int32) ∨ vk = (1 : Int32) ∨ vk = (2 : Int32) := by
  have ar1 := own_rng32 (((nn &&& (2147483647 : Int32)) % (3 : Int32)))
  have ar2 := own_rng32 ((nn &&& (2147483647 : Int32)))
  have ar3 := own_rng32 (nn)
  have ar4 := c_mask (nn) (2147483647 : Int32) 31 (by decide) (by decide)
  have ar5 := c_irem ((nn &&& (2147483647 : Int32))) (3 : Int32) 3 rfl
  have t := congrArg Int32.toInt q
  have e : ∀ {x : Int32} {z : Int32}, x.toInt = z.toInt → x = z := fun h => Int32.toInt_inj.mp h
  rcases (by omega : vk.toInt = 0 ∨ vk.toInt = 1 ∨ vk.toInt = 2) with r | r | r
  · exact Or.inl (e (z := 0) r)
  · exact Or.inr (Or.inl (e (z := 1) r))
  · exact Or.inr (Or.inr (e (z := 2) r))

theorem own_z0 {x : Int32} {k : Nat} (h : x.toInt = (k : Int)) : ((0 : Int32) + x).toInt = (k : Int) := by rw [Int32.zero_add]; exact h
theorem d1_0 : decode prog_63_method_1_code 0 = .ok (.aload_n 0, 1) := by decide +kernel
theorem d1_1 : decode prog_63_method_1_code 1 = .ok (.invokespecial 1, 3) := by decide +kernel
theorem d1_4 : decode prog_63_method_1_code 4 = .ok (.aload_n 0, 1) := by decide +kernel
theorem d1_5 : decode prog_63_method_1_code 5 = .ok (.sipush 4096, 3) := by decide +kernel
theorem d1_8 : decode prog_63_method_1_code 8 = .ok (.newarray .char, 2) := by decide +kernel
theorem d1_10 : decode prog_63_method_1_code 10 = .ok (.putfield 7, 3) := by decide +kernel
theorem d1_13 : decode prog_63_method_1_code 13 = .ok (.aload_n 0, 1) := by decide +kernel
theorem d1_14 : decode prog_63_method_1_code 14 = .ok (.sipush 256, 3) := by decide +kernel
theorem d1_17 : decode prog_63_method_1_code 17 = .ok (.newarray .int, 2) := by decide +kernel
theorem d1_19 : decode prog_63_method_1_code 19 = .ok (.putfield 13, 3) := by decide +kernel
theorem d1_22 : decode prog_63_method_1_code 22 = .ok (.aload_n 0, 1) := by decide +kernel
theorem d1_23 : decode prog_63_method_1_code 23 = .ok (.sipush 256, 3) := by decide +kernel
theorem d1_26 : decode prog_63_method_1_code 26 = .ok (.newarray .int, 2) := by decide +kernel
theorem d1_28 : decode prog_63_method_1_code 28 = .ok (.putfield 17, 3) := by decide +kernel
theorem d1_31 : decode prog_63_method_1_code 31 = .ok (.aload_n 0, 1) := by decide +kernel
theorem d1_32 : decode prog_63_method_1_code 32 = .ok (.bipush 64, 2) := by decide +kernel
theorem d1_34 : decode prog_63_method_1_code 34 = .ok (.newarray .int, 2) := by decide +kernel
theorem d1_36 : decode prog_63_method_1_code 36 = .ok (.putfield 20, 3) := by decide +kernel
theorem d1_39 : decode prog_63_method_1_code 39 = .ok (.aload_n 0, 1) := by decide +kernel
theorem d1_40 : decode prog_63_method_1_code 40 = .ok (.bipush 64, 2) := by decide +kernel
theorem d1_42 : decode prog_63_method_1_code 42 = .ok (.newarray .int, 2) := by decide +kernel
theorem d1_44 : decode prog_63_method_1_code 44 = .ok (.putfield 23, 3) := by decide +kernel
theorem d1_47 : decode prog_63_method_1_code 47 = .ok (.aload_n 0, 1) := by decide +kernel
theorem d1_48 : decode prog_63_method_1_code 48 = .ok (.bipush 64, 2) := by decide +kernel
theorem d1_50 : decode prog_63_method_1_code 50 = .ok (.anewarray 26, 3) := by decide +kernel
theorem d1_53 : decode prog_63_method_1_code 53 = .ok (.putfield 28, 3) := by decide +kernel
theorem d1_56 : decode prog_63_method_1_code 56 = .ok (.return_, 1) := by decide +kernel
theorem pn_1 : plainName "com/example/vestwright/vestwright/io/Records" = true := by first | (simp [plainName, overriddenIn]; done) | decide +kernel
theorem ef_1 (m : MethodId) (x0 : Addr) : entryFrame m #[(.ref x0)] 1 = mkF m 0 #[.val (.ref x0)] [] := by first | (simp [entryFrame, mkF, argsToLocals, Value.category]; done) | rfl
def Q1 (Z : State) (aa : Addr) (h0 : Heap) (n0 : Nat) (v : Option Value) (h : Heap) (L : List Loc) : Prop := ∃ bt : Addr, ∃ bs : Addr, ∃ be : Addr, ∃ bf : Addr, ∃ bn : Addr, ∃ bx : Addr, v = none ∧ Fr n0 L ∧ Keep h0 h [aa] ∧ Fld Z h aa "com/example/vestwright/vestwright/io/Records" "text" "[C" (.ref bt) ∧ Fld Z h aa "com/example/vestwright/vestwright/io/Records" "starts" "[I" (.ref bs) ∧ Fld Z h aa "com/example/vestwright/vestwright/io/Records" "ends" "[I" (.ref be) ∧ Fld Z h aa "com/example/vestwright/vestwright/io/Records" "firstFields" "[I" (.ref bf) ∧ Fld Z h aa "com/example/vestwright/vestwright/io/Records" "lines" "[I" (.ref bn) ∧ Fld Z h aa "com/example/vestwright/vestwright/io/Records" "faults" "[Lcom/example/vestwright/vestwright/io/CsvFormatException;" (.ref bx) ∧ Fld Z h aa "com/example/vestwright/vestwright/io/Records" "textUsed" "I" (.int (0 : Int32)) ∧ Fld Z h aa "com/example/vestwright/vestwright/io/Records" "fields" "I" (.int (0 : Int32)) ∧ Fld Z h aa "com/example/vestwright/vestwright/io/Records" "records" "I" (.int (0 : Int32)) ∧ Txt Z h bt 4096 ∧ AryI Z h bs .int 256 (fun _ => (0 : Int32)) ∧ AryI Z h be .int 256 (fun _ => (0 : Int32)) ∧ AryI Z h bf .int 64 (fun _ => (0 : Int32)) ∧ AryI Z h bn .int 64 (fun _ => (0 : Int32)) ∧ h0.size ≤ bt ∧ h0.size ≤ bs ∧ h0.size ≤ be ∧ h0.size ≤ bf ∧ h0.size ≤ bn ∧ bt ≠ bs ∧ bt ≠ be ∧ bt ≠ bf ∧ bt ≠ bn ∧ bs ≠ be ∧ bs ≠ bf ∧ bs ≠ bn ∧ be ≠ bf ∧ be ≠ bn ∧ bf ≠ bn ∧ aa ≠ bt ∧ aa ≠ bs ∧ aa ≠ be ∧ aa ≠ bf ∧ aa ≠ bn
set_option maxRecDepth 65536 in
set_option maxHeartbeats 40000000 in
theorem rm1 (l : Launch) (Z : State) (a0 : Array Value) (hw : ∀ d ∈ tables_1, d.before a0 Z = true) (ws : List Jvm.Cond) (aa : Addr) (h0 : Heap) (n0 : Nat) (Z0 : n0 ≤ h0.size) (F_text_aa : Fld Z h0 aa "com/example/vestwright/vestwright/io/Records" "text" "[C" .null) (F_starts_aa : Fld Z h0 aa "com/example/vestwright/vestwright/io/Records" "starts" "[I" .null) (F_ends_aa : Fld Z h0 aa "com/example/vestwright/vestwright/io/Records" "ends" "[I" .null) (F_firstFields_aa : Fld Z h0 aa "com/example/vestwright/vestwright/io/Records" "firstFields" "[I" .null) (F_lines_aa : Fld Z h0 aa "com/example/vestwright/vestwright/io/Records" "lines" "[I" .null) (F_faults_aa : Fld Z h0 aa "com/example/vestwright/vestwright/io/Records" "faults" "[Lcom/example/vestwright/vestwright/io/CsvFormatException;" .null) (F_textUsed_aa : Fld Z h0 aa "com/example/vestwright/vestwright/io/Records" "textUsed" "I" (.int (0 : Int32))) (F_fields_aa : Fld Z h0 aa "com/example/vestwright/vestwright/io/Records" "fields" "I" (.int (0 : Int32))) (F_records_aa : Fld Z h0 aa "com/example/vestwright/vestwright/io/Records" "records" "I" (.int (0 : Int32))) (E_aa : Exa Z h0 aa "com/example/vestwright/vestwright/io/Records") (g_aa : n0 ≤ aa) :
    MetFree l (⟨"com/example/vestwright/vestwright/io/Records", "<init>", "()V"⟩ : MethodName) (head1 (Jvm.Cond.code (⟨"com/example/vestwright/vestwright/io/Records", "<init>", "()V"⟩ : MethodName) prog_63_method_1_code 1 none :: ws) ({ frames := 1, cells := 6, slots := 4800, locals := 12 } : Room)) (fun a U => a = #[(.ref aa)] ∧ Z.Warmed39 U.vm ∧ U.heap = h0) (fun _ _ _ _ _ => True) (fun _ U o U' => ∃ v L, o = .returned v ∧ Q1 Z aa h0 n0 v U'.heap L ∧ FrameEnd U o U' L ({ frames := 1, cells := 6, slots := 4800, locals := 12 } : Room).cells ({ frames := 1, cells := 6, slots := 4800, locals := 12 } : Room).slots) := by
  refine MetFree.of_bodySF (plainFor_of_name pn_1) hisR ?_
  intro p e s m args below meth c s₁ Bd hml0 hP hK
  obtain ⟨rfl, hZ, hh⟩ := hP
  have hx := Bd.exec
  have hby := Bd.bytes
  have hml : c.maxLocals = 1 := hml0
  have hown : s.vm.findClass "com/example/vestwright/vestwright/io/Records" = some m.cls := findClass_of_methodNamed Bd.named
  have hnm := (name_of_methodNamed Bd.named Bd.method).1
  have X0 : Stand p l e ({ frames := 1, cells := 6, slots := 4800, locals := 12 } : Room) s m #[(.ref aa)] below meth c s₁ [] 0 0 := Stand.of_body Bd
  have e0 : s₁.heap = h0 := by rw [← hh, Bd.state]; rfl
  have N0 := Fr.nil n0
  have K0 := Keep.refl h0 ([aa] : List Addr)
  show Go p e below s (Q1 Z aa h0 n0) ({ frames := 1, cells := 6, slots := 4800, locals := 12 } : Room).cells ({ frames := 1, cells := 6, slots := 4800, locals := 12 } : Room).slots (s₁.setTop (entryFrame m #[(.ref aa)] 1))
  rw [ef_1]
  show Go _ _ _ _ _ _ _ (s₁.setTop (mkF m 0 #[.val (.ref aa)] []))
  refine Go.step (fun t k => XS.aloadN X0.here hx rfl (hb hby d1_0) rfl rfl k) ?_
  show Go _ _ _ _ _ _ _ (s₁.setTop (mkF m 1 #[.val (.ref aa)] [(.ref aa)]))
  obtain ⟨T1, X1, e1, st1⟩ := initO X0 hx hZ hown (hw _ (List.mem_of_getElem? (i := 7) rfl)) (hw _ (List.mem_of_getElem? (i := 8) rfl)) (hw _ (List.mem_of_getElem? (i := 9) rfl)) e0 (g := (mkF m 1 #[.val (.ref aa)] [(.ref aa)])) rfl (by rw [hml]; rfl) rfl (hb hby d1_1) (by decide) (W := 0) (by show 2 * 0 + _ ≤ _; exact Nat.le_of_eq rfl) (by decide)
  refine Go.step st1 ?_
  show Go _ _ _ _ _ _ _ (T1.setTop (mkF m 4 #[.val (.ref aa)] []))
  refine Go.step (fun t k => XS.aloadN X1.here hx rfl (hb hby d1_4) rfl rfl k) ?_
  show Go _ _ _ _ _ _ _ (T1.setTop (mkF m 5 #[.val (.ref aa)] [(.ref aa)]))
  refine Go.step (fun t k => XS.sipush X1.here hx rfl (hb hby d1_5) k) ?_
  show Go _ _ _ _ _ _ _ (T1.setTop (mkF m 8 #[.val (.ref aa)] [(.int (4096 : Int32)), (.ref aa)]))
  obtain ⟨T2, h2, k2, X2, e2, E2, A2, st2⟩ := newP X1 hx hZ (hw _ (List.mem_of_getElem? (i := 0) rfl)) e1 (g := (mkF m 8 #[.val (.ref aa)] [(.int (4096 : Int32)), (.ref aa)])) rfl (hb hby d1_8) rfl (by decide) (cap := 4096) (by decide) (by decide) (by decide) (by decide)
  obtain ⟨bt, gz2⟩ : ∃ z, z = h0.size := ⟨_, rfl⟩
  have ne_aa_bt : aa ≠ bt := Nat.ne_of_lt (Nat.lt_of_lt_of_le F_text_aa.lt (Nat.le_of_eq gz2.symm))
  have g_bt : n0 ≤ bt := Nat.le_trans Z0 (Nat.le_of_eq gz2.symm)
  have sz_bt : h0.size ≤ bt := Nat.le_trans K0.1 (Nat.le_of_eq gz2.symm)
  rw [← gz2] at A2 st2
  replace F_text_aa := F_text_aa.ext E2
  replace F_starts_aa := F_starts_aa.ext E2
  replace F_ends_aa := F_ends_aa.ext E2
  replace F_firstFields_aa := F_firstFields_aa.ext E2
  replace F_lines_aa := F_lines_aa.ext E2
  replace F_faults_aa := F_faults_aa.ext E2
  replace F_textUsed_aa := F_textUsed_aa.ext E2
  replace F_fields_aa := F_fields_aa.ext E2
  replace F_records_aa := F_records_aa.ext E2
  replace E_aa := E_aa.ext E2
  have Z2 := Nat.le_trans Z0 E2.1
  have K2 := K0.ext E2
  have T_bt : Txt Z h2 bt 4096 := Txt.new A2 rfl
  refine Go.step st2 ?_
  show Go _ _ _ _ _ _ _ (T2.setTop (mkF m 10 #[.val (.ref aa)] [(.ref bt), (.ref aa)]))
  obtain ⟨T3, h3, X3, e3, W3, st3⟩ := putF X2 hx hZ hown (host := "") (Or.inl (hw _ (List.mem_of_getElem? (i := 10) rfl))) Via.refl e2 F_text_aa E_aa (Or.inl (hw _ (List.mem_of_getElem? (i := 11) rfl))) (hw _ (List.mem_of_getElem? (i := 2) rfl)) (ty := (.array .char)) (by decide) rfl rfl (g := (mkF m 10 #[.val (.ref aa)] [(.ref bt), (.ref aa)])) rfl rfl (hb hby d1_10)
  replace F_starts_aa := F_starts_aa.other W3 (Or.inr (slot_ne (Or.inl (hw _ (List.mem_of_getElem? (i := 14) rfl))) (Or.inl (hw _ (List.mem_of_getElem? (i := 11) rfl))) (by decide) (t := (.array .int)) (t' := (.array .char)) (by decide) (by decide)))
  replace F_ends_aa := F_ends_aa.other W3 (Or.inr (slot_ne (Or.inl (hw _ (List.mem_of_getElem? (i := 16) rfl))) (Or.inl (hw _ (List.mem_of_getElem? (i := 11) rfl))) (by decide) (t := (.array .int)) (t' := (.array .char)) (by decide) (by decide)))
  replace F_firstFields_aa := F_firstFields_aa.other W3 (Or.inr (slot_ne (Or.inl (hw _ (List.mem_of_getElem? (i := 18) rfl))) (Or.inl (hw _ (List.mem_of_getElem? (i := 11) rfl))) (by decide) (t := (.array .int)) (t' := (.array .char)) (by decide) (by decide)))
  replace F_lines_aa := F_lines_aa.other W3 (Or.inr (slot_ne (Or.inl (hw _ (List.mem_of_getElem? (i := 20) rfl))) (Or.inl (hw _ (List.mem_of_getElem? (i := 11) rfl))) (by decide) (t := (.array .int)) (t' := (.array .char)) (by decide) (by decide)))
  replace F_faults_aa := F_faults_aa.other W3 (Or.inr (slot_ne (Or.inl (hw _ (List.mem_of_getElem? (i := 24) rfl))) (Or.inl (hw _ (List.mem_of_getElem? (i := 11) rfl))) (by decide) (t := (.array (.object "com/example/vestwright/vestwright/io/CsvFormatException"))) (t' := (.array .char)) (by decide) (by decide)))
  replace F_textUsed_aa := F_textUsed_aa.other W3 (Or.inr (slot_ne (Or.inl (hw _ (List.mem_of_getElem? (i := 44) rfl))) (Or.inl (hw _ (List.mem_of_getElem? (i := 11) rfl))) (by decide) (t := .int) (t' := (.array .char)) (by decide) (by decide)))
  replace F_fields_aa := F_fields_aa.other W3 (Or.inr (slot_ne (Or.inl (hw _ (List.mem_of_getElem? (i := 33) rfl))) (Or.inl (hw _ (List.mem_of_getElem? (i := 11) rfl))) (by decide) (t := .int) (t' := (.array .char)) (by decide) (by decide)))
  replace F_records_aa := F_records_aa.other W3 (Or.inr (slot_ne (Or.inl (hw _ (List.mem_of_getElem? (i := 31) rfl))) (Or.inl (hw _ (List.mem_of_getElem? (i := 11) rfl))) (by decide) (t := .int) (t' := (.array .char)) (by decide) (by decide)))
  replace E_aa := E_aa.wr W3
  replace T_bt := T_bt.other W3 (Ne.symm ne_aa_bt)
  have Z3 := Nat.le_trans Z2 (Keep.of_wr W3).1
  have N3 := Fr.snoc X3 N0 g_aa
  have K3 := K2.wr W3 (Or.inl (List.mem_of_getElem? (i := 0) rfl))
  replace F_text_aa := F_text_aa.same W3
  refine Go.step st3 ?_
  show Go _ _ _ _ _ _ _ (T3.setTop (mkF m 13 #[.val (.ref aa)] []))
  refine Go.step (fun t k => XS.aloadN X3.here hx rfl (hb hby d1_13) rfl rfl k) ?_
  show Go _ _ _ _ _ _ _ (T3.setTop (mkF m 14 #[.val (.ref aa)] [(.ref aa)]))
  refine Go.step (fun t k => XS.sipush X3.here hx rfl (hb hby d1_14) k) ?_
  show Go _ _ _ _ _ _ _ (T3.setTop (mkF m 17 #[.val (.ref aa)] [(.int (256 : Int32)), (.ref aa)]))
  obtain ⟨T4, h4, k4, X4, e4, E4, A4, st4⟩ := newP X3 hx hZ (hw _ (List.mem_of_getElem? (i := 12) rfl)) e3 (g := (mkF m 17 #[.val (.ref aa)] [(.int (256 : Int32)), (.ref aa)])) rfl (hb hby d1_17) rfl (by decide) (cap := 256) (by decide) (by decide) (by decide) (by decide)
  obtain ⟨bs, gz4⟩ : ∃ z, z = h3.size := ⟨_, rfl⟩
  have ne_aa_bs : aa ≠ bs := Nat.ne_of_lt (Nat.lt_of_lt_of_le F_text_aa.lt (Nat.le_of_eq gz4.symm))
  have ne_bt_bs : bt ≠ bs := Nat.ne_of_lt (Nat.lt_of_lt_of_le T_bt.lt (Nat.le_of_eq gz4.symm))
  have g_bs : n0 ≤ bs := Nat.le_trans Z3 (Nat.le_of_eq gz4.symm)
  have sz_bs : h0.size ≤ bs := Nat.le_trans K3.1 (Nat.le_of_eq gz4.symm)
  rw [← gz4] at A4 st4
  replace F_text_aa := F_text_aa.ext E4
  replace F_starts_aa := F_starts_aa.ext E4
  replace F_ends_aa := F_ends_aa.ext E4
  replace F_firstFields_aa := F_firstFields_aa.ext E4
  replace F_lines_aa := F_lines_aa.ext E4
  replace F_faults_aa := F_faults_aa.ext E4
  replace F_textUsed_aa := F_textUsed_aa.ext E4
  replace F_fields_aa := F_fields_aa.ext E4
  replace F_records_aa := F_records_aa.ext E4
  replace E_aa := E_aa.ext E4
  replace T_bt := T_bt.ext E4
  have Z4 := Nat.le_trans Z3 E4.1
  have K4 := K3.ext E4
  have A_bs : AryI Z h4 bs .int 256 (fun _ => (0 : Int32)) := Ary.new A4 rfl
  refine Go.step st4 ?_
  show Go _ _ _ _ _ _ _ (T4.setTop (mkF m 19 #[.val (.ref aa)] [(.ref bs), (.ref aa)]))
  obtain ⟨T5, h5, X5, e5, W5, st5⟩ := putF X4 hx hZ hown (host := "") (Or.inl (hw _ (List.mem_of_getElem? (i := 13) rfl))) Via.refl e4 F_starts_aa E_aa (Or.inl (hw _ (List.mem_of_getElem? (i := 14) rfl))) (hw _ (List.mem_of_getElem? (i := 2) rfl)) (ty := (.array .int)) (by decide) rfl rfl (g := (mkF m 19 #[.val (.ref aa)] [(.ref bs), (.ref aa)])) rfl rfl (hb hby d1_19)
  replace F_text_aa := F_text_aa.other W5 (Or.inr (slot_ne (Or.inl (hw _ (List.mem_of_getElem? (i := 11) rfl))) (Or.inl (hw _ (List.mem_of_getElem? (i := 14) rfl))) (by decide) (t := (.array .char)) (t' := (.array .int)) (by decide) (by decide)))
  replace F_ends_aa := F_ends_aa.other W5 (Or.inr (slot_ne (Or.inl (hw _ (List.mem_of_getElem? (i := 16) rfl))) (Or.inl (hw _ (List.mem_of_getElem? (i := 14) rfl))) (by decide) (t := (.array .int)) (t' := (.array .int)) (by decide) (by decide)))
  replace F_firstFields_aa := F_firstFields_aa.other W5 (Or.inr (slot_ne (Or.inl (hw _ (List.mem_of_getElem? (i := 18) rfl))) (Or.inl (hw _ (List.mem_of_getElem? (i := 14) rfl))) (by decide) (t := (.array .int)) (t' := (.array .int)) (by decide) (by decide)))
  replace F_lines_aa := F_lines_aa.other W5 (Or.inr (slot_ne (Or.inl (hw _ (List.mem_of_getElem? (i := 20) rfl))) (Or.inl (hw _ (List.mem_of_getElem? (i := 14) rfl))) (by decide) (t := (.array .int)) (t' := (.array .int)) (by decide) (by decide)))
  replace F_faults_aa := F_faults_aa.other W5 (Or.inr (slot_ne (Or.inl (hw _ (List.mem_of_getElem? (i := 24) rfl))) (Or.inl (hw _ (List.mem_of_getElem? (i := 14) rfl))) (by decide) (t := (.array (.object "com/example/vestwright/vestwright/io/CsvFormatException"))) (t' := (.array .int)) (by decide) (by decide)))
  replace F_textUsed_aa := F_textUsed_aa.other W5 (Or.inr (slot_ne (Or.inl (hw _ (List.mem_of_getElem? (i := 44) rfl))) (Or.inl (hw _ (List.mem_of_getElem? (i := 14) rfl))) (by decide) (t := .int) (t' := (.array .int)) (by decide) (by decide)))
  replace F_fields_aa := F_fields_aa.other W5 (Or.inr (slot_ne (Or.inl (hw _ (List.mem_of_getElem? (i := 33) rfl))) (Or.inl (hw _ (List.mem_of_getElem? (i := 14) rfl))) (by decide) (t := .int) (t' := (.array .int)) (by decide) (by decide)))
  replace F_records_aa := F_records_aa.other W5 (Or.inr (slot_ne (Or.inl (hw _ (List.mem_of_getElem? (i := 31) rfl))) (Or.inl (hw _ (List.mem_of_getElem? (i := 14) rfl))) (by decide) (t := .int) (t' := (.array .int)) (by decide) (by decide)))
  replace E_aa := E_aa.wr W5
  replace T_bt := T_bt.other W5 (Ne.symm ne_aa_bt)
  replace A_bs := A_bs.other W5 (Ne.symm ne_aa_bs)
  have Z5 := Nat.le_trans Z4 (Keep.of_wr W5).1
  have N5 := Fr.snoc X5 N3 g_aa
  have K5 := K4.wr W5 (Or.inl (List.mem_of_getElem? (i := 0) rfl))
  replace F_starts_aa := F_starts_aa.same W5
  refine Go.step st5 ?_
  show Go _ _ _ _ _ _ _ (T5.setTop (mkF m 22 #[.val (.ref aa)] []))
  refine Go.step (fun t k => XS.aloadN X5.here hx rfl (hb hby d1_22) rfl rfl k) ?_
  show Go _ _ _ _ _ _ _ (T5.setTop (mkF m 23 #[.val (.ref aa)] [(.ref aa)]))
  refine Go.step (fun t k => XS.sipush X5.here hx rfl (hb hby d1_23) k) ?_
  show Go _ _ _ _ _ _ _ (T5.setTop (mkF m 26 #[.val (.ref aa)] [(.int (256 : Int32)), (.ref aa)]))
  obtain ⟨T6, h6, k6, X6, e6, E6, A6, st6⟩ := newP X5 hx hZ (hw _ (List.mem_of_getElem? (i := 12) rfl)) e5 (g := (mkF m 26 #[.val (.ref aa)] [(.int (256 : Int32)), (.ref aa)])) rfl (hb hby d1_26) rfl (by decide) (cap := 256) (by decide) (by decide) (by decide) (by decide)
  obtain ⟨be, gz6⟩ : ∃ z, z = h5.size := ⟨_, rfl⟩
  have ne_aa_be : aa ≠ be := Nat.ne_of_lt (Nat.lt_of_lt_of_le F_text_aa.lt (Nat.le_of_eq gz6.symm))
  have ne_bt_be : bt ≠ be := Nat.ne_of_lt (Nat.lt_of_lt_of_le T_bt.lt (Nat.le_of_eq gz6.symm))
  have ne_bs_be : bs ≠ be := Nat.ne_of_lt (Nat.lt_of_lt_of_le A_bs.lt (Nat.le_of_eq gz6.symm))
  have g_be : n0 ≤ be := Nat.le_trans Z5 (Nat.le_of_eq gz6.symm)
  have sz_be : h0.size ≤ be := Nat.le_trans K5.1 (Nat.le_of_eq gz6.symm)
  rw [← gz6] at A6 st6
  replace F_text_aa := F_text_aa.ext E6
  replace F_starts_aa := F_starts_aa.ext E6
  replace F_ends_aa := F_ends_aa.ext E6
  replace F_firstFields_aa := F_firstFields_aa.ext E6
  replace F_lines_aa := F_lines_aa.ext E6
  replace F_faults_aa := F_faults_aa.ext E6
  replace F_textUsed_aa := F_textUsed_aa.ext E6
  replace F_fields_aa := F_fields_aa.ext E6
  replace F_records_aa := F_records_aa.ext E6
  replace E_aa := E_aa.ext E6
  replace T_bt := T_bt.ext E6
  replace A_bs := A_bs.ext E6
  have Z6 := Nat.le_trans Z5 E6.1
  have K6 := K5.ext E6
  have A_be : AryI Z h6 be .int 256 (fun _ => (0 : Int32)) := Ary.new A6 rfl
  refine Go.step st6 ?_
  show Go _ _ _ _ _ _ _ (T6.setTop (mkF m 28 #[.val (.ref aa)] [(.ref be), (.ref aa)]))
  obtain ⟨T7, h7, X7, e7, W7, st7⟩ := putF X6 hx hZ hown (host := "") (Or.inl (hw _ (List.mem_of_getElem? (i := 15) rfl))) Via.refl e6 F_ends_aa E_aa (Or.inl (hw _ (List.mem_of_getElem? (i := 16) rfl))) (hw _ (List.mem_of_getElem? (i := 2) rfl)) (ty := (.array .int)) (by decide) rfl rfl (g := (mkF m 28 #[.val (.ref aa)] [(.ref be), (.ref aa)])) rfl rfl (hb hby d1_28)
  replace F_text_aa := F_text_aa.other W7 (Or.inr (slot_ne (Or.inl (hw _ (List.mem_of_getElem? (i := 11) rfl))) (Or.inl (hw _ (List.mem_of_getElem? (i := 16) rfl))) (by decide) (t := (.array .char)) (t' := (.array .int)) (by decide) (by decide)))
  replace F_starts_aa := F_starts_aa.other W7 (Or.inr (slot_ne (Or.inl (hw _ (List.mem_of_getElem? (i := 14) rfl))) (Or.inl (hw _ (List.mem_of_getElem? (i := 16) rfl))) (by decide) (t := (.array .int)) (t' := (.array .int)) (by decide) (by decide)))
  replace F_firstFields_aa := F_firstFields_aa.other W7 (Or.inr (slot_ne (Or.inl (hw _ (List.mem_of_getElem? (i := 18) rfl))) (Or.inl (hw _ (List.mem_of_getElem? (i := 16) rfl))) (by decide) (t := (.array .int)) (t' := (.array .int)) (by decide) (by decide)))
  replace F_lines_aa := F_lines_aa.other W7 (Or.inr (slot_ne (Or.inl (hw _ (List.mem_of_getElem? (i := 20) rfl))) (Or.inl (hw _ (List.mem_of_getElem? (i := 16) rfl))) (by decide) (t := (.array .int)) (t' := (.array .int)) (by decide) (by decide)))
  replace F_faults_aa := F_faults_aa.other W7 (Or.inr (slot_ne (Or.inl (hw _ (List.mem_of_getElem? (i := 24) rfl))) (Or.inl (hw _ (List.mem_of_getElem? (i := 16) rfl))) (by decide) (t := (.array (.object "com/example/vestwright/vestwright/io/CsvFormatException"))) (t' := (.array .int)) (by decide) (by decide)))
  replace F_textUsed_aa := F_textUsed_aa.other W7 (Or.inr (slot_ne (Or.inl (hw _ (List.mem_of_getElem? (i := 44) rfl))) (Or.inl (hw _ (List.mem_of_getElem? (i := 16) rfl))) (by decide) (t := .int) (t' := (.array .int)) (by decide) (by decide)))
  replace F_fields_aa := F_fields_aa.other W7 (Or.inr (slot_ne (Or.inl (hw _ (List.mem_of_getElem? (i := 33) rfl))) (Or.inl (hw _ (List.mem_of_getElem? (i := 16) rfl))) (by decide) (t := .int) (t' := (.array .int)) (by decide) (by decide)))
  replace F_records_aa := F_records_aa.other W7 (Or.inr (slot_ne (Or.inl (hw _ (List.mem_of_getElem? (i := 31) rfl))) (Or.inl (hw _ (List.mem_of_getElem? (i := 16) rfl))) (by decide) (t := .int) (t' := (.array .int)) (by decide) (by decide)))
  replace E_aa := E_aa.wr W7
  replace T_bt := T_bt.other W7 (Ne.symm ne_aa_bt)
  replace A_bs := A_bs.other W7 (Ne.symm ne_aa_bs)
  replace A_be := A_be.other W7 (Ne.symm ne_aa_be)
  have Z7 := Nat.le_trans Z6 (Keep.of_wr W7).1
  have N7 := Fr.snoc X7 N5 g_aa
  have K7 := K6.wr W7 (Or.inl (List.mem_of_getElem? (i := 0) rfl))
  replace F_ends_aa := F_ends_aa.same W7
  refine Go.step st7 ?_
  show Go _ _ _ _ _ _ _ (T7.setTop (mkF m 31 #[.val (.ref aa)] []))
  refine Go.step (fun t k => XS.aloadN X7.here hx rfl (hb hby d1_31) rfl rfl k) ?_
  show Go _ _ _ _ _ _ _ (T7.setTop (mkF m 32 #[.val (.ref aa)] [(.ref aa)]))
  refine Go.step (fun t k => XS.bipush X7.here hx rfl (hb hby d1_32) k) ?_
  show Go _ _ _ _ _ _ _ (T7.setTop (mkF m 34 #[.val (.ref aa)] [(.int (64 : Int32)), (.ref aa)]))
  obtain ⟨T8, h8, k8, X8, e8, E8, A8, st8⟩ := newP X7 hx hZ (hw _ (List.mem_of_getElem? (i := 12) rfl)) e7 (g := (mkF m 34 #[.val (.ref aa)] [(.int (64 : Int32)), (.ref aa)])) rfl (hb hby d1_34) rfl (by decide) (cap := 64) (by decide) (by decide) (by decide) (by decide)
  obtain ⟨bf, gz8⟩ : ∃ z, z = h7.size := ⟨_, rfl⟩
  have ne_aa_bf : aa ≠ bf := Nat.ne_of_lt (Nat.lt_of_lt_of_le F_text_aa.lt (Nat.le_of_eq gz8.symm))
  have ne_bt_bf : bt ≠ bf := Nat.ne_of_lt (Nat.lt_of_lt_of_le T_bt.lt (Nat.le_of_eq gz8.symm))
  have ne_bs_bf : bs ≠ bf := Nat.ne_of_lt (Nat.lt_of_lt_of_le A_bs.lt (Nat.le_of_eq gz8.symm))
  have ne_be_bf : be ≠ bf := Nat.ne_of_lt (Nat.lt_of_lt_of_le A_be.lt (Nat.le_of_eq gz8.symm))
  have g_bf : n0 ≤ bf := Nat.le_trans Z7 (Nat.le_of_eq gz8.symm)
  have sz_bf : h0.size ≤ bf := Nat.le_trans K7.1 (Nat.le_of_eq gz8.symm)
  rw [← gz8] at A8 st8
  replace F_text_aa := F_text_aa.ext E8
  replace F_starts_aa := F_starts_aa.ext E8
  replace F_ends_aa := F_ends_aa.ext E8
  replace F_firstFields_aa := F_firstFields_aa.ext E8
  replace F_lines_aa := F_lines_aa.ext E8
  replace F_faults_aa := F_faults_aa.ext E8
  replace F_textUsed_aa := F_textUsed_aa.ext E8
  replace F_fields_aa := F_fields_aa.ext E8
  replace F_records_aa := F_records_aa.ext E8
  replace E_aa := E_aa.ext E8
  replace T_bt := T_bt.ext E8
  replace A_bs := A_bs.ext E8
  replace A_be := A_be.ext E8
  have Z8 := Nat.le_trans Z7 E8.1
  have K8 := K7.ext E8
  have A_bf : AryI Z h8 bf .int 64 (fun _ => (0 : Int32)) := Ary.new A8 rfl
  refine Go.step st8 ?_
  show Go _ _ _ _ _ _ _ (T8.setTop (mkF m 36 #[.val (.ref aa)] [(.ref bf), (.ref aa)]))
  obtain ⟨T9, h9, X9, e9, W9, st9⟩ := putF X8 hx hZ hown (host := "") (Or.inl (hw _ (List.mem_of_getElem? (i := 17) rfl))) Via.refl e8 F_firstFields_aa E_aa (Or.inl (hw _ (List.mem_of_getElem? (i := 18) rfl))) (hw _ (List.mem_of_getElem? (i := 2) rfl)) (ty := (.array .int)) (by decide) rfl rfl (g := (mkF m 36 #[.val (.ref aa)] [(.ref bf), (.ref aa)])) rfl rfl (hb hby d1_36)
  replace F_text_aa := F_text_aa.other W9 (Or.inr (slot_ne (Or.inl (hw _ (List.mem_of_getElem? (i := 11) rfl))) (Or.inl (hw _ (List.mem_of_getElem? (i := 18) rfl))) (by decide) (t := (.array .char)) (t' := (.array .int)) (by decide) (by decide)))
  replace F_starts_aa := F_starts_aa.other W9 (Or.inr (slot_ne (Or.inl (hw _ (List.mem_of_getElem? (i := 14) rfl))) (Or.inl (hw _ (List.mem_of_getElem? (i := 18) rfl))) (by decide) (t := (.array .int)) (t' := (.array .int)) (by decide) (by decide)))
  replace F_ends_aa := F_ends_aa.other W9 (Or.inr (slot_ne (Or.inl (hw _ (List.mem_of_getElem? (i := 16) rfl))) (Or.inl (hw _ (List.mem_of_getElem? (i := 18) rfl))) (by decide) (t := (.array .int)) (t' := (.array .int)) (by decide) (by decide)))
  replace F_lines_aa := F_lines_aa.other W9 (Or.inr (slot_ne (Or.inl (hw _ (List.mem_of_getElem? (i := 20) rfl))) (Or.inl (hw _ (List.mem_of_getElem? (i := 18) rfl))) (by decide) (t := (.array .int)) (t' := (.array .int)) (by decide) (by decide)))
  replace F_faults_aa := F_faults_aa.other W9 (Or.inr (slot_ne (Or.inl (hw _ (List.mem_of_getElem? (i := 24) rfl))) (Or.inl (hw _ (List.mem_of_getElem? (i := 18) rfl))) (by decide) (t := (.array (.object "com/example/vestwright/vestwright/io/CsvFormatException"))) (t' := (.array .int)) (by decide) (by decide)))
  replace F_textUsed_aa := F_textUsed_aa.other W9 (Or.inr (slot_ne (Or.inl (hw _ (List.mem_of_getElem? (i := 44) rfl))) (Or.inl (hw _ (List.mem_of_getElem? (i := 18) rfl))) (by decide) (t := .int) (t' := (.array .int)) (by decide) (by decide)))
  replace F_fields_aa := F_fields_aa.other W9 (Or.inr (slot_ne (Or.inl (hw _ (List.mem_of_getElem? (i := 33) rfl))) (Or.inl (hw _ (List.mem_of_getElem? (i := 18) rfl))) (by decide) (t := .int) (t' := (.array .int)) (by decide) (by decide)))
  replace F_records_aa := F_records_aa.other W9 (Or.inr (slot_ne (Or.inl (hw _ (List.mem_of_getElem? (i := 31) rfl))) (Or.inl (hw _ (List.mem_of_getElem? (i := 18) rfl))) (by decide) (t := .int) (t' := (.array .int)) (by decide) (by decide)))
  replace E_aa := E_aa.wr W9
  replace T_bt := T_bt.other W9 (Ne.symm ne_aa_bt)
  replace A_bs := A_bs.other W9 (Ne.symm ne_aa_bs)
  replace A_be := A_be.other W9 (Ne.symm ne_aa_be)
  replace A_bf := A_bf.other W9 (Ne.symm ne_aa_bf)
  have Z9 := Nat.le_trans Z8 (Keep.of_wr W9).1
  have N9 := Fr.snoc X9 N7 g_aa
  have K9 := K8.wr W9 (Or.inl (List.mem_of_getElem? (i := 0) rfl))
  replace F_firstFields_aa := F_firstFields_aa.same W9
  refine Go.step st9 ?_
  show Go _ _ _ _ _ _ _ (T9.setTop (mkF m 39 #[.val (.ref aa)] []))
  refine Go.step (fun t k => XS.aloadN X9.here hx rfl (hb hby d1_39) rfl rfl k) ?_
  show Go _ _ _ _ _ _ _ (T9.setTop (mkF m 40 #[.val (.ref aa)] [(.ref aa)]))
  refine Go.step (fun t k => XS.bipush X9.here hx rfl (hb hby d1_40) k) ?_
  show Go _ _ _ _ _ _ _ (T9.setTop (mkF m 42 #[.val (.ref aa)] [(.int (64 : Int32)), (.ref aa)]))
  obtain ⟨T10, h10, k10, X10, e10, E10, A10, st10⟩ := newP X9 hx hZ (hw _ (List.mem_of_getElem? (i := 12) rfl)) e9 (g := (mkF m 42 #[.val (.ref aa)] [(.int (64 : Int32)), (.ref aa)])) rfl (hb hby d1_42) rfl (by decide) (cap := 64) (by decide) (by decide) (by decide) (by decide)
  obtain ⟨bn, gz10⟩ : ∃ z, z = h9.size := ⟨_, rfl⟩
  have ne_aa_bn : aa ≠ bn := Nat.ne_of_lt (Nat.lt_of_lt_of_le F_text_aa.lt (Nat.le_of_eq gz10.symm))
  have ne_bt_bn : bt ≠ bn := Nat.ne_of_lt (Nat.lt_of_lt_of_le T_bt.lt (Nat.le_of_eq gz10.symm))
  have ne_bs_bn : bs ≠ bn := Nat.ne_of_lt (Nat.lt_of_lt_of_le A_bs.lt (Nat.le_of_eq gz10.symm))
  have ne_be_bn : be ≠ bn := Nat.ne_of_lt (Nat.lt_of_lt_of_le A_be.lt (Nat.le_of_eq gz10.symm))
  have ne_bf_bn : bf ≠ bn := Nat.ne_of_lt (Nat.lt_of_lt_of_le A_bf.lt (Nat.le_of_eq gz10.symm))
  have g_bn : n0 ≤ bn := Nat.le_trans Z9 (Nat.le_of_eq gz10.symm)
  have sz_bn : h0.size ≤ bn := Nat.le_trans K9.1 (Nat.le_of_eq gz10.symm)
  rw [← gz10] at A10 st10
  replace F_text_aa := F_text_aa.ext E10
  replace F_starts_aa := F_starts_aa.ext E10
  replace F_ends_aa := F_ends_aa.ext E10
  replace F_firstFields_aa := F_firstFields_aa.ext E10
  replace F_lines_aa := F_lines_aa.ext E10
  replace F_faults_aa := F_faults_aa.ext E10
  replace F_textUsed_aa := F_textUsed_aa.ext E10
  replace F_fields_aa := F_fields_aa.ext E10
  replace F_records_aa := F_records_aa.ext E10
  replace E_aa := E_aa.ext E10
  replace T_bt := T_bt.ext E10
  replace A_bs := A_bs.ext E10
  replace A_be := A_be.ext E10
  replace A_bf := A_bf.ext E10
  have Z10 := Nat.le_trans Z9 E10.1
  have K10 := K9.ext E10
  have A_bn : AryI Z h10 bn .int 64 (fun _ => (0 : Int32)) := Ary.new A10 rfl
  refine Go.step st10 ?_
  show Go _ _ _ _ _ _ _ (T10.setTop (mkF m 44 #[.val (.ref aa)] [(.ref bn), (.ref aa)]))
  obtain ⟨T11, h11, X11, e11, W11, st11⟩ := putF X10 hx hZ hown (host := "") (Or.inl (hw _ (List.mem_of_getElem? (i := 19) rfl))) Via.refl e10 F_lines_aa E_aa (Or.inl (hw _ (List.mem_of_getElem? (i := 20) rfl))) (hw _ (List.mem_of_getElem? (i := 2) rfl)) (ty := (.array .int)) (by decide) rfl rfl (g := (mkF m 44 #[.val (.ref aa)] [(.ref bn), (.ref aa)])) rfl rfl (hb hby d1_44)
  replace F_text_aa := F_text_aa.other W11 (Or.inr (slot_ne (Or.inl (hw _ (List.mem_of_getElem? (i := 11) rfl))) (Or.inl (hw _ (List.mem_of_getElem? (i := 20) rfl))) (by decide) (t := (.array .char)) (t' := (.array .int)) (by decide) (by decide)))
  replace F_starts_aa := F_starts_aa.other W11 (Or.inr (slot_ne (Or.inl (hw _ (List.mem_of_getElem? (i := 14) rfl))) (Or.inl (hw _ (List.mem_of_getElem? (i := 20) rfl))) (by decide) (t := (.array .int)) (t' := (.array .int)) (by decide) (by decide)))
  replace F_ends_aa := F_ends_aa.other W11 (Or.inr (slot_ne (Or.inl (hw _ (List.mem_of_getElem? (i := 16) rfl))) (Or.inl (hw _ (List.mem_of_getElem? (i := 20) rfl))) (by decide) (t := (.array .int)) (t' := (.array .int)) (by decide) (by decide)))
  replace F_firstFields_aa := F_firstFields_aa.other W11 (Or.inr (slot_ne (Or.inl (hw _ (List.mem_of_getElem? (i := 18) rfl))) (Or.inl (hw _ (List.mem_of_getElem? (i := 20) rfl))) (by decide) (t := (.array .int)) (t' := (.array .int)) (by decide) (by decide)))
  replace F_faults_aa := F_faults_aa.other W11 (Or.inr (slot_ne (Or.inl (hw _ (List.mem_of_getElem? (i := 24) rfl))) (Or.inl (hw _ (List.mem_of_getElem? (i := 20) rfl))) (by decide) (t := (.array (.object "com/example/vestwright/vestwright/io/CsvFormatException"))) (t' := (.array .int)) (by decide) (by decide)))
  replace F_textUsed_aa := F_textUsed_aa.other W11 (Or.inr (slot_ne (Or.inl (hw _ (List.mem_of_getElem? (i := 44) rfl))) (Or.inl (hw _ (List.mem_of_getElem? (i := 20) rfl))) (by decide) (t := .int) (t' := (.array .int)) (by decide) (by decide)))
  replace F_fields_aa := F_fields_aa.other W11 (Or.inr (slot_ne (Or.inl (hw _ (List.mem_of_getElem? (i := 33) rfl))) (Or.inl (hw _ (List.mem_of_getElem? (i := 20) rfl))) (by decide) (t := .int) (t' := (.array .int)) (by decide) (by decide)))
  replace F_records_aa := F_records_aa.other W11 (Or.inr (slot_ne (Or.inl (hw _ (List.mem_of_getElem? (i := 31) rfl))) (Or.inl (hw _ (List.mem_of_getElem? (i := 20) rfl))) (by decide) (t := .int) (t' := (.array .int)) (by decide) (by decide)))
  replace E_aa := E_aa.wr W11
  replace T_bt := T_bt.other W11 (Ne.symm ne_aa_bt)
  replace A_bs := A_bs.other W11 (Ne.symm ne_aa_bs)
  replace A_be := A_be.other W11 (Ne.symm ne_aa_be)
  replace A_bf := A_bf.other W11 (Ne.symm ne_aa_bf)
  replace A_bn := A_bn.other W11 (Ne.symm ne_aa_bn)
  have Z11 := Nat.le_trans Z10 (Keep.of_wr W11).1
  have N11 := Fr.snoc X11 N9 g_aa
  have K11 := K10.wr W11 (Or.inl (List.mem_of_getElem? (i := 0) rfl))
  replace F_lines_aa := F_lines_aa.same W11
  refine Go.step st11 ?_
  show Go _ _ _ _ _ _ _ (T11.setTop (mkF m 47 #[.val (.ref aa)] []))
  refine Go.step (fun t k => XS.aloadN X11.here hx rfl (hb hby d1_47) rfl rfl k) ?_
  show Go _ _ _ _ _ _ _ (T11.setTop (mkF m 48 #[.val (.ref aa)] [(.ref aa)]))
  refine Go.step (fun t k => XS.bipush X11.here hx rfl (hb hby d1_48) k) ?_
  show Go _ _ _ _ _ _ _ (T11.setTop (mkF m 50 #[.val (.ref aa)] [(.int (64 : Int32)), (.ref aa)]))
  obtain ⟨T12, h12, k12, X12, e12, E12, A12, O12, st12⟩ := newR X11 hx hZ hown (hw _ (List.mem_of_getElem? (i := 21) rfl)) (hw _ (List.mem_of_getElem? (i := 22) rfl)) e11 (g := (mkF m 50 #[.val (.ref aa)] [(.int (64 : Int32)), (.ref aa)])) rfl (hb hby d1_50) rfl (by decide) (cap := 64) (by decide) (by decide) (by decide) (by decide)
  obtain ⟨bx, gz12⟩ : ∃ z, z = h11.size := ⟨_, rfl⟩
  have ne_aa_bx : aa ≠ bx := Nat.ne_of_lt (Nat.lt_of_lt_of_le F_text_aa.lt (Nat.le_of_eq gz12.symm))
  have ne_bt_bx : bt ≠ bx := Nat.ne_of_lt (Nat.lt_of_lt_of_le T_bt.lt (Nat.le_of_eq gz12.symm))
  have ne_bs_bx : bs ≠ bx := Nat.ne_of_lt (Nat.lt_of_lt_of_le A_bs.lt (Nat.le_of_eq gz12.symm))
  have ne_be_bx : be ≠ bx := Nat.ne_of_lt (Nat.lt_of_lt_of_le A_be.lt (Nat.le_of_eq gz12.symm))
  have ne_bf_bx : bf ≠ bx := Nat.ne_of_lt (Nat.lt_of_lt_of_le A_bf.lt (Nat.le_of_eq gz12.symm))
  have ne_bn_bx : bn ≠ bx := Nat.ne_of_lt (Nat.lt_of_lt_of_le A_bn.lt (Nat.le_of_eq gz12.symm))
  have g_bx : n0 ≤ bx := Nat.le_trans Z11 (Nat.le_of_eq gz12.symm)
  have sz_bx : h0.size ≤ bx := Nat.le_trans K11.1 (Nat.le_of_eq gz12.symm)
  rw [← gz12] at A12 st12
  replace F_text_aa := F_text_aa.ext E12
  replace F_starts_aa := F_starts_aa.ext E12
  replace F_ends_aa := F_ends_aa.ext E12
  replace F_firstFields_aa := F_firstFields_aa.ext E12
  replace F_lines_aa := F_lines_aa.ext E12
  replace F_faults_aa := F_faults_aa.ext E12
  replace F_textUsed_aa := F_textUsed_aa.ext E12
  replace F_fields_aa := F_fields_aa.ext E12
  replace F_records_aa := F_records_aa.ext E12
  replace E_aa := E_aa.ext E12
  replace T_bt := T_bt.ext E12
  replace A_bs := A_bs.ext E12
  replace A_be := A_be.ext E12
  replace A_bf := A_bf.ext E12
  replace A_bn := A_bn.ext E12
  have Z12 := Nat.le_trans Z11 E12.1
  have K12 := K11.ext E12
  have A_bx : Ary Z h12 bx (.object "com/example/vestwright/vestwright/io/CsvFormatException") 64 (fun _ => .null) := Ary.new A12 rfl
  refine Go.step st12 ?_
  show Go _ _ _ _ _ _ _ (T12.setTop (mkF m 53 #[.val (.ref aa)] [(.ref bx), (.ref aa)]))
  obtain ⟨T13, h13, X13, e13, W13, st13⟩ := putF X12 hx hZ hown (host := "") (Or.inl (hw _ (List.mem_of_getElem? (i := 23) rfl))) Via.refl e12 F_faults_aa E_aa (Or.inl (hw _ (List.mem_of_getElem? (i := 24) rfl))) (hw _ (List.mem_of_getElem? (i := 2) rfl)) (ty := (.array (.object "com/example/vestwright/vestwright/io/CsvFormatException"))) (by decide) rfl rfl (g := (mkF m 53 #[.val (.ref aa)] [(.ref bx), (.ref aa)])) rfl rfl (hb hby d1_53)
  replace F_text_aa := F_text_aa.other W13 (Or.inr (slot_ne (Or.inl (hw _ (List.mem_of_getElem? (i := 11) rfl))) (Or.inl (hw _ (List.mem_of_getElem? (i := 24) rfl))) (by decide) (t := (.array .char)) (t' := (.array (.object "com/example/vestwright/vestwright/io/CsvFormatException"))) (by decide) (by decide)))
  replace F_starts_aa := F_starts_aa.other W13 (Or.inr (slot_ne (Or.inl (hw _ (List.mem_of_getElem? (i := 14) rfl))) (Or.inl (hw _ (List.mem_of_getElem? (i := 24) rfl))) (by decide) (t := (.array .int)) (t' := (.array (.object "com/example/vestwright/vestwright/io/CsvFormatException"))) (by decide) (by decide)))
  replace F_ends_aa := F_ends_aa.other W13 (Or.inr (slot_ne (Or.inl (hw _ (List.mem_of_getElem? (i := 16) rfl))) (Or.inl (hw _ (List.mem_of_getElem? (i := 24) rfl))) (by decide) (t := (.array .int)) (t' := (.array (.object "com/example/vestwright/vestwright/io/CsvFormatException"))) (by decide) (by decide)))
  replace F_firstFields_aa := F_firstFields_aa.other W13 (Or.inr (slot_ne (Or.inl (hw _ (List.mem_of_getElem? (i := 18) rfl))) (Or.inl (hw _ (List.mem_of_getElem? (i := 24) rfl))) (by decide) (t := (.array .int)) (t' := (.array (.object "com/example/vestwright/vestwright/io/CsvFormatException"))) (by decide) (by decide)))
  replace F_lines_aa := F_lines_aa.other W13 (Or.inr (slot_ne (Or.inl (hw _ (List.mem_of_getElem? (i := 20) rfl))) (Or.inl (hw _ (List.mem_of_getElem? (i := 24) rfl))) (by decide) (t := (.array .int)) (t' := (.array (.object "com/example/vestwright/vestwright/io/CsvFormatException"))) (by decide) (by decide)))
  replace F_textUsed_aa := F_textUsed_aa.other W13 (Or.inr (slot_ne (Or.inl (hw _ (List.mem_of_getElem? (i := 44) rfl))) (Or.inl (hw _ (List.mem_of_getElem? (i := 24) rfl))) (by decide) (t := .int) (t' := (.array (.object "com/example/vestwright/vestwright/io/CsvFormatException"))) (by decide) (by decide)))
  replace F_fields_aa := F_fields_aa.other W13 (Or.inr (slot_ne (Or.inl (hw _ (List.mem_of_getElem? (i := 33) rfl))) (Or.inl (hw _ (List.mem_of_getElem? (i := 24) rfl))) (by decide) (t := .int) (t' := (.array (.object "com/example/vestwright/vestwright/io/CsvFormatException"))) (by decide) (by decide)))
  replace F_records_aa := F_records_aa.other W13 (Or.inr (slot_ne (Or.inl (hw _ (List.mem_of_getElem? (i := 31) rfl))) (Or.inl (hw _ (List.mem_of_getElem? (i := 24) rfl))) (by decide) (t := .int) (t' := (.array (.object "com/example/vestwright/vestwright/io/CsvFormatException"))) (by decide) (by decide)))
  replace E_aa := E_aa.wr W13
  replace T_bt := T_bt.other W13 (Ne.symm ne_aa_bt)
  replace A_bs := A_bs.other W13 (Ne.symm ne_aa_bs)
  replace A_be := A_be.other W13 (Ne.symm ne_aa_be)
  replace A_bf := A_bf.other W13 (Ne.symm ne_aa_bf)
  replace A_bn := A_bn.other W13 (Ne.symm ne_aa_bn)
  replace A_bx := A_bx.other W13 (Ne.symm ne_aa_bx)
  have Z13 := Nat.le_trans Z12 (Keep.of_wr W13).1
  have N13 := Fr.snoc X13 N11 g_aa
  have K13 := K12.wr W13 (Or.inl (List.mem_of_getElem? (i := 0) rfl))
  replace F_faults_aa := F_faults_aa.same W13
  refine Go.step st13 ?_
  show Go _ _ _ _ _ _ _ (T13.setTop (mkF m 56 #[.val (.ref aa)] []))
  refine Go.retV X13 Bd.notSynchronized hx Bd.returns (hb hby d1_56) (by decide) (by decide) ?_
  rw [e13]
  exact ⟨bt, bs, be, bf, bn, bx, rfl, N13, K13, F_text_aa, F_starts_aa, F_ends_aa, F_firstFields_aa, F_lines_aa, F_faults_aa, F_textUsed_aa, F_fields_aa, F_records_aa, T_bt, A_bs, A_be, A_bf, A_bn, sz_bt, sz_bs, sz_be, sz_bf, sz_bn, ne_bt_bs, ne_bt_be, ne_bt_bf, ne_bt_bn, ne_bs_be, ne_bs_bf, ne_bs_bn, ne_be_bf, ne_be_bn, ne_bf_bn, ne_aa_bt, ne_aa_bs, ne_aa_be, ne_aa_bf, ne_aa_bn⟩
theorem d3_0 : decode prog_63_method_3_code 0 = .ok (.aload_n 0, 1) := by decide +kernel
theorem d3_1 : decode prog_63_method_3_code 1 = .ok (.getfield 39, 3) := by decide +kernel
theorem d3_4 : decode prog_63_method_3_code 4 = .ok (.iconst 1, 1) := by decide +kernel
theorem d3_5 : decode prog_63_method_3_code 5 = .ok (.iadd, 1) := by decide +kernel
theorem d3_6 : decode prog_63_method_3_code 6 = .ok (.aload_n 0, 1) := by decide +kernel
theorem d3_7 : decode prog_63_method_3_code 7 = .ok (.getfield 20, 3) := by decide +kernel
theorem d3_10 : decode prog_63_method_3_code 10 = .ok (.arraylength, 1) := by decide +kernel
theorem d3_11 : decode prog_63_method_3_code 11 = .ok (.if_icmp .ne 57, 3) := by decide +kernel
theorem d3_68 : decode prog_63_method_3_code 68 = .ok (.aload_n 0, 1) := by decide +kernel
theorem d3_69 : decode prog_63_method_3_code 69 = .ok (.getfield 20, 3) := by decide +kernel
theorem d3_72 : decode prog_63_method_3_code 72 = .ok (.aload_n 0, 1) := by decide +kernel
theorem d3_73 : decode prog_63_method_3_code 73 = .ok (.getfield 39, 3) := by decide +kernel
theorem d3_76 : decode prog_63_method_3_code 76 = .ok (.aload_n 0, 1) := by decide +kernel
theorem d3_77 : decode prog_63_method_3_code 77 = .ok (.getfield 36, 3) := by decide +kernel
theorem d3_80 : decode prog_63_method_3_code 80 = .ok (.iastore, 1) := by decide +kernel
theorem d3_81 : decode prog_63_method_3_code 81 = .ok (.aload_n 0, 1) := by decide +kernel
theorem d3_82 : decode prog_63_method_3_code 82 = .ok (.getfield 23, 3) := by decide +kernel
theorem d3_85 : decode prog_63_method_3_code 85 = .ok (.aload_n 0, 1) := by decide +kernel
theorem d3_86 : decode prog_63_method_3_code 86 = .ok (.getfield 39, 3) := by decide +kernel
theorem d3_89 : decode prog_63_method_3_code 89 = .ok (.iload_n 1, 1) := by decide +kernel
theorem d3_90 : decode prog_63_method_3_code 90 = .ok (.iastore, 1) := by decide +kernel
theorem d3_91 : decode prog_63_method_3_code 91 = .ok (.return_, 1) := by decide +kernel
theorem pn_3 : plainName "com/example/vestwright/vestwright/io/Records" = true := by first | (simp [plainName, overriddenIn]; done) | decide +kernel
theorem ef_3 (m : MethodId) (x0 : Addr) (x1 : Int32) : entryFrame m #[(.ref x0), (.int x1)] 2 = mkF m 0 #[.val (.ref x0), .val (.int x1)] [] := by first | (simp [entryFrame, mkF, argsToLocals, Value.category]; done) | rfl
def Q3 (Z : State) (aa : Addr) (lv : Int32) (bt : Addr) (bs : Addr) (be : Addr) (bf : Addr) (bn : Addr) (bx : Addr) (tu : Int32) (fv : Int32) (rv : Int32) (kr : Nat) (gf : Nat → Int32) (gn_ : Nat → Int32) (h0 : Heap) (n0 : Nat) (v : Option Value) (h : Heap) (L : List Loc) : Prop := v = none ∧ Fr n0 L ∧ Keep h0 h [bf, bn] ∧ AryI Z h bf .int 64 (up gf kr fv) ∧ AryI Z h bn .int 64 (up gn_ kr lv)
set_option maxRecDepth 65536 in
set_option maxHeartbeats 40000000 in
theorem rm3 (l : Launch) (Z : State) (a0 : Array Value) (hw : ∀ d ∈ tables_1, d.before a0 Z = true) (ws : List Jvm.Cond) (aa : Addr) (lv : Int32) (bt : Addr) (bs : Addr) (be : Addr) (bf : Addr) (bn : Addr) (bx : Addr) (tu : Int32) (fv : Int32) (rv : Int32) (kr : Nat) (gf : Nat → Int32) (gn_ : Nat → Int32) (h0 : Heap) (n0 : Nat) (Z0 : n0 ≤ h0.size) (F_text_aa : Fld Z h0 aa "com/example/vestwright/vestwright/io/Records" "text" "[C" (.ref bt)) (F_starts_aa : Fld Z h0 aa "com/example/vestwright/vestwright/io/Records" "starts" "[I" (.ref bs)) (F_ends_aa : Fld Z h0 aa "com/example/vestwright/vestwright/io/Records" "ends" "[I" (.ref be)) (F_firstFields_aa : Fld Z h0 aa "com/example/vestwright/vestwright/io/Records" "firstFields" "[I" (.ref bf)) (F_lines_aa : Fld Z h0 aa "com/example/vestwright/vestwright/io/Records" "lines" "[I" (.ref bn)) (F_faults_aa : Fld Z h0 aa "com/example/vestwright/vestwright/io/Records" "faults" "[Lcom/example/vestwright/vestwright/io/CsvFormatException;" (.ref bx)) (F_textUsed_aa : Fld Z h0 aa "com/example/vestwright/vestwright/io/Records" "textUsed" "I" (.int tu)) (F_fields_aa : Fld Z h0 aa "com/example/vestwright/vestwright/io/Records" "fields" "I" (.int fv)) (F_records_aa : Fld Z h0 aa "com/example/vestwright/vestwright/io/Records" "records" "I" (.int rv)) (E_aa : Exa Z h0 aa "com/example/vestwright/vestwright/io/Records") (g_bf : n0 ≤ bf) (g_bn : n0 ≤ bn) (A_bf : AryI Z h0 bf .int 64 gf) (A_bn : AryI Z h0 bn .int 64 gn_) (ne_bf_bn : bf ≠ bn) (ne_aa_bf : aa ≠ bf) (ne_aa_bn : aa ≠ bn) (hrv : (rv.toInt = (kr : Int))) (hkr : (kr < 63)) :
    MetFree l (⟨"com/example/vestwright/vestwright/io/Records", "startRecord", "(I)V"⟩ : MethodName) (head1 (Jvm.Cond.code (⟨"com/example/vestwright/vestwright/io/Records", "startRecord", "(I)V"⟩ : MethodName) prog_63_method_3_code 2 none :: ws) ({ frames := 0, cells := 0, slots := 0, locals := 0 } : Room)) (fun a U => a = #[(.ref aa), (.int lv)] ∧ Z.Warmed39 U.vm ∧ U.heap = h0) (fun _ _ _ _ _ => True) (fun _ U o U' => ∃ v L, o = .returned v ∧ Q3 Z aa lv bt bs be bf bn bx tu fv rv kr gf gn_ h0 n0 v U'.heap L ∧ FrameEnd U o U' L ({ frames := 0, cells := 0, slots := 0, locals := 0 } : Room).cells ({ frames := 0, cells := 0, slots := 0, locals := 0 } : Room).slots) := by
  refine MetFree.of_bodySF (plainFor_of_name pn_3) hisR ?_
  intro p e s m args below meth c s₁ Bd hml0 hP hK
  obtain ⟨rfl, hZ, hh⟩ := hP
  have hx := Bd.exec
  have hby := Bd.bytes
  have hml : c.maxLocals = 2 := hml0
  have hown : s.vm.findClass "com/example/vestwright/vestwright/io/Records" = some m.cls := findClass_of_methodNamed Bd.named
  have hnm := (name_of_methodNamed Bd.named Bd.method).1
  have X0 : Stand p l e ({ frames := 0, cells := 0, slots := 0, locals := 0 } : Room) s m #[(.ref aa), (.int lv)] below meth c s₁ [] 0 0 := Stand.of_body Bd
  have e0 : s₁.heap = h0 := by rw [← hh, Bd.state]; rfl
  have N0 := Fr.nil n0
  have K0 := Keep.refl h0 ([bf, bn] : List Addr)
  show Go p e below s (Q3 Z aa lv bt bs be bf bn bx tu fv rv kr gf gn_ h0 n0) ({ frames := 0, cells := 0, slots := 0, locals := 0 } : Room).cells ({ frames := 0, cells := 0, slots := 0, locals := 0 } : Room).slots (s₁.setTop (entryFrame m #[(.ref aa), (.int lv)] 2))
  rw [ef_3]
  show Go _ _ _ _ _ _ _ (s₁.setTop (mkF m 0 #[.val (.ref aa), .val (.int lv)] []))
  refine Go.step (fun t k => XS.aloadN X0.here hx rfl (hb hby d3_0) rfl rfl k) ?_
  show Go _ _ _ _ _ _ _ (s₁.setTop (mkF m 1 #[.val (.ref aa), .val (.int lv)] [(.ref aa)]))
  obtain ⟨T1, X1, e1, st1⟩ := getF X0 hx hZ hown (host := "") (Or.inl (hw _ (List.mem_of_getElem? (i := 30) rfl))) Via.refl e0 F_records_aa (g := (mkF m 1 #[.val (.ref aa), .val (.int lv)] [(.ref aa)])) rfl rfl (hb hby d3_1)
  refine Go.step st1 ?_
  show Go _ _ _ _ _ _ _ (T1.setTop (mkF m 4 #[.val (.ref aa), .val (.int lv)] [(.int rv)]))
  refine Go.step (fun t k => XS.iconst X1.here hx rfl (hb hby d3_4) k) ?_
  show Go _ _ _ _ _ _ _ (T1.setTop (mkF m 5 #[.val (.ref aa), .val (.int lv)] [(.int (1 : Int32)), (.int rv)]))
  refine Go.step (fun t k => XS.iadd X1.here hx rfl (hb hby d3_5) rfl k) ?_
  show Go _ _ _ _ _ _ _ (T1.setTop (mkF m 6 #[.val (.ref aa), .val (.int lv)] [(.int (rv + (1 : Int32)))]))
  refine Go.step (fun t k => XS.aloadN X1.here hx rfl (hb hby d3_6) rfl rfl k) ?_
  show Go _ _ _ _ _ _ _ (T1.setTop (mkF m 7 #[.val (.ref aa), .val (.int lv)] [(.ref aa), (.int (rv + (1 : Int32)))]))
  obtain ⟨T2, X2, e2, st2⟩ := getF X1 hx hZ hown (host := "") (Or.inl (hw _ (List.mem_of_getElem? (i := 17) rfl))) Via.refl e1 F_firstFields_aa (g := (mkF m 7 #[.val (.ref aa), .val (.int lv)] [(.ref aa), (.int (rv + (1 : Int32)))])) rfl rfl (hb hby d3_7)
  refine Go.step st2 ?_
  show Go _ _ _ _ _ _ _ (T2.setTop (mkF m 10 #[.val (.ref aa), .val (.int lv)] [(.ref bf), (.int (rv + (1 : Int32)))]))
  refine Go.step (own_len X2 hx hZ e2 A_bf (z := (64 : Int32)) rfl (f := (mkF m 10 #[.val (.ref aa), .val (.int lv)] [(.ref bf), (.int (rv + (1 : Int32)))])) rfl rfl (hb hby d3_10)) ?_
  show Go _ _ _ _ _ _ _ (T2.setTop (mkF m 11 #[.val (.ref aa), .val (.int lv)] [(.int (64 : Int32)), (.int (rv + (1 : Int32)))]))
  refine Go.step (fun t k => XS.icmpYes X2.here hx rfl (pc0 := 11) (pc' := 68) rfl (hb hby d3_11) rfl (feq (own_neq_ (j := 64) (own_inc hrv (by omega)) rfl (by omega) : ¬ (rv + (1 : Int32)) = (64 : Int32))).2 (by decide) (by decide) k) ?_
  show Go _ _ _ _ _ _ _ (T2.setTop (mkF m 68 #[.val (.ref aa), .val (.int lv)] []))
  refine Go.step (fun t k => XS.aloadN X2.here hx rfl (hb hby d3_68) rfl rfl k) ?_
  show Go _ _ _ _ _ _ _ (T2.setTop (mkF m 69 #[.val (.ref aa), .val (.int lv)] [(.ref aa)]))
  obtain ⟨T4, X4, e4, st4⟩ := getF X2 hx hZ hown (host := "") (Or.inl (hw _ (List.mem_of_getElem? (i := 17) rfl))) Via.refl e2 F_firstFields_aa (g := (mkF m 69 #[.val (.ref aa), .val (.int lv)] [(.ref aa)])) rfl rfl (hb hby d3_69)
  refine Go.step st4 ?_
  show Go _ _ _ _ _ _ _ (T4.setTop (mkF m 72 #[.val (.ref aa), .val (.int lv)] [(.ref bf)]))
  refine Go.step (fun t k => XS.aloadN X4.here hx rfl (hb hby d3_72) rfl rfl k) ?_
  show Go _ _ _ _ _ _ _ (T4.setTop (mkF m 73 #[.val (.ref aa), .val (.int lv)] [(.ref aa), (.ref bf)]))
  obtain ⟨T5, X5, e5, st5⟩ := getF X4 hx hZ hown (host := "") (Or.inl (hw _ (List.mem_of_getElem? (i := 30) rfl))) Via.refl e4 F_records_aa (g := (mkF m 73 #[.val (.ref aa), .val (.int lv)] [(.ref aa), (.ref bf)])) rfl rfl (hb hby d3_73)
  refine Go.step st5 ?_
  show Go _ _ _ _ _ _ _ (T5.setTop (mkF m 76 #[.val (.ref aa), .val (.int lv)] [(.int rv), (.ref bf)]))
  refine Go.step (fun t k => XS.aloadN X5.here hx rfl (hb hby d3_76) rfl rfl k) ?_
  show Go _ _ _ _ _ _ _ (T5.setTop (mkF m 77 #[.val (.ref aa), .val (.int lv)] [(.ref aa), (.int rv), (.ref bf)]))
  obtain ⟨T6, X6, e6, st6⟩ := getF X5 hx hZ hown (host := "") (Or.inl (hw _ (List.mem_of_getElem? (i := 32) rfl))) Via.refl e5 F_fields_aa (g := (mkF m 77 #[.val (.ref aa), .val (.int lv)] [(.ref aa), (.int rv), (.ref bf)])) rfl rfl (hb hby d3_77)
  refine Go.step st6 ?_
  show Go _ _ _ _ _ _ _ (T6.setTop (mkF m 80 #[.val (.ref aa), .val (.int lv)] [(.int fv), (.int rv), (.ref bf)]))
  obtain ⟨T7, h7, X7, e7, W7, st7⟩ := own_stI X6 hx hZ e6 A_bf kr hrv (by omega) (f := (mkF m 80 #[.val (.ref aa), .val (.int lv)] [(.int fv), (.int rv), (.ref bf)])) rfl rfl (hb hby d3_80)
  replace F_text_aa := F_text_aa.other W7 (Or.inl ne_aa_bf)
  replace F_starts_aa := F_starts_aa.other W7 (Or.inl ne_aa_bf)
  replace F_ends_aa := F_ends_aa.other W7 (Or.inl ne_aa_bf)
  replace F_firstFields_aa := F_firstFields_aa.other W7 (Or.inl ne_aa_bf)
  replace F_lines_aa := F_lines_aa.other W7 (Or.inl ne_aa_bf)
  replace F_faults_aa := F_faults_aa.other W7 (Or.inl ne_aa_bf)
  replace F_textUsed_aa := F_textUsed_aa.other W7 (Or.inl ne_aa_bf)
  replace F_fields_aa := F_fields_aa.other W7 (Or.inl ne_aa_bf)
  replace F_records_aa := F_records_aa.other W7 (Or.inl ne_aa_bf)
  replace E_aa := E_aa.wr W7
  replace A_bn := A_bn.other W7 (Ne.symm ne_bf_bn)
  have Z7 := Nat.le_trans Z0 (Keep.of_wr W7).1
  have N7 := Fr.snoc X7 N0 g_bf
  have K7 := K0.wr W7 (Or.inl (List.mem_of_getElem? (i := 0) rfl))
  replace A_bf := A_bf.setI W7
  refine Go.step st7 ?_
  show Go _ _ _ _ _ _ _ (T7.setTop (mkF m 81 #[.val (.ref aa), .val (.int lv)] []))
  refine Go.step (fun t k => XS.aloadN X7.here hx rfl (hb hby d3_81) rfl rfl k) ?_
  show Go _ _ _ _ _ _ _ (T7.setTop (mkF m 82 #[.val (.ref aa), .val (.int lv)] [(.ref aa)]))
  obtain ⟨T8, X8, e8, st8⟩ := getF X7 hx hZ hown (host := "") (Or.inl (hw _ (List.mem_of_getElem? (i := 19) rfl))) Via.refl e7 F_lines_aa (g := (mkF m 82 #[.val (.ref aa), .val (.int lv)] [(.ref aa)])) rfl rfl (hb hby d3_82)
  refine Go.step st8 ?_
  show Go _ _ _ _ _ _ _ (T8.setTop (mkF m 85 #[.val (.ref aa), .val (.int lv)] [(.ref bn)]))
  refine Go.step (fun t k => XS.aloadN X8.here hx rfl (hb hby d3_85) rfl rfl k) ?_
  show Go _ _ _ _ _ _ _ (T8.setTop (mkF m 86 #[.val (.ref aa), .val (.int lv)] [(.ref aa), (.ref bn)]))
  obtain ⟨T9, X9, e9, st9⟩ := getF X8 hx hZ hown (host := "") (Or.inl (hw _ (List.mem_of_getElem? (i := 30) rfl))) Via.refl e8 F_records_aa (g := (mkF m 86 #[.val (.ref aa), .val (.int lv)] [(.ref aa), (.ref bn)])) rfl rfl (hb hby d3_86)
  refine Go.step st9 ?_
  show Go _ _ _ _ _ _ _ (T9.setTop (mkF m 89 #[.val (.ref aa), .val (.int lv)] [(.int rv), (.ref bn)]))
  refine Go.step (fun t k => XS.iloadN X9.here hx rfl (hb hby d3_89) rfl k) ?_
  show Go _ _ _ _ _ _ _ (T9.setTop (mkF m 90 #[.val (.ref aa), .val (.int lv)] [(.int lv), (.int rv), (.ref bn)]))
  obtain ⟨T10, h10, X10, e10, W10, st10⟩ := own_stI X9 hx hZ e9 A_bn kr hrv (by omega) (f := (mkF m 90 #[.val (.ref aa), .val (.int lv)] [(.int lv), (.int rv), (.ref bn)])) rfl rfl (hb hby d3_90)
  replace F_text_aa := F_text_aa.other W10 (Or.inl ne_aa_bn)
  replace F_starts_aa := F_starts_aa.other W10 (Or.inl ne_aa_bn)
  replace F_ends_aa := F_ends_aa.other W10 (Or.inl ne_aa_bn)
  replace F_firstFields_aa := F_firstFields_aa.other W10 (Or.inl ne_aa_bn)
  replace F_lines_aa := F_lines_aa.other W10 (Or.inl ne_aa_bn)
  replace F_faults_aa := F_faults_aa.other W10 (Or.inl ne_aa_bn)
  replace F_textUsed_aa := F_textUsed_aa.other W10 (Or.inl ne_aa_bn)
  replace F_fields_aa := F_fields_aa.other W10 (Or.inl ne_aa_bn)
  replace F_records_aa := F_records_aa.other W10 (Or.inl ne_aa_bn)
  replace E_aa := E_aa.wr W10
  replace A_bf := A_bf.other W10 ne_bf_bn
  have Z10 := Nat.le_trans Z7 (Keep.of_wr W10).1
  have N10 := Fr.snoc X10 N7 g_bn
  have K10 := K7.wr W10 (Or.inl (List.mem_of_getElem? (i := 1) rfl))
  replace A_bn := A_bn.setI W10
  refine Go.step st10 ?_
  show Go _ _ _ _ _ _ _ (T10.setTop (mkF m 91 #[.val (.ref aa), .val (.int lv)] []))
  refine Go.retV X10 Bd.notSynchronized hx Bd.returns (hb hby d3_91) (by decide) (by decide) ?_
  rw [e10]
  exact ⟨rfl, N10, K10, A_bf, A_bn⟩
theorem d6_0 : decode prog_63_method_4_code 0 = .ok (.aload_n 0, 1) := by decide +kernel
theorem d6_1 : decode prog_63_method_4_code 1 = .ok (.dup, 1) := by decide +kernel
theorem d6_2 : decode prog_63_method_4_code 2 = .ok (.getfield 39, 3) := by decide +kernel
theorem d6_5 : decode prog_63_method_4_code 5 = .ok (.iconst 1, 1) := by decide +kernel
theorem d6_6 : decode prog_63_method_4_code 6 = .ok (.iadd, 1) := by decide +kernel
theorem d6_7 : decode prog_63_method_4_code 7 = .ok (.putfield 39, 3) := by decide +kernel
theorem d6_10 : decode prog_63_method_4_code 10 = .ok (.aload_n 0, 1) := by decide +kernel
theorem d6_11 : decode prog_63_method_4_code 11 = .ok (.getfield 20, 3) := by decide +kernel
theorem d6_14 : decode prog_63_method_4_code 14 = .ok (.aload_n 0, 1) := by decide +kernel
theorem d6_15 : decode prog_63_method_4_code 15 = .ok (.getfield 39, 3) := by decide +kernel
theorem d6_18 : decode prog_63_method_4_code 18 = .ok (.aload_n 0, 1) := by decide +kernel
theorem d6_19 : decode prog_63_method_4_code 19 = .ok (.getfield 36, 3) := by decide +kernel
theorem d6_22 : decode prog_63_method_4_code 22 = .ok (.iastore, 1) := by decide +kernel
theorem d6_23 : decode prog_63_method_4_code 23 = .ok (.return_, 1) := by decide +kernel
theorem pn_6 : plainName "com/example/vestwright/vestwright/io/Records" = true := by first | (simp [plainName, overriddenIn]; done) | decide +kernel
theorem ef_6 (m : MethodId) (x0 : Addr) : entryFrame m #[(.ref x0)] 1 = mkF m 0 #[.val (.ref x0)] [] := by first | (simp [entryFrame, mkF, argsToLocals, Value.category]; done) | rfl
def Q6 (Z : State) (aa : Addr) (bt : Addr) (bs : Addr) (be : Addr) (bf : Addr) (bn : Addr) (bx : Addr) (tu : Int32) (fv : Int32) (rv : Int32) (kr : Nat) (gf : Nat → Int32) (h0 : Heap) (n0 : Nat) (v : Option Value) (h : Heap) (L : List Loc) : Prop := v = none ∧ Fr n0 L ∧ Keep h0 h [aa, bf] ∧ Fld Z h aa "com/example/vestwright/vestwright/io/Records" "text" "[C" (.ref bt) ∧ Fld Z h aa "com/example/vestwright/vestwright/io/Records" "starts" "[I" (.ref bs) ∧ Fld Z h aa "com/example/vestwright/vestwright/io/Records" "ends" "[I" (.ref be) ∧ Fld Z h aa "com/example/vestwright/vestwright/io/Records" "firstFields" "[I" (.ref bf) ∧ Fld Z h aa "com/example/vestwright/vestwright/io/Records" "lines" "[I" (.ref bn) ∧ Fld Z h aa "com/example/vestwright/vestwright/io/Records" "faults" "[Lcom/example/vestwright/vestwright/io/CsvFormatException;" (.ref bx) ∧ Fld Z h aa "com/example/vestwright/vestwright/io/Records" "textUsed" "I" (.int tu) ∧ Fld Z h aa "com/example/vestwright/vestwright/io/Records" "fields" "I" (.int fv) ∧ Fld Z h aa "com/example/vestwright/vestwright/io/Records" "records" "I" (.int (rv + (1 : Int32))) ∧ AryI Z h bf .int 64 (up gf (kr + 1) fv)
set_option maxRecDepth 65536 in
set_option maxHeartbeats 40000000 in
theorem rm6 (l : Launch) (Z : State) (a0 : Array Value) (hw : ∀ d ∈ tables_1, d.before a0 Z = true) (ws : List Jvm.Cond) (aa : Addr) (bt : Addr) (bs : Addr) (be : Addr) (bf : Addr) (bn : Addr) (bx : Addr) (tu : Int32) (fv : Int32) (rv : Int32) (kr : Nat) (gf : Nat → Int32) (h0 : Heap) (n0 : Nat) (Z0 : n0 ≤ h0.size) (F_text_aa : Fld Z h0 aa "com/example/vestwright/vestwright/io/Records" "text" "[C" (.ref bt)) (F_starts_aa : Fld Z h0 aa "com/example/vestwright/vestwright/io/Records" "starts" "[I" (.ref bs)) (F_ends_aa : Fld Z h0 aa "com/example/vestwright/vestwright/io/Records" "ends" "[I" (.ref be)) (F_firstFields_aa : Fld Z h0 aa "com/example/vestwright/vestwright/io/Records" "firstFields" "[I" (.ref bf)) (F_lines_aa : Fld Z h0 aa "com/example/vestwright/vestwright/io/Records" "lines" "[I" (.ref bn)) (F_faults_aa : Fld Z h0 aa "com/example/vestwright/vestwright/io/Records" "faults" "[Lcom/example/vestwright/vestwright/io/CsvFormatException;" (.ref bx)) (F_textUsed_aa : Fld Z h0 aa "com/example/vestwright/vestwright/io/Records" "textUsed" "I" (.int tu)) (F_fields_aa : Fld Z h0 aa "com/example/vestwright/vestwright/io/Records" "fields" "I" (.int fv)) (F_records_aa : Fld Z h0 aa "com/example/vestwright/vestwright/io/Records" "records" "I" (.int rv)) (E_aa : Exa Z h0 aa "com/example/vestwright/vestwright/io/Records") (g_aa : n0 ≤ aa) (g_bf : n0 ≤ bf) (A_bf : AryI Z h0 bf .int 64 gf) (ne_aa_bf : aa ≠ bf) (hrv : (rv.toInt = (kr : Int))) (hkr : (kr < 63)) :
    MetFree l (⟨"com/example/vestwright/vestwright/io/Records", "endRecord", "()V"⟩ : MethodName) (head1 (Jvm.Cond.code (⟨"com/example/vestwright/vestwright/io/Records", "endRecord", "()V"⟩ : MethodName) prog_63_method_4_code 1 none :: ws) ({ frames := 0, cells := 0, slots := 0, locals := 0 } : Room)) (fun a U => a = #[(.ref aa)] ∧ Z.Warmed39 U.vm ∧ U.heap = h0) (fun _ _ _ _ _ => True) (fun _ U o U' => ∃ v L, o = .returned v ∧ Q6 Z aa bt bs be bf bn bx tu fv rv kr gf h0 n0 v U'.heap L ∧ FrameEnd U o U' L ({ frames := 0, cells := 0, slots := 0, locals := 0 } : Room).cells ({ frames := 0, cells := 0, slots := 0, locals := 0 } : Room).slots) := by
  refine MetFree.of_bodySF (plainFor_of_name pn_6) hisR ?_
  intro p e s m args below meth c s₁ Bd hml0 hP hK
  obtain ⟨rfl, hZ, hh⟩ := hP
  have hx := Bd.exec
  have hby := Bd.bytes
  have hml : c.maxLocals = 1 := hml0
  have hown : s.vm.findClass "com/example/vestwright/vestwright/io/Records" = some m.cls := findClass_of_methodNamed Bd.named
  have hnm := (name_of_methodNamed Bd.named Bd.method).1
  have X0 : Stand p l e ({ frames := 0, cells := 0, slots := 0, locals := 0 } : Room) s m #[(.ref aa)] below meth c s₁ [] 0 0 := Stand.of_body Bd
  have e0 : s₁.heap = h0 := by rw [← hh, Bd.state]; rfl
  have N0 := Fr.nil n0
  have K0 := Keep.refl h0 ([aa, bf] : List Addr)
  show Go p e below s (Q6 Z aa bt bs be bf bn bx tu fv rv kr gf h0 n0) ({ frames := 0, cells := 0, slots := 0, locals := 0 } : Room).cells ({ frames := 0, cells := 0, slots := 0, locals := 0 } : Room).slots (s₁.setTop (entryFrame m #[(.ref aa)] 1))
  rw [ef_6]
  show Go _ _ _ _ _ _ _ (s₁.setTop (mkF m 0 #[.val (.ref aa)] []))
  refine Go.step (fun t k => XS.aloadN X0.here hx rfl (hb hby d6_0) rfl rfl k) ?_
  show Go _ _ _ _ _ _ _ (s₁.setTop (mkF m 1 #[.val (.ref aa)] [(.ref aa)]))
  refine Go.step (fun t k => XS.dup X0.here hx rfl (hb hby d6_1) rfl rfl k) ?_
  show Go _ _ _ _ _ _ _ (s₁.setTop (mkF m 2 #[.val (.ref aa)] [(.ref aa), (.ref aa)]))
  obtain ⟨T1, X1, e1, st1⟩ := getF X0 hx hZ hown (host := "") (Or.inl (hw _ (List.mem_of_getElem? (i := 30) rfl))) Via.refl e0 F_records_aa (g := (mkF m 2 #[.val (.ref aa)] [(.ref aa), (.ref aa)])) rfl rfl (hb hby d6_2)
  refine Go.step st1 ?_
  show Go _ _ _ _ _ _ _ (T1.setTop (mkF m 5 #[.val (.ref aa)] [(.int rv), (.ref aa)]))
  refine Go.step (fun t k => XS.iconst X1.here hx rfl (hb hby d6_5) k) ?_
  show Go _ _ _ _ _ _ _ (T1.setTop (mkF m 6 #[.val (.ref aa)] [(.int (1 : Int32)), (.int rv), (.ref aa)]))
  refine Go.step (fun t k => XS.iadd X1.here hx rfl (hb hby d6_6) rfl k) ?_
  show Go _ _ _ _ _ _ _ (T1.setTop (mkF m 7 #[.val (.ref aa)] [(.int (rv + (1 : Int32))), (.ref aa)]))
  obtain ⟨T2, h2, X2, e2, W2, st2⟩ := putF X1 hx hZ hown (host := "") (Or.inl (hw _ (List.mem_of_getElem? (i := 30) rfl))) Via.refl e1 F_records_aa E_aa (Or.inl (hw _ (List.mem_of_getElem? (i := 31) rfl))) (hw _ (List.mem_of_getElem? (i := 2) rfl)) (ty := .int) (by decide) rfl rfl (g := (mkF m 7 #[.val (.ref aa)] [(.int (rv + (1 : Int32))), (.ref aa)])) rfl rfl (hb hby d6_7)
  replace F_text_aa := F_text_aa.other W2 (Or.inr (slot_ne (Or.inl (hw _ (List.mem_of_getElem? (i := 11) rfl))) (Or.inl (hw _ (List.mem_of_getElem? (i := 31) rfl))) (by decide) (t := (.array .char)) (t' := .int) (by decide) (by decide)))
  replace F_starts_aa := F_starts_aa.other W2 (Or.inr (slot_ne (Or.inl (hw _ (List.mem_of_getElem? (i := 14) rfl))) (Or.inl (hw _ (List.mem_of_getElem? (i := 31) rfl))) (by decide) (t := (.array .int)) (t' := .int) (by decide) (by decide)))
  replace F_ends_aa := F_ends_aa.other W2 (Or.inr (slot_ne (Or.inl (hw _ (List.mem_of_getElem? (i := 16) rfl))) (Or.inl (hw _ (List.mem_of_getElem? (i := 31) rfl))) (by decide) (t := (.array .int)) (t' := .int) (by decide) (by decide)))
  replace F_firstFields_aa := F_firstFields_aa.other W2 (Or.inr (slot_ne (Or.inl (hw _ (List.mem_of_getElem? (i := 18) rfl))) (Or.inl (hw _ (List.mem_of_getElem? (i := 31) rfl))) (by decide) (t := (.array .int)) (t' := .int) (by decide) (by decide)))
  replace F_lines_aa := F_lines_aa.other W2 (Or.inr (slot_ne (Or.inl (hw _ (List.mem_of_getElem? (i := 20) rfl))) (Or.inl (hw _ (List.mem_of_getElem? (i := 31) rfl))) (by decide) (t := (.array .int)) (t' := .int) (by decide) (by decide)))
  replace F_faults_aa := F_faults_aa.other W2 (Or.inr (slot_ne (Or.inl (hw _ (List.mem_of_getElem? (i := 24) rfl))) (Or.inl (hw _ (List.mem_of_getElem? (i := 31) rfl))) (by decide) (t := (.array (.object "com/example/vestwright/vestwright/io/CsvFormatException"))) (t' := .int) (by decide) (by decide)))
  replace F_textUsed_aa := F_textUsed_aa.other W2 (Or.inr (slot_ne (Or.inl (hw _ (List.mem_of_getElem? (i := 44) rfl))) (Or.inl (hw _ (List.mem_of_getElem? (i := 31) rfl))) (by decide) (t := .int) (t' := .int) (by decide) (by decide)))
  replace F_fields_aa := F_fields_aa.other W2 (Or.inr (slot_ne (Or.inl (hw _ (List.mem_of_getElem? (i := 33) rfl))) (Or.inl (hw _ (List.mem_of_getElem? (i := 31) rfl))) (by decide) (t := .int) (t' := .int) (by decide) (by decide)))
  replace E_aa := E_aa.wr W2
  replace A_bf := A_bf.other W2 (Ne.symm ne_aa_bf)
  have Z2 := Nat.le_trans Z0 (Keep.of_wr W2).1
  have N2 := Fr.snoc X2 N0 g_aa
  have K2 := K0.wr W2 (Or.inl (List.mem_of_getElem? (i := 0) rfl))
  replace F_records_aa := F_records_aa.same W2
  refine Go.step st2 ?_
  show Go _ _ _ _ _ _ _ (T2.setTop (mkF m 10 #[.val (.ref aa)] []))
  refine Go.step (fun t k => XS.aloadN X2.here hx rfl (hb hby d6_10) rfl rfl k) ?_
  show Go _ _ _ _ _ _ _ (T2.setTop (mkF m 11 #[.val (.ref aa)] [(.ref aa)]))
  obtain ⟨T3, X3, e3, st3⟩ := getF X2 hx hZ hown (host := "") (Or.inl (hw _ (List.mem_of_getElem? (i := 17) rfl))) Via.refl e2 F_firstFields_aa (g := (mkF m 11 #[.val (.ref aa)] [(.ref aa)])) rfl rfl (hb hby d6_11)
  refine Go.step st3 ?_
  show Go _ _ _ _ _ _ _ (T3.setTop (mkF m 14 #[.val (.ref aa)] [(.ref bf)]))
  refine Go.step (fun t k => XS.aloadN X3.here hx rfl (hb hby d6_14) rfl rfl k) ?_
  show Go _ _ _ _ _ _ _ (T3.setTop (mkF m 15 #[.val (.ref aa)] [(.ref aa), (.ref bf)]))
  obtain ⟨T4, X4, e4, st4⟩ := getF X3 hx hZ hown (host := "") (Or.inl (hw _ (List.mem_of_getElem? (i := 30) rfl))) Via.refl e3 F_records_aa (g := (mkF m 15 #[.val (.ref aa)] [(.ref aa), (.ref bf)])) rfl rfl (hb hby d6_15)
  refine Go.step st4 ?_
  show Go _ _ _ _ _ _ _ (T4.setTop (mkF m 18 #[.val (.ref aa)] [(.int (rv + (1 : Int32))), (.ref bf)]))
  refine Go.step (fun t k => XS.aloadN X4.here hx rfl (hb hby d6_18) rfl rfl k) ?_
  show Go _ _ _ _ _ _ _ (T4.setTop (mkF m 19 #[.val (.ref aa)] [(.ref aa), (.int (rv + (1 : Int32))), (.ref bf)]))
  obtain ⟨T5, X5, e5, st5⟩ := getF X4 hx hZ hown (host := "") (Or.inl (hw _ (List.mem_of_getElem? (i := 32) rfl))) Via.refl e4 F_fields_aa (g := (mkF m 19 #[.val (.ref aa)] [(.ref aa), (.int (rv + (1 : Int32))), (.ref bf)])) rfl rfl (hb hby d6_19)
  refine Go.step st5 ?_
  show Go _ _ _ _ _ _ _ (T5.setTop (mkF m 22 #[.val (.ref aa)] [(.int fv), (.int (rv + (1 : Int32))), (.ref bf)]))
  obtain ⟨T6, h6, X6, e6, W6, st6⟩ := own_stI X5 hx hZ e5 A_bf (kr + 1) (own_inc hrv (by omega)) (by omega) (f := (mkF m 22 #[.val (.ref aa)] [(.int fv), (.int (rv + (1 : Int32))), (.ref bf)])) rfl rfl (hb hby d6_22)
  replace F_text_aa := F_text_aa.other W6 (Or.inl ne_aa_bf)
  replace F_starts_aa := F_starts_aa.other W6 (Or.inl ne_aa_bf)
  replace F_ends_aa := F_ends_aa.other W6 (Or.inl ne_aa_bf)
  replace F_firstFields_aa := F_firstFields_aa.other W6 (Or.inl ne_aa_bf)
  replace F_lines_aa := F_lines_aa.other W6 (Or.inl ne_aa_bf)
  replace F_faults_aa := F_faults_aa.other W6 (Or.inl ne_aa_bf)
  replace F_textUsed_aa := F_textUsed_aa.other W6 (Or.inl ne_aa_bf)
  replace F_fields_aa := F_fields_aa.other W6 (Or.inl ne_aa_bf)
  replace F_records_aa := F_records_aa.other W6 (Or.inl ne_aa_bf)
  replace E_aa := E_aa.wr W6
  have Z6 := Nat.le_trans Z2 (Keep.of_wr W6).1
  have N6 := Fr.snoc X6 N2 g_bf
  have K6 := K2.wr W6 (Or.inl (List.mem_of_getElem? (i := 1) rfl))
  replace A_bf := A_bf.setI W6
  refine Go.step st6 ?_
  show Go _ _ _ _ _ _ _ (T6.setTop (mkF m 23 #[.val (.ref aa)] []))
  refine Go.retV X6 Bd.notSynchronized hx Bd.returns (hb hby d6_23) (by decide) (by decide) ?_
  rw [e6]
  exact ⟨rfl, N6, K6, F_text_aa, F_starts_aa, F_ends_aa, F_firstFields_aa, F_lines_aa, F_faults_aa, F_textUsed_aa, F_fields_aa, F_records_aa, A_bf⟩
theorem d8_0 : decode jdk_29_method_65_code 0 = .ok (.iload_n 0, 1) := by decide +kernel
theorem d8_1 : decode jdk_29_method_65_code 1 = .ok (.iload_n 1, 1) := by decide +kernel
theorem d8_2 : decode jdk_29_method_65_code 2 = .ok (.if_icmp .lt 7, 3) := by decide +kernel
theorem d8_5 : decode jdk_29_method_65_code 5 = .ok (.iload_n 0, 1) := by decide +kernel
theorem d8_6 : decode jdk_29_method_65_code 6 = .ok (.goto 4, 3) := by decide +kernel
theorem d8_10 : decode jdk_29_method_65_code 10 = .ok (.ireturn, 1) := by decide +kernel
theorem ef_8 (m : MethodId) (x0 : Int32) (x1 : Int32) : entryFrame m #[(.int x0), (.int x1)] 2 = mkF m 0 #[.val (.int x0), .val (.int x1)] [] := by first | (simp [entryFrame, mkF, argsToLocals, Value.category]; done) | rfl
def Q8 (Z : State) (xx : Int32) (yy : Int32) (h0 : Heap) (n0 : Nat) (v : Option Value) (h : Heap) (L : List Loc) : Prop := v = some (.int xx) ∧ Fr n0 L ∧ h = h0
set_option maxRecDepth 65536 in
set_option maxHeartbeats 40000000 in
theorem rm8 (l : Launch) (Z : State) (a0 : Array Value) (hw : ∀ d ∈ tables_1, d.before a0 Z = true) (ws : List Jvm.Cond) (xx : Int32) (yy : Int32) (h0 : Heap) (n0 : Nat) (Z0 : n0 ≤ h0.size) (hxy : (¬ xx < yy)) :
    MetFree l (⟨"java/lang/Math", "max", "(II)I"⟩ : MethodName) (head1 (Jvm.Cond.code (⟨"java/lang/Math", "max", "(II)I"⟩ : MethodName) jdk_29_method_65_code 2 (some .int) :: ws) ({ frames := 0, cells := 0, slots := 0, locals := 0 } : Room)) (fun a U => a = #[(.int xx), (.int yy)] ∧ Z.Warmed39 U.vm ∧ U.heap = h0) (fun _ _ _ _ _ => True) (fun _ U o U' => ∃ v L, o = .returned v ∧ Q8 Z xx yy h0 n0 v U'.heap L ∧ FrameEnd U o U' L ({ frames := 0, cells := 0, slots := 0, locals := 0 } : Room).cells ({ frames := 0, cells := 0, slots := 0, locals := 0 } : Room).slots) := by
  refine MetFree.of_bodySF (Jvm.Free.JP.mathPlain rfl (by decide +kernel)) hisR ?_
  intro p e s m args below meth c s₁ Bd hml0 hP hK
  obtain ⟨rfl, hZ, hh⟩ := hP
  have hx := Bd.exec
  have hby := Bd.bytes
  have hml : c.maxLocals = 2 := hml0
  have hown : s.vm.findClass "java/lang/Math" = some m.cls := findClass_of_methodNamed Bd.named
  have hnm := (name_of_methodNamed Bd.named Bd.method).1
  have X0 : Stand p l e ({ frames := 0, cells := 0, slots := 0, locals := 0 } : Room) s m #[(.int xx), (.int yy)] below meth c s₁ [] 0 0 := Stand.of_body Bd
  have e0 : s₁.heap = h0 := by rw [← hh, Bd.state]; rfl
  have N0 := Fr.nil n0
  show Go p e below s (Q8 Z xx yy h0 n0) ({ frames := 0, cells := 0, slots := 0, locals := 0 } : Room).cells ({ frames := 0, cells := 0, slots := 0, locals := 0 } : Room).slots (s₁.setTop (entryFrame m #[(.int xx), (.int yy)] 2))
  rw [ef_8]
  show Go _ _ _ _ _ _ _ (s₁.setTop (mkF m 0 #[.val (.int xx), .val (.int yy)] []))
  refine Go.step (fun t k => XS.iloadN X0.here hx rfl (hb hby d8_0) rfl k) ?_
  show Go _ _ _ _ _ _ _ (s₁.setTop (mkF m 1 #[.val (.int xx), .val (.int yy)] [(.int xx)]))
  refine Go.step (fun t k => XS.iloadN X0.here hx rfl (hb hby d8_1) rfl k) ?_
  show Go _ _ _ _ _ _ _ (s₁.setTop (mkF m 2 #[.val (.int xx), .val (.int yy)] [(.int yy), (.int xx)]))
  refine Go.step (fun t k => XS.icmpNo X0.here hx rfl (hb hby d8_2) rfl (flt (hxy : ¬ xx < yy)).1 k) ?_
  show Go _ _ _ _ _ _ _ (s₁.setTop (mkF m 5 #[.val (.int xx), .val (.int yy)] []))
  refine Go.step (fun t k => XS.iloadN X0.here hx rfl (hb hby d8_5) rfl k) ?_
  show Go _ _ _ _ _ _ _ (s₁.setTop (mkF m 6 #[.val (.int xx), .val (.int yy)] [(.int xx)]))
  refine Go.step (fun t k => XS.goto X0.here hx rfl (pc0 := 6) (pc' := 10) rfl (hb hby d8_6) (by decide) (by decide) k) ?_
  show Go _ _ _ _ _ _ _ (s₁.setTop (mkF m 10 #[.val (.int xx), .val (.int yy)] [(.int xx)]))
  refine Go.retI X0 Bd.notSynchronized hx Bd.returns (hb hby d8_10) (by decide) (by decide) ?_
  rw [e0]
  exact ⟨rfl, N0, rfl⟩
theorem d10_0 : decode jdk_29_method_69_code 0 = .ok (.iload_n 0, 1) := by decide +kernel
theorem d10_1 : decode jdk_29_method_69_code 1 = .ok (.iload_n 1, 1) := by decide +kernel
theorem d10_2 : decode jdk_29_method_69_code 2 = .ok (.if_icmp .gt 7, 3) := by decide +kernel
theorem d10_5 : decode jdk_29_method_69_code 5 = .ok (.iload_n 0, 1) := by decide +kernel
theorem d10_6 : decode jdk_29_method_69_code 6 = .ok (.goto 4, 3) := by decide +kernel
theorem d10_10 : decode jdk_29_method_69_code 10 = .ok (.ireturn, 1) := by decide +kernel
theorem ef_10 (m : MethodId) (x0 : Int32) (x1 : Int32) : entryFrame m #[(.int x0), (.int x1)] 2 = mkF m 0 #[.val (.int x0), .val (.int x1)] [] := by first | (simp [entryFrame, mkF, argsToLocals, Value.category]; done) | rfl
def Q10 (Z : State) (xx : Int32) (yy : Int32) (h0 : Heap) (n0 : Nat) (v : Option Value) (h : Heap) (L : List Loc) : Prop := v = some (.int xx) ∧ Fr n0 L ∧ h = h0
set_option maxRecDepth 65536 in
set_option maxHeartbeats 40000000 in
theorem rm10 (l : Launch) (Z : State) (a0 : Array Value) (hw : ∀ d ∈ tables_1, d.before a0 Z = true) (ws : List Jvm.Cond) (xx : Int32) (yy : Int32) (h0 : Heap) (n0 : Nat) (Z0 : n0 ≤ h0.size) (hxy : (¬ yy < xx)) :
    MetFree l (⟨"java/lang/Math", "min", "(II)I"⟩ : MethodName) (head1 (Jvm.Cond.code (⟨"java/lang/Math", "min", "(II)I"⟩ : MethodName) jdk_29_method_69_code 2 (some .int) :: ws) ({ frames := 0, cells := 0, slots := 0, locals := 0 } : Room)) (fun a U => a = #[(.int xx), (.int yy)] ∧ Z.Warmed39 U.vm ∧ U.heap = h0) (fun _ _ _ _ _ => True) (fun _ U o U' => ∃ v L, o = .returned v ∧ Q10 Z xx yy h0 n0 v U'.heap L ∧ FrameEnd U o U' L ({ frames := 0, cells := 0, slots := 0, locals := 0 } : Room).cells ({ frames := 0, cells := 0, slots := 0, locals := 0 } : Room).slots) := by
  refine MetFree.of_bodySF (Jvm.Free.JP.mathPlain rfl (by decide +kernel)) hisR ?_
  intro p e s m args below meth c s₁ Bd hml0 hP hK
  obtain ⟨rfl, hZ, hh⟩ := hP
  have hx := Bd.exec
  have hby := Bd.bytes
  have hml : c.maxLocals = 2 := hml0
  have hown : s.vm.findClass "java/lang/Math" = some m.cls := findClass_of_methodNamed Bd.named
  have hnm := (name_of_methodNamed Bd.named Bd.method).1
  have X0 : Stand p l e ({ frames := 0, cells := 0, slots := 0, locals := 0 } : Room) s m #[(.int xx), (.int yy)] below meth c s₁ [] 0 0 := Stand.of_body Bd
  have e0 : s₁.heap = h0 := by rw [← hh, Bd.state]; rfl
  have N0 := Fr.nil n0
  show Go p e below s (Q10 Z xx yy h0 n0) ({ frames := 0, cells := 0, slots := 0, locals := 0 } : Room).cells ({ frames := 0, cells := 0, slots := 0, locals := 0 } : Room).slots (s₁.setTop (entryFrame m #[(.int xx), (.int yy)] 2))
  rw [ef_10]
  show Go _ _ _ _ _ _ _ (s₁.setTop (mkF m 0 #[.val (.int xx), .val (.int yy)] []))
  refine Go.step (fun t k => XS.iloadN X0.here hx rfl (hb hby d10_0) rfl k) ?_
  show Go _ _ _ _ _ _ _ (s₁.setTop (mkF m 1 #[.val (.int xx), .val (.int yy)] [(.int xx)]))
  refine Go.step (fun t k => XS.iloadN X0.here hx rfl (hb hby d10_1) rfl k) ?_
  show Go _ _ _ _ _ _ _ (s₁.setTop (mkF m 2 #[.val (.int xx), .val (.int yy)] [(.int yy), (.int xx)]))
  refine Go.step (fun t k => XS.icmpNo X0.here hx rfl (hb hby d10_2) rfl (flt (hxy : ¬ yy < xx)).2.2.1 k) ?_
  show Go _ _ _ _ _ _ _ (s₁.setTop (mkF m 5 #[.val (.int xx), .val (.int yy)] []))
  refine Go.step (fun t k => XS.iloadN X0.here hx rfl (hb hby d10_5) rfl k) ?_
  show Go _ _ _ _ _ _ _ (s₁.setTop (mkF m 6 #[.val (.int xx), .val (.int yy)] [(.int xx)]))
  refine Go.step (fun t k => XS.goto X0.here hx rfl (pc0 := 6) (pc' := 10) rfl (hb hby d10_6) (by decide) (by decide) k) ?_
  show Go _ _ _ _ _ _ _ (s₁.setTop (mkF m 10 #[.val (.int xx), .val (.int yy)] [(.int xx)]))
  refine Go.retI X0 Bd.notSynchronized hx Bd.returns (hb hby d10_10) (by decide) (by decide) ?_
  rw [e0]
  exact ⟨rfl, N0, rfl⟩
theorem d9_0 : decode jdk_65_method_125_code 0 = .ok (.iload_n 1, 1) := by decide +kernel
theorem d9_1 : decode jdk_65_method_125_code 1 = .ok (.aload_n 0, 1) := by decide +kernel
theorem d9_2 : decode jdk_65_method_125_code 2 = .ok (.arraylength, 1) := by decide +kernel
theorem d9_3 : decode jdk_65_method_125_code 3 = .ok (.if_icmp .ne 11, 3) := by decide +kernel
theorem d9_14 : decode jdk_65_method_125_code 14 = .ok (.iload_n 1, 1) := by decide +kernel
theorem d9_15 : decode jdk_65_method_125_code 15 = .ok (.newarray .char, 2) := by decide +kernel
theorem d9_17 : decode jdk_65_method_125_code 17 = .ok (.astore_n 2, 1) := by decide +kernel
theorem d9_18 : decode jdk_65_method_125_code 18 = .ok (.aload_n 0, 1) := by decide +kernel
theorem d9_19 : decode jdk_65_method_125_code 19 = .ok (.iconst 0, 1) := by decide +kernel
theorem d9_20 : decode jdk_65_method_125_code 20 = .ok (.aload_n 2, 1) := by decide +kernel
theorem d9_21 : decode jdk_65_method_125_code 21 = .ok (.iconst 0, 1) := by decide +kernel
theorem d9_22 : decode jdk_65_method_125_code 22 = .ok (.aload_n 0, 1) := by decide +kernel
theorem d9_23 : decode jdk_65_method_125_code 23 = .ok (.arraylength, 1) := by decide +kernel
theorem d9_24 : decode jdk_65_method_125_code 24 = .ok (.iload_n 1, 1) := by decide +kernel
theorem d9_25 : decode jdk_65_method_125_code 25 = .ok (.invokestatic 304, 3) := by decide +kernel
theorem d9_28 : decode jdk_65_method_125_code 28 = .ok (.invokestatic 150, 3) := by decide +kernel
theorem d9_31 : decode jdk_65_method_125_code 31 = .ok (.aload_n 2, 1) := by decide +kernel
theorem d9_32 : decode jdk_65_method_125_code 32 = .ok (.areturn, 1) := by decide +kernel
theorem pn_9 : plainName "java/util/Arrays" = true := by first | (simp [plainName, overriddenIn]; done) | decide +kernel
theorem pd_9_0 : parseMethodDescriptor "(II)I" = some ⟨[.int, .int], some .int⟩ := by decide +kernel
theorem ef_9 (m : MethodId) (x0 : Addr) (x1 : Int32) : entryFrame m #[(.ref x0), (.int x1)] 3 = mkF m 0 #[.val (.ref x0), .val (.int x1), .unset] [] := by first | (simp [entryFrame, mkF, argsToLocals, Value.category]; done) | rfl
def Q9 (Z : State) (ar : Addr) (nl : Int32) (nt : Nat) (zt : Int32) (mm : Nat) (h0 : Heap) (n0 : Nat) (v : Option Value) (h : Heap) (L : List Loc) : Prop := ∃ b2 : Addr, v = some (.ref b2) ∧ Fr n0 L ∧ Keep h0 h [] ∧ h0.size ≤ b2 ∧ Txt Z h b2 mm
set_option maxRecDepth 65536 in
set_option maxHeartbeats 40000000 in
theorem rm9 (l : Launch) (Z : State) (a0 : Array Value) (hw : ∀ d ∈ tables_1, d.before a0 Z = true) (ws : List Jvm.Cond) (ar : Addr) (nl : Int32) (nt : Nat) (zt : Int32) (mm : Nat) (h0 : Heap) (n0 : Nat) (Z0 : n0 ≤ h0.size) (T_ar : Txt Z h0 ar nt) (hzt : (zt.toInt = (nt : Int))) (hnl : (nl.toInt = (mm : Int))) (hlt : (nt < mm)) (hmm : (mm ≤ 16384)) :
    MetFree l (⟨"java/util/Arrays", "copyOf", "([CI)[C"⟩ : MethodName) (head1 (Jvm.Cond.code (⟨"java/util/Arrays", "copyOf", "([CI)[C"⟩ : MethodName) jdk_65_method_125_code 3 (some (.array .char)) :: ws) ({ frames := 1, cells := 1, slots := 16384, locals := 40 } : Room)) (fun a U => a = #[(.ref ar), (.int nl)] ∧ Z.Warmed39 U.vm ∧ U.heap = h0) (fun _ _ _ _ _ => True) (fun _ U o U' => ∃ v L, o = .returned v ∧ Q9 Z ar nl nt zt mm h0 n0 v U'.heap L ∧ FrameEnd U o U' L ({ frames := 1, cells := 1, slots := 16384, locals := 40 } : Room).cells ({ frames := 1, cells := 1, slots := 16384, locals := 40 } : Room).slots) := by
  refine MetFree.of_bodySF (plainFor_of_name pn_9) hisR ?_
  intro p e s m args below meth c s₁ Bd hml0 hP hK
  obtain ⟨rfl, hZ, hh⟩ := hP
  have hx := Bd.exec
  have hby := Bd.bytes
  have hml : c.maxLocals = 3 := hml0
  have hown : s.vm.findClass "java/util/Arrays" = some m.cls := findClass_of_methodNamed Bd.named
  have hnm := (name_of_methodNamed Bd.named Bd.method).1
  have X0 : Stand p l e ({ frames := 1, cells := 1, slots := 16384, locals := 40 } : Room) s m #[(.ref ar), (.int nl)] below meth c s₁ [] 0 0 := Stand.of_body Bd
  have e0 : s₁.heap = h0 := by rw [← hh, Bd.state]; rfl
  have N0 := Fr.nil n0
  have K0 := Keep.refl h0 ([] : List Addr)
  show Go p e below s (Q9 Z ar nl nt zt mm h0 n0) ({ frames := 1, cells := 1, slots := 16384, locals := 40 } : Room).cells ({ frames := 1, cells := 1, slots := 16384, locals := 40 } : Room).slots (s₁.setTop (entryFrame m #[(.ref ar), (.int nl)] 3))
  rw [ef_9]
  show Go _ _ _ _ _ _ _ (s₁.setTop (mkF m 0 #[.val (.ref ar), .val (.int nl), .unset] []))
  refine Go.step (fun t k => XS.iloadN X0.here hx rfl (hb hby d9_0) rfl k) ?_
  show Go _ _ _ _ _ _ _ (s₁.setTop (mkF m 1 #[.val (.ref ar), .val (.int nl), .unset] [(.int nl)]))
  refine Go.step (fun t k => XS.aloadN X0.here hx rfl (hb hby d9_1) rfl rfl k) ?_
  show Go _ _ _ _ _ _ _ (s₁.setTop (mkF m 2 #[.val (.ref ar), .val (.int nl), .unset] [(.ref ar), (.int nl)]))
  refine Go.step (own_lenT X0 hx hZ e0 T_ar (z := zt) hzt (f := (mkF m 2 #[.val (.ref ar), .val (.int nl), .unset] [(.ref ar), (.int nl)])) rfl rfl (hb hby d9_2)) ?_
  show Go _ _ _ _ _ _ _ (s₁.setTop (mkF m 3 #[.val (.ref ar), .val (.int nl), .unset] [(.int zt), (.int nl)]))
  refine Go.step (fun t k => XS.icmpYes X0.here hx rfl (pc0 := 3) (pc' := 14) rfl (hb hby d9_3) rfl (feq (own_neq_ hnl hzt (by omega) : ¬ nl = zt)).2 (by decide) (by decide) k) ?_
  show Go _ _ _ _ _ _ _ (s₁.setTop (mkF m 14 #[.val (.ref ar), .val (.int nl), .unset] []))
  refine Go.step (fun t k => XS.iloadN X0.here hx rfl (hb hby d9_14) rfl k) ?_
  show Go _ _ _ _ _ _ _ (s₁.setTop (mkF m 15 #[.val (.ref ar), .val (.int nl), .unset] [(.int nl)]))
  obtain ⟨T2, h2, k2, X2, e2, E2, A2, st2⟩ := newP X0 hx hZ (hw _ (List.mem_of_getElem? (i := 0) rfl)) e0 (g := (mkF m 15 #[.val (.ref ar), .val (.int nl), .unset] [(.int nl)])) rfl (hb hby d9_15) rfl (own_nn hnl) (cap := 16384) (by rw [own_clamp hnl]; exact hmm) (by decide) (by decide) (by decide)
  obtain ⟨b2, gz2⟩ : ∃ z, z = h0.size := ⟨_, rfl⟩
  have ne_ar_b2 : ar ≠ b2 := Nat.ne_of_lt (Nat.lt_of_lt_of_le T_ar.lt (Nat.le_of_eq gz2.symm))
  have g_b2 : n0 ≤ b2 := Nat.le_trans Z0 (Nat.le_of_eq gz2.symm)
  have sz_b2 : h0.size ≤ b2 := Nat.le_trans K0.1 (Nat.le_of_eq gz2.symm)
  rw [← gz2] at A2 st2
  replace T_ar := T_ar.ext E2
  have Z2 := Nat.le_trans Z0 E2.1
  have K2 := K0.ext E2
  have T_b2 : Txt Z h2 b2 mm := Txt.new A2 hnl
  refine Go.step st2 ?_
  show Go _ _ _ _ _ _ _ (T2.setTop (mkF m 17 #[.val (.ref ar), .val (.int nl), .unset] [(.ref b2)]))
  refine Go.step (fun t k => XS.astoreN X2.here hx rfl (hb hby d9_17) rfl rfl (l' := #[.val (.ref ar), .val (.int nl), .val (.ref b2)]) rfl k) ?_
  show Go _ _ _ _ _ _ _ (T2.setTop (mkF m 18 #[.val (.ref ar), .val (.int nl), .val (.ref b2)] []))
  refine Go.step (fun t k => XS.aloadN X2.here hx rfl (hb hby d9_18) rfl rfl k) ?_
  show Go _ _ _ _ _ _ _ (T2.setTop (mkF m 19 #[.val (.ref ar), .val (.int nl), .val (.ref b2)] [(.ref ar)]))
  refine Go.step (fun t k => XS.iconst X2.here hx rfl (hb hby d9_19) k) ?_
  show Go _ _ _ _ _ _ _ (T2.setTop (mkF m 20 #[.val (.ref ar), .val (.int nl), .val (.ref b2)] [(.int (0 : Int32)), (.ref ar)]))
  refine Go.step (fun t k => XS.aloadN X2.here hx rfl (hb hby d9_20) rfl rfl k) ?_
  show Go _ _ _ _ _ _ _ (T2.setTop (mkF m 21 #[.val (.ref ar), .val (.int nl), .val (.ref b2)] [(.ref b2), (.int (0 : Int32)), (.ref ar)]))
  refine Go.step (fun t k => XS.iconst X2.here hx rfl (hb hby d9_21) k) ?_
  show Go _ _ _ _ _ _ _ (T2.setTop (mkF m 22 #[.val (.ref ar), .val (.int nl), .val (.ref b2)] [(.int (0 : Int32)), (.ref b2), (.int (0 : Int32)), (.ref ar)]))
  refine Go.step (fun t k => XS.aloadN X2.here hx rfl (hb hby d9_22) rfl rfl k) ?_
  show Go _ _ _ _ _ _ _ (T2.setTop (mkF m 23 #[.val (.ref ar), .val (.int nl), .val (.ref b2)] [(.ref ar), (.int (0 : Int32)), (.ref b2), (.int (0 : Int32)), (.ref ar)]))
  refine Go.step (own_lenT X2 hx hZ e2 T_ar (z := zt) hzt (f := (mkF m 23 #[.val (.ref ar), .val (.int nl), .val (.ref b2)] [(.ref ar), (.int (0 : Int32)), (.ref b2), (.int (0 : Int32)), (.ref ar)])) rfl rfl (hb hby d9_23)) ?_
  show Go _ _ _ _ _ _ _ (T2.setTop (mkF m 24 #[.val (.ref ar), .val (.int nl), .val (.ref b2)] [(.int zt), (.int (0 : Int32)), (.ref b2), (.int (0 : Int32)), (.ref ar)]))
  refine Go.step (fun t k => XS.iloadN X2.here hx rfl (hb hby d9_24) rfl k) ?_
  show Go _ _ _ _ _ _ _ (T2.setTop (mkF m 25 #[.val (.ref ar), .val (.int nl), .val (.ref b2)] [(.int nl), (.int zt), (.int (0 : Int32)), (.ref b2), (.int (0 : Int32)), (.ref ar)]))
  obtain ⟨_, _, ⟨T4, L4, k4, n4⟩, -, X4, ⟨Lc4, hQ4, l4, y4, z4⟩, st4⟩ := Jvm.LawKit.callS X2 hx (y := (⟨"java/lang/Math", "min", "(II)I"⟩ : MethodName)) hown (mvT hZ (hw _ (List.mem_of_getElem? (i := 68) rfl))) (mvT hZ (hw _ (List.mem_of_getElem? (i := 69) rfl))) (mvT hZ (hw _ (List.mem_of_getElem? (i := 62) rfl))) (mvT hZ (hw _ (List.mem_of_getElem? (i := 70) rfl))) (by decide) (backOf (W := 4) (rm10 l Z a0 hw [] zt nl h2 n0 Z2 (own_nlt_ hnl hzt (by omega))) hZ (hw _ (List.mem_of_getElem? (i := 70) rfl)) (hw _ (List.mem_of_getElem? (i := 62) rfl)) (by decide) (by decide)) (g := (mkF m 25 #[.val (.ref ar), .val (.int nl), .val (.ref b2)] [(.int nl), (.int zt), (.int (0 : Int32)), (.ref b2), (.int (0 : Int32)), (.ref ar)])) rfl (by rw [hml]; rfl) (argsL := [(.int zt), (.int nl)]) (rest := [(.int (0 : Int32)), (.ref b2), (.int (0 : Int32)), (.ref ar)]) (lenOf pd_9_0 rfl) rfl (by show 2 * 0 + _ ≤ _; exact Nat.le_of_eq rfl) (hb hby d9_25) (fun _ _ => ⟨rfl, e2, (by decide : 1 + 0 ≤ _), (by decide : 16384 + 0 ≤ _)⟩)
  dsimp only [Pt.U, Pt.locs, Pt.cells, Pt.slots] at X4 l4 y4 z4 st4 hQ4
  subst l4 y4 z4
  obtain ⟨rfl, N4q, K4q⟩ := hQ4
  have N4 := Fr.app N0 N4q
  refine Go.step st4 ?_
  show Go _ _ _ _ _ _ _ (T4.setTop (mkF m 28 #[.val (.ref ar), .val (.int nl), .val (.ref b2)] [(.int zt), (.int (0 : Int32)), (.ref b2), (.int (0 : Int32)), (.ref ar)]))
  obtain ⟨T5, h5, Lx5, X5, e5, Nn5, K5q, Tx5, st5⟩ := own_cp X4 hx hZ hown (hw _ (List.mem_of_getElem? (i := 71) rfl)) (hw _ (List.mem_of_getElem? (i := 48) rfl)) (hw _ (List.mem_of_getElem? (i := 46) rfl)) (hw _ (List.mem_of_getElem? (i := 47) rfl)) K4q T_ar T_b2 0 0 nt rfl rfl hzt (by omega) (by omega) N4 g_b2 (g := (mkF m 28 #[.val (.ref ar), .val (.int nl), .val (.ref b2)] [(.int zt), (.int (0 : Int32)), (.ref b2), (.int (0 : Int32)), (.ref ar)])) rfl (by rw [hml]; rfl) rfl (hb hby d9_28) (by decide) (W := 0) (by show 2 * 0 + _ ≤ _; exact Nat.le_of_eq rfl) (by decide)
  replace T_ar := T_ar.keep K5q (ninS ne_ar_b2 nin0)
  have Z5 := Nat.le_trans Z2 K5q.1
  have K5' := K2.trans K5q (allS (Or.inr sz_b2) all0)
  have T_b2 := Tx5
  refine Go.step st5 ?_
  show Go _ _ _ _ _ _ _ (T5.setTop (mkF m 31 #[.val (.ref ar), .val (.int nl), .val (.ref b2)] []))
  refine Go.step (fun t k => XS.aloadN X5.here hx rfl (hb hby d9_31) rfl rfl k) ?_
  show Go _ _ _ _ _ _ _ (T5.setTop (mkF m 32 #[.val (.ref ar), .val (.int nl), .val (.ref b2)] [(.ref b2)]))
  refine Go.retA X5 Bd.notSynchronized hx Bd.returns rfl rfl rfl (hb hby d9_32) (by decide) (by decide) ?_
  rw [e5]
  exact ⟨b2, rfl, Nn5, K5', sz_b2, T_b2⟩
theorem d5_0 : decode prog_63_method_11_code 0 = .ok (.aload_n 0, 1) := by decide +kernel
theorem d5_1 : decode prog_63_method_11_code 1 = .ok (.getfield 32, 3) := by decide +kernel
theorem d5_4 : decode prog_63_method_11_code 4 = .ok (.iload_n 1, 1) := by decide +kernel
theorem d5_5 : decode prog_63_method_11_code 5 = .ok (.iadd, 1) := by decide +kernel
theorem d5_6 : decode prog_63_method_11_code 6 = .ok (.aload_n 0, 1) := by decide +kernel
theorem d5_7 : decode prog_63_method_11_code 7 = .ok (.getfield 7, 3) := by decide +kernel
theorem d5_10 : decode prog_63_method_11_code 10 = .ok (.arraylength, 1) := by decide +kernel
theorem d5_11 : decode prog_63_method_11_code 11 = .ok (.if_icmp .le 30, 3) := by decide +kernel
theorem d5_14 : decode prog_63_method_11_code 14 = .ok (.aload_n 0, 1) := by decide +kernel
theorem d5_15 : decode prog_63_method_11_code 15 = .ok (.aload_n 0, 1) := by decide +kernel
theorem d5_16 : decode prog_63_method_11_code 16 = .ok (.getfield 7, 3) := by decide +kernel
theorem d5_19 : decode prog_63_method_11_code 19 = .ok (.aload_n 0, 1) := by decide +kernel
theorem d5_20 : decode prog_63_method_11_code 20 = .ok (.getfield 7, 3) := by decide +kernel
theorem d5_23 : decode prog_63_method_11_code 23 = .ok (.arraylength, 1) := by decide +kernel
theorem d5_24 : decode prog_63_method_11_code 24 = .ok (.iconst 2, 1) := by decide +kernel
theorem d5_25 : decode prog_63_method_11_code 25 = .ok (.imul, 1) := by decide +kernel
theorem d5_26 : decode prog_63_method_11_code 26 = .ok (.aload_n 0, 1) := by decide +kernel
theorem d5_27 : decode prog_63_method_11_code 27 = .ok (.getfield 32, 3) := by decide +kernel
theorem d5_30 : decode prog_63_method_11_code 30 = .ok (.iload_n 1, 1) := by decide +kernel
theorem d5_31 : decode prog_63_method_11_code 31 = .ok (.iadd, 1) := by decide +kernel
theorem d5_32 : decode prog_63_method_11_code 32 = .ok (.invokestatic 90, 3) := by decide +kernel
theorem d5_35 : decode prog_63_method_11_code 35 = .ok (.invokestatic 96, 3) := by decide +kernel
theorem d5_38 : decode prog_63_method_11_code 38 = .ok (.putfield 7, 3) := by decide +kernel
theorem d5_41 : decode prog_63_method_11_code 41 = .ok (.aload_n 0, 1) := by decide +kernel
theorem d5_42 : decode prog_63_method_11_code 42 = .ok (.getfield 36, 3) := by decide +kernel
theorem d5_45 : decode prog_63_method_11_code 45 = .ok (.aload_n 0, 1) := by decide +kernel
theorem d5_46 : decode prog_63_method_11_code 46 = .ok (.getfield 13, 3) := by decide +kernel
theorem d5_49 : decode prog_63_method_11_code 49 = .ok (.arraylength, 1) := by decide +kernel
theorem d5_50 : decode prog_63_method_11_code 50 = .ok (.if_icmp .ne 37, 3) := by decide +kernel
theorem d5_87 : decode prog_63_method_11_code 87 = .ok (.aload_n 0, 1) := by decide +kernel
theorem d5_88 : decode prog_63_method_11_code 88 = .ok (.getfield 32, 3) := by decide +kernel
theorem d5_91 : decode prog_63_method_11_code 91 = .ok (.istore_n 2, 1) := by decide +kernel
theorem d5_92 : decode prog_63_method_11_code 92 = .ok (.aload_n 0, 1) := by decide +kernel
theorem d5_93 : decode prog_63_method_11_code 93 = .ok (.getfield 13, 3) := by decide +kernel
theorem d5_96 : decode prog_63_method_11_code 96 = .ok (.aload_n 0, 1) := by decide +kernel
theorem d5_97 : decode prog_63_method_11_code 97 = .ok (.getfield 36, 3) := by decide +kernel
theorem d5_100 : decode prog_63_method_11_code 100 = .ok (.iload_n 2, 1) := by decide +kernel
theorem d5_101 : decode prog_63_method_11_code 101 = .ok (.iastore, 1) := by decide +kernel
theorem d5_102 : decode prog_63_method_11_code 102 = .ok (.aload_n 0, 1) := by decide +kernel
theorem d5_103 : decode prog_63_method_11_code 103 = .ok (.getfield 17, 3) := by decide +kernel
theorem d5_106 : decode prog_63_method_11_code 106 = .ok (.aload_n 0, 1) := by decide +kernel
theorem d5_107 : decode prog_63_method_11_code 107 = .ok (.getfield 36, 3) := by decide +kernel
theorem d5_110 : decode prog_63_method_11_code 110 = .ok (.iload_n 2, 1) := by decide +kernel
theorem d5_111 : decode prog_63_method_11_code 111 = .ok (.iload_n 1, 1) := by decide +kernel
theorem d5_112 : decode prog_63_method_11_code 112 = .ok (.iadd, 1) := by decide +kernel
theorem d5_113 : decode prog_63_method_11_code 113 = .ok (.iastore, 1) := by decide +kernel
theorem d5_114 : decode prog_63_method_11_code 114 = .ok (.aload_n 0, 1) := by decide +kernel
theorem d5_115 : decode prog_63_method_11_code 115 = .ok (.dup, 1) := by decide +kernel
theorem d5_116 : decode prog_63_method_11_code 116 = .ok (.getfield 36, 3) := by decide +kernel
theorem d5_119 : decode prog_63_method_11_code 119 = .ok (.iconst 1, 1) := by decide +kernel
theorem d5_120 : decode prog_63_method_11_code 120 = .ok (.iadd, 1) := by decide +kernel
theorem d5_121 : decode prog_63_method_11_code 121 = .ok (.putfield 36, 3) := by decide +kernel
theorem d5_124 : decode prog_63_method_11_code 124 = .ok (.aload_n 0, 1) := by decide +kernel
theorem d5_125 : decode prog_63_method_11_code 125 = .ok (.dup, 1) := by decide +kernel
theorem d5_126 : decode prog_63_method_11_code 126 = .ok (.getfield 32, 3) := by decide +kernel
theorem d5_129 : decode prog_63_method_11_code 129 = .ok (.iload_n 1, 1) := by decide +kernel
theorem d5_130 : decode prog_63_method_11_code 130 = .ok (.iadd, 1) := by decide +kernel
theorem d5_131 : decode prog_63_method_11_code 131 = .ok (.putfield 32, 3) := by decide +kernel
theorem d5_134 : decode prog_63_method_11_code 134 = .ok (.iload_n 2, 1) := by decide +kernel
theorem d5_135 : decode prog_63_method_11_code 135 = .ok (.ireturn, 1) := by decide +kernel
theorem pn_5 : plainName "com/example/vestwright/vestwright/io/Records" = true := by first | (simp [plainName, overriddenIn]; done) | decide +kernel
theorem pd_5_0 : parseMethodDescriptor "(II)I" = some ⟨[.int, .int], some .int⟩ := by decide +kernel
theorem pd_5_1 : parseMethodDescriptor "([CI)[C" = some ⟨[(.array .char), .int], some (.array .char)⟩ := by decide +kernel
theorem ef_5 (m : MethodId) (x0 : Addr) (x1 : Int32) : entryFrame m #[(.ref x0), (.int x1)] 3 = mkF m 0 #[.val (.ref x0), .val (.int x1), .unset] [] := by first | (simp [entryFrame, mkF, argsToLocals, Value.category]; done) | rfl
def Q5 (Z : State) (aa : Addr) (lv : Int32) (bt : Addr) (bs : Addr) (be : Addr) (bf : Addr) (bn : Addr) (bx : Addr) (tu : Int32) (fv : Int32) (rv : Int32) (zt : Int32) (nt : Nat) (ku : Nat) (kl : Nat) (kf : Nat) (gs : Nat → Int32) (ge_ : Nat → Int32) (h0 : Heap) (n0 : Nat) (v : Option Value) (h : Heap) (L : List Loc) : Prop := ∃ b2 : Addr, ∃ n2 : Nat, v = some (.int tu) ∧ Fr n0 L ∧ Keep h0 h [aa, bs, be] ∧ Fld Z h aa "com/example/vestwright/vestwright/io/Records" "text" "[C" (.ref b2) ∧ Fld Z h aa "com/example/vestwright/vestwright/io/Records" "starts" "[I" (.ref bs) ∧ Fld Z h aa "com/example/vestwright/vestwright/io/Records" "ends" "[I" (.ref be) ∧ Fld Z h aa "com/example/vestwright/vestwright/io/Records" "firstFields" "[I" (.ref bf) ∧ Fld Z h aa "com/example/vestwright/vestwright/io/Records" "lines" "[I" (.ref bn) ∧ Fld Z h aa "com/example/vestwright/vestwright/io/Records" "faults" "[Lcom/example/vestwright/vestwright/io/CsvFormatException;" (.ref bx) ∧ Fld Z h aa "com/example/vestwright/vestwright/io/Records" "textUsed" "I" (.int (tu + lv)) ∧ Fld Z h aa "com/example/vestwright/vestwright/io/Records" "fields" "I" (.int (fv + (1 : Int32))) ∧ Fld Z h aa "com/example/vestwright/vestwright/io/Records" "records" "I" (.int rv) ∧ (b2 = bt ∨ h0.size ≤ b2) ∧ Txt Z h b2 n2 ∧ AryI Z h bs .int 256 (up gs kf tu) ∧ AryI Z h be .int 256 (up ge_ kf (tu + lv)) ∧ (ku + kl ≤ n2 ∧ n2 ≤ 2 * nt ∧ nt ≤ n2 ∧ (ku + kl ≤ nt → n2 = nt))
set_option maxRecDepth 65536 in
set_option maxHeartbeats 40000000 in
theorem rm5 (l : Launch) (Z : State) (a0 : Array Value) (hw : ∀ d ∈ tables_1, d.before a0 Z = true) (ws : List Jvm.Cond) (aa : Addr) (lv : Int32) (bt : Addr) (bs : Addr) (be : Addr) (bf : Addr) (bn : Addr) (bx : Addr) (tu : Int32) (fv : Int32) (rv : Int32) (zt : Int32) (nt : Nat) (ku : Nat) (kl : Nat) (kf : Nat) (gs : Nat → Int32) (ge_ : Nat → Int32) (h0 : Heap) (n0 : Nat) (Z0 : n0 ≤ h0.size) (F_text_aa : Fld Z h0 aa "com/example/vestwright/vestwright/io/Records" "text" "[C" (.ref bt)) (F_starts_aa : Fld Z h0 aa "com/example/vestwright/vestwright/io/Records" "starts" "[I" (.ref bs)) (F_ends_aa : Fld Z h0 aa "com/example/vestwright/vestwright/io/Records" "ends" "[I" (.ref be)) (F_firstFields_aa : Fld Z h0 aa "com/example/vestwright/vestwright/io/Records" "firstFields" "[I" (.ref bf)) (F_lines_aa : Fld Z h0 aa "com/example/vestwright/vestwright/io/Records" "lines" "[I" (.ref bn)) (F_faults_aa : Fld Z h0 aa "com/example/vestwright/vestwright/io/Records" "faults" "[Lcom/example/vestwright/vestwright/io/CsvFormatException;" (.ref bx)) (F_textUsed_aa : Fld Z h0 aa "com/example/vestwright/vestwright/io/Records" "textUsed" "I" (.int tu)) (F_fields_aa : Fld Z h0 aa "com/example/vestwright/vestwright/io/Records" "fields" "I" (.int fv)) (F_records_aa : Fld Z h0 aa "com/example/vestwright/vestwright/io/Records" "records" "I" (.int rv)) (E_aa : Exa Z h0 aa "com/example/vestwright/vestwright/io/Records") (g_aa : n0 ≤ aa) (g_bt : n0 ≤ bt) (g_bs : n0 ≤ bs) (g_be : n0 ≤ be) (T_bt : Txt Z h0 bt nt) (A_bs : AryI Z h0 bs .int 256 gs) (A_be : AryI Z h0 be .int 256 ge_) (ne_bt_bs : bt ≠ bs) (ne_bt_be : bt ≠ be) (ne_bs_be : bs ≠ be) (ne_aa_bt : aa ≠ bt) (ne_aa_bs : aa ≠ bs) (ne_aa_be : aa ≠ be) (hzt : (zt.toInt = (nt : Int))) (hku : (tu.toInt = (ku : Int))) (hkl : (lv.toInt = (kl : Int))) (hkf : (fv.toInt = (kf : Int))) (hf256 : (kf < 256)) (hnt : (nt ≤ 8192)) (h0nt : (0 < nt)) (hsum : (ku + kl ≤ 2 * nt)) :
    MetFree l (⟨"com/example/vestwright/vestwright/io/Records", "reserve", "(I)I"⟩ : MethodName) (head1 (Jvm.Cond.code (⟨"com/example/vestwright/vestwright/io/Records", "reserve", "(I)I"⟩ : MethodName) prog_63_method_11_code 3 (some .int) :: ws) ({ frames := 2, cells := 1, slots := 16384, locals := 55 } : Room)) (fun a U => a = #[(.ref aa), (.int lv)] ∧ Z.Warmed39 U.vm ∧ U.heap = h0) (fun _ _ _ _ _ => True) (fun _ U o U' => ∃ v L, o = .returned v ∧ Q5 Z aa lv bt bs be bf bn bx tu fv rv zt nt ku kl kf gs ge_ h0 n0 v U'.heap L ∧ FrameEnd U o U' L ({ frames := 2, cells := 1, slots := 16384, locals := 55 } : Room).cells ({ frames := 2, cells := 1, slots := 16384, locals := 55 } : Room).slots) := by
  refine MetFree.of_bodySF (plainFor_of_name pn_5) hisR ?_
  intro p e s m args below meth c s₁ Bd hml0 hP hK
  obtain ⟨rfl, hZ, hh⟩ := hP
  have hx := Bd.exec
  have hby := Bd.bytes
  have hml : c.maxLocals = 3 := hml0
  have hown : s.vm.findClass "com/example/vestwright/vestwright/io/Records" = some m.cls := findClass_of_methodNamed Bd.named
  have hnm := (name_of_methodNamed Bd.named Bd.method).1
  have X0 : Stand p l e ({ frames := 2, cells := 1, slots := 16384, locals := 55 } : Room) s m #[(.ref aa), (.int lv)] below meth c s₁ [] 0 0 := Stand.of_body Bd
  have e0 : s₁.heap = h0 := by rw [← hh, Bd.state]; rfl
  have N0 := Fr.nil n0
  have K0 := Keep.refl h0 ([aa, bs, be] : List Addr)
  show Go p e below s (Q5 Z aa lv bt bs be bf bn bx tu fv rv zt nt ku kl kf gs ge_ h0 n0) ({ frames := 2, cells := 1, slots := 16384, locals := 55 } : Room).cells ({ frames := 2, cells := 1, slots := 16384, locals := 55 } : Room).slots (s₁.setTop (entryFrame m #[(.ref aa), (.int lv)] 3))
  rw [ef_5]
  show Go _ _ _ _ _ _ _ (s₁.setTop (mkF m 0 #[.val (.ref aa), .val (.int lv), .unset] []))
  refine Go.step (fun t k => XS.aloadN X0.here hx rfl (hb hby d5_0) rfl rfl k) ?_
  show Go _ _ _ _ _ _ _ (s₁.setTop (mkF m 1 #[.val (.ref aa), .val (.int lv), .unset] [(.ref aa)]))
  obtain ⟨T1, X1, e1, st1⟩ := getF X0 hx hZ hown (host := "") (Or.inl (hw _ (List.mem_of_getElem? (i := 43) rfl))) Via.refl e0 F_textUsed_aa (g := (mkF m 1 #[.val (.ref aa), .val (.int lv), .unset] [(.ref aa)])) rfl rfl (hb hby d5_1)
  refine Go.step st1 ?_
  show Go _ _ _ _ _ _ _ (T1.setTop (mkF m 4 #[.val (.ref aa), .val (.int lv), .unset] [(.int tu)]))
  refine Go.step (fun t k => XS.iloadN X1.here hx rfl (hb hby d5_4) rfl k) ?_
  show Go _ _ _ _ _ _ _ (T1.setTop (mkF m 5 #[.val (.ref aa), .val (.int lv), .unset] [(.int lv), (.int tu)]))
  refine Go.step (fun t k => XS.iadd X1.here hx rfl (hb hby d5_5) rfl k) ?_
  show Go _ _ _ _ _ _ _ (T1.setTop (mkF m 6 #[.val (.ref aa), .val (.int lv), .unset] [(.int (tu + lv))]))
  refine Go.step (fun t k => XS.aloadN X1.here hx rfl (hb hby d5_6) rfl rfl k) ?_
  show Go _ _ _ _ _ _ _ (T1.setTop (mkF m 7 #[.val (.ref aa), .val (.int lv), .unset] [(.ref aa), (.int (tu + lv))]))
  obtain ⟨T2, X2, e2, st2⟩ := getF X1 hx hZ hown (host := "") (Or.inl (hw _ (List.mem_of_getElem? (i := 10) rfl))) Via.refl e1 F_text_aa (g := (mkF m 7 #[.val (.ref aa), .val (.int lv), .unset] [(.ref aa), (.int (tu + lv))])) rfl rfl (hb hby d5_7)
  refine Go.step st2 ?_
  show Go _ _ _ _ _ _ _ (T2.setTop (mkF m 10 #[.val (.ref aa), .val (.int lv), .unset] [(.ref bt), (.int (tu + lv))]))
  refine Go.step (own_lenT X2 hx hZ e2 T_bt (z := zt) hzt (f := (mkF m 10 #[.val (.ref aa), .val (.int lv), .unset] [(.ref bt), (.int (tu + lv))])) rfl rfl (hb hby d5_10)) ?_
  show Go _ _ _ _ _ _ _ (T2.setTop (mkF m 11 #[.val (.ref aa), .val (.int lv), .unset] [(.int zt), (.int (tu + lv))]))
  by_cases hc11_4 : zt < (tu + lv)
  · refine Go.step (fun t k => XS.icmpNo X2.here hx rfl (hb hby d5_11) rfl (tlt hc11_4).2.2.2 k) ?_
    show Go _ _ _ _ _ _ _ (T2.setTop (mkF m 14 #[.val (.ref aa), .val (.int lv), .unset] []))
    refine Go.step (fun t k => XS.aloadN X2.here hx rfl (hb hby d5_14) rfl rfl k) ?_
    show Go _ _ _ _ _ _ _ (T2.setTop (mkF m 15 #[.val (.ref aa), .val (.int lv), .unset] [(.ref aa)]))
    refine Go.step (fun t k => XS.aloadN X2.here hx rfl (hb hby d5_15) rfl rfl k) ?_
    show Go _ _ _ _ _ _ _ (T2.setTop (mkF m 16 #[.val (.ref aa), .val (.int lv), .unset] [(.ref aa), (.ref aa)]))
    obtain ⟨T5, X5, e5, st5⟩ := getF X2 hx hZ hown (host := "") (Or.inl (hw _ (List.mem_of_getElem? (i := 10) rfl))) Via.refl e2 F_text_aa (g := (mkF m 16 #[.val (.ref aa), .val (.int lv), .unset] [(.ref aa), (.ref aa)])) rfl rfl (hb hby d5_16)
    refine Go.step st5 ?_
    show Go _ _ _ _ _ _ _ (T5.setTop (mkF m 19 #[.val (.ref aa), .val (.int lv), .unset] [(.ref bt), (.ref aa)]))
    refine Go.step (fun t k => XS.aloadN X5.here hx rfl (hb hby d5_19) rfl rfl k) ?_
    show Go _ _ _ _ _ _ _ (T5.setTop (mkF m 20 #[.val (.ref aa), .val (.int lv), .unset] [(.ref aa), (.ref bt), (.ref aa)]))
    obtain ⟨T6, X6, e6, st6⟩ := getF X5 hx hZ hown (host := "") (Or.inl (hw _ (List.mem_of_getElem? (i := 10) rfl))) Via.refl e5 F_text_aa (g := (mkF m 20 #[.val (.ref aa), .val (.int lv), .unset] [(.ref aa), (.ref bt), (.ref aa)])) rfl rfl (hb hby d5_20)
    refine Go.step st6 ?_
    show Go _ _ _ _ _ _ _ (T6.setTop (mkF m 23 #[.val (.ref aa), .val (.int lv), .unset] [(.ref bt), (.ref bt), (.ref aa)]))
    refine Go.step (own_lenT X6 hx hZ e6 T_bt (z := zt) hzt (f := (mkF m 23 #[.val (.ref aa), .val (.int lv), .unset] [(.ref bt), (.ref bt), (.ref aa)])) rfl rfl (hb hby d5_23)) ?_
    show Go _ _ _ _ _ _ _ (T6.setTop (mkF m 24 #[.val (.ref aa), .val (.int lv), .unset] [(.int zt), (.ref bt), (.ref aa)]))
    refine Go.step (fun t k => XS.iconst X6.here hx rfl (hb hby d5_24) k) ?_
    show Go _ _ _ _ _ _ _ (T6.setTop (mkF m 25 #[.val (.ref aa), .val (.int lv), .unset] [(.int (2 : Int32)), (.int zt), (.ref bt), (.ref aa)]))
    refine Go.step (fun t k => XS.imul X6.here hx rfl (hb hby d5_25) rfl k) ?_
    show Go _ _ _ _ _ _ _ (T6.setTop (mkF m 26 #[.val (.ref aa), .val (.int lv), .unset] [(.int (zt * (2 : Int32))), (.ref bt), (.ref aa)]))
    refine Go.step (fun t k => XS.aloadN X6.here hx rfl (hb hby d5_26) rfl rfl k) ?_
    show Go _ _ _ _ _ _ _ (T6.setTop (mkF m 27 #[.val (.ref aa), .val (.int lv), .unset] [(.ref aa), (.int (zt * (2 : Int32))), (.ref bt), (.ref aa)]))
    obtain ⟨T8, X8, e8, st8⟩ := getF X6 hx hZ hown (host := "") (Or.inl (hw _ (List.mem_of_getElem? (i := 43) rfl))) Via.refl e6 F_textUsed_aa (g := (mkF m 27 #[.val (.ref aa), .val (.int lv), .unset] [(.ref aa), (.int (zt * (2 : Int32))), (.ref bt), (.ref aa)])) rfl rfl (hb hby d5_27)
    refine Go.step st8 ?_
    show Go _ _ _ _ _ _ _ (T8.setTop (mkF m 30 #[.val (.ref aa), .val (.int lv), .unset] [(.int tu), (.int (zt * (2 : Int32))), (.ref bt), (.ref aa)]))
    refine Go.step (fun t k => XS.iloadN X8.here hx rfl (hb hby d5_30) rfl k) ?_
    show Go _ _ _ _ _ _ _ (T8.setTop (mkF m 31 #[.val (.ref aa), .val (.int lv), .unset] [(.int lv), (.int tu), (.int (zt * (2 : Int32))), (.ref bt), (.ref aa)]))
    refine Go.step (fun t k => XS.iadd X8.here hx rfl (hb hby d5_31) rfl k) ?_
    show Go _ _ _ _ _ _ _ (T8.setTop (mkF m 32 #[.val (.ref aa), .val (.int lv), .unset] [(.int (tu + lv)), (.int (zt * (2 : Int32))), (.ref bt), (.ref aa)]))
    obtain ⟨_, _, ⟨T9, L9, k9, n9⟩, -, X9, ⟨Lc9, hQ9, l9, y9, z9⟩, st9⟩ := Jvm.LawKit.callS X8 hx (y := (⟨"java/lang/Math", "max", "(II)I"⟩ : MethodName)) hown (mvT hZ (hw _ (List.mem_of_getElem? (i := 60) rfl))) (mvT hZ (hw _ (List.mem_of_getElem? (i := 61) rfl))) (mvT hZ (hw _ (List.mem_of_getElem? (i := 62) rfl))) (mvT hZ (hw _ (List.mem_of_getElem? (i := 63) rfl))) (by decide) (backOf (W := 2) (rm8 l Z a0 hw [] (zt * (2 : Int32)) (tu + lv) h0 n0 Z0 (own_nlt_ (own_dbl hzt (by omega)) (own_add hku hkl (by omega)) (by omega))) hZ (hw _ (List.mem_of_getElem? (i := 63) rfl)) (hw _ (List.mem_of_getElem? (i := 62) rfl)) (by decide) (by decide)) (g := (mkF m 32 #[.val (.ref aa), .val (.int lv), .unset] [(.int (tu + lv)), (.int (zt * (2 : Int32))), (.ref bt), (.ref aa)])) rfl (by rw [hml]; rfl) (argsL := [(.int (zt * (2 : Int32))), (.int (tu + lv))]) (rest := [(.ref bt), (.ref aa)]) (lenOf pd_5_0 rfl) rfl (by show 2 * 0 + _ ≤ _; exact Nat.le_of_eq rfl) (hb hby d5_32) (fun _ _ => ⟨rfl, e8, (by decide : 0 + 0 ≤ _), (by decide : 0 + 0 ≤ _)⟩)
    dsimp only [Pt.U, Pt.locs, Pt.cells, Pt.slots] at X9 l9 y9 z9 st9 hQ9
    subst l9 y9 z9
    obtain ⟨rfl, N9q, K9q⟩ := hQ9
    have N9 := Fr.app N0 N9q
    refine Go.step st9 ?_
    show Go _ _ _ _ _ _ _ (T9.setTop (mkF m 35 #[.val (.ref aa), .val (.int lv), .unset] [(.int (zt * (2 : Int32))), (.ref bt), (.ref aa)]))
    obtain ⟨_, _, ⟨T10, L10, k10, n10⟩, -, X10, ⟨Lc10, hQ10, l10, y10, z10⟩, st10⟩ := Jvm.LawKit.callS X9 hx (y := (⟨"java/util/Arrays", "copyOf", "([CI)[C"⟩ : MethodName)) hown (mvT hZ (hw _ (List.mem_of_getElem? (i := 64) rfl))) (mvT hZ (hw _ (List.mem_of_getElem? (i := 65) rfl))) (mvT hZ (hw _ (List.mem_of_getElem? (i := 66) rfl))) (mvT hZ (hw _ (List.mem_of_getElem? (i := 67) rfl))) (by decide) (backOf (W := 1) (rm9 l Z a0 hw [] bt (zt * (2 : Int32)) nt zt (2 * nt) h0 n0 Z0 T_bt hzt (own_dbl hzt (by omega)) (by omega) (by omega)) hZ (hw _ (List.mem_of_getElem? (i := 67) rfl)) (hw _ (List.mem_of_getElem? (i := 66) rfl)) (by decide) (by decide)) (g := (mkF m 35 #[.val (.ref aa), .val (.int lv), .unset] [(.int (zt * (2 : Int32))), (.ref bt), (.ref aa)])) rfl (by rw [hml]; rfl) (argsL := [(.ref bt), (.int (zt * (2 : Int32)))]) (rest := [(.ref aa)]) (lenOf pd_5_1 rfl) rfl (by show 2 * 0 + _ ≤ _; exact Nat.le_of_eq rfl) (hb hby d5_35) (fun _ _ => ⟨rfl, K9q, (by decide : 0 + 1 ≤ _), (by decide : 0 + 16384 ≤ _)⟩)
    dsimp only [Pt.U, Pt.locs, Pt.cells, Pt.slots] at X10 l10 y10 z10 st10 hQ10
    subst l10 y10 z10
    obtain ⟨b2, rfl, N10q, K10q, o10_nw_b2, o10_T_b2⟩ := hQ10
    have N10 := Fr.app N9 N10q
    have ne_aa_b2 : aa ≠ b2 := Nat.ne_of_lt (Nat.lt_of_lt_of_le F_text_aa.lt o10_nw_b2)
    have ne_bt_b2 : bt ≠ b2 := Nat.ne_of_lt (Nat.lt_of_lt_of_le T_bt.lt o10_nw_b2)
    have ne_bs_b2 : bs ≠ b2 := Nat.ne_of_lt (Nat.lt_of_lt_of_le A_bs.lt o10_nw_b2)
    have ne_be_b2 : be ≠ b2 := Nat.ne_of_lt (Nat.lt_of_lt_of_le A_be.lt o10_nw_b2)
    have g_b2 : n0 ≤ b2 := Nat.le_trans Z0 o10_nw_b2
    have sz_b2 : h0.size ≤ b2 := Nat.le_trans K0.1 o10_nw_b2
    replace F_text_aa := F_text_aa.keep K10q nin0
    replace F_starts_aa := F_starts_aa.keep K10q nin0
    replace F_ends_aa := F_ends_aa.keep K10q nin0
    replace F_firstFields_aa := F_firstFields_aa.keep K10q nin0
    replace F_lines_aa := F_lines_aa.keep K10q nin0
    replace F_faults_aa := F_faults_aa.keep K10q nin0
    replace F_textUsed_aa := F_textUsed_aa.keep K10q nin0
    replace F_fields_aa := F_fields_aa.keep K10q nin0
    replace F_records_aa := F_records_aa.keep K10q nin0
    replace E_aa := E_aa.keep K10q
    replace T_bt := T_bt.keep K10q nin0
    replace A_bs := A_bs.keep K10q nin0
    replace A_be := A_be.keep K10q nin0
    have Z10 := Nat.le_trans Z0 K10q.1
    have K10' := K0.trans K10q all0
    have T_b2 := o10_T_b2
    refine Go.step st10 ?_
    show Go _ _ _ _ _ _ _ (T10.setTop (mkF m 38 #[.val (.ref aa), .val (.int lv), .unset] [(.ref b2), (.ref aa)]))
    obtain ⟨T11, h11, X11, e11, W11, st11⟩ := putF X10 hx hZ hown (host := "") (Or.inl (hw _ (List.mem_of_getElem? (i := 10) rfl))) Via.refl rfl F_text_aa E_aa (Or.inl (hw _ (List.mem_of_getElem? (i := 11) rfl))) (hw _ (List.mem_of_getElem? (i := 2) rfl)) (ty := (.array .char)) (by decide) rfl rfl (g := (mkF m 38 #[.val (.ref aa), .val (.int lv), .unset] [(.ref b2), (.ref aa)])) rfl rfl (hb hby d5_38)
    replace F_starts_aa := F_starts_aa.other W11 (Or.inr (slot_ne (Or.inl (hw _ (List.mem_of_getElem? (i := 14) rfl))) (Or.inl (hw _ (List.mem_of_getElem? (i := 11) rfl))) (by decide) (t := (.array .int)) (t' := (.array .char)) (by decide) (by decide)))
    replace F_ends_aa := F_ends_aa.other W11 (Or.inr (slot_ne (Or.inl (hw _ (List.mem_of_getElem? (i := 16) rfl))) (Or.inl (hw _ (List.mem_of_getElem? (i := 11) rfl))) (by decide) (t := (.array .int)) (t' := (.array .char)) (by decide) (by decide)))
    replace F_firstFields_aa := F_firstFields_aa.other W11 (Or.inr (slot_ne (Or.inl (hw _ (List.mem_of_getElem? (i := 18) rfl))) (Or.inl (hw _ (List.mem_of_getElem? (i := 11) rfl))) (by decide) (t := (.array .int)) (t' := (.array .char)) (by decide) (by decide)))
    replace F_lines_aa := F_lines_aa.other W11 (Or.inr (slot_ne (Or.inl (hw _ (List.mem_of_getElem? (i := 20) rfl))) (Or.inl (hw _ (List.mem_of_getElem? (i := 11) rfl))) (by decide) (t := (.array .int)) (t' := (.array .char)) (by decide) (by decide)))
    replace F_faults_aa := F_faults_aa.other W11 (Or.inr (slot_ne (Or.inl (hw _ (List.mem_of_getElem? (i := 24) rfl))) (Or.inl (hw _ (List.mem_of_getElem? (i := 11) rfl))) (by decide) (t := (.array (.object "com/example/vestwright/vestwright/io/CsvFormatException"))) (t' := (.array .char)) (by decide) (by decide)))
    replace F_textUsed_aa := F_textUsed_aa.other W11 (Or.inr (slot_ne (Or.inl (hw _ (List.mem_of_getElem? (i := 44) rfl))) (Or.inl (hw _ (List.mem_of_getElem? (i := 11) rfl))) (by decide) (t := .int) (t' := (.array .char)) (by decide) (by decide)))
    replace F_fields_aa := F_fields_aa.other W11 (Or.inr (slot_ne (Or.inl (hw _ (List.mem_of_getElem? (i := 33) rfl))) (Or.inl (hw _ (List.mem_of_getElem? (i := 11) rfl))) (by decide) (t := .int) (t' := (.array .char)) (by decide) (by decide)))
    replace F_records_aa := F_records_aa.other W11 (Or.inr (slot_ne (Or.inl (hw _ (List.mem_of_getElem? (i := 31) rfl))) (Or.inl (hw _ (List.mem_of_getElem? (i := 11) rfl))) (by decide) (t := .int) (t' := (.array .char)) (by decide) (by decide)))
    replace E_aa := E_aa.wr W11
    replace T_bt := T_bt.other W11 (Ne.symm ne_aa_bt)
    replace A_bs := A_bs.other W11 (Ne.symm ne_aa_bs)
    replace A_be := A_be.other W11 (Ne.symm ne_aa_be)
    replace T_b2 := T_b2.other W11 (Ne.symm ne_aa_b2)
    have Z11 := Nat.le_trans Z10 (Keep.of_wr W11).1
    have N11 := Fr.snoc X11 N10 g_aa
    have K11 := K10'.wr W11 (Or.inl (List.mem_of_getElem? (i := 0) rfl))
    replace F_text_aa := F_text_aa.same W11
    refine Go.step st11 ?_
    show Go _ _ _ _ _ _ _ (T11.setTop (mkF m 41 #[.val (.ref aa), .val (.int lv), .unset] []))
    refine Go.step (fun t k => XS.aloadN X11.here hx rfl (hb hby d5_41) rfl rfl k) ?_
    show Go _ _ _ _ _ _ _ (T11.setTop (mkF m 42 #[.val (.ref aa), .val (.int lv), .unset] [(.ref aa)]))
    obtain ⟨T12, X12, e12, st12⟩ := getF X11 hx hZ hown (host := "") (Or.inl (hw _ (List.mem_of_getElem? (i := 32) rfl))) Via.refl e11 F_fields_aa (g := (mkF m 42 #[.val (.ref aa), .val (.int lv), .unset] [(.ref aa)])) rfl rfl (hb hby d5_42)
    refine Go.step st12 ?_
    show Go _ _ _ _ _ _ _ (T12.setTop (mkF m 45 #[.val (.ref aa), .val (.int lv), .unset] [(.int fv)]))
    refine Go.step (fun t k => XS.aloadN X12.here hx rfl (hb hby d5_45) rfl rfl k) ?_
    show Go _ _ _ _ _ _ _ (T12.setTop (mkF m 46 #[.val (.ref aa), .val (.int lv), .unset] [(.ref aa), (.int fv)]))
    obtain ⟨T13, X13, e13, st13⟩ := getF X12 hx hZ hown (host := "") (Or.inl (hw _ (List.mem_of_getElem? (i := 13) rfl))) Via.refl e12 F_starts_aa (g := (mkF m 46 #[.val (.ref aa), .val (.int lv), .unset] [(.ref aa), (.int fv)])) rfl rfl (hb hby d5_46)
    refine Go.step st13 ?_
    show Go _ _ _ _ _ _ _ (T13.setTop (mkF m 49 #[.val (.ref aa), .val (.int lv), .unset] [(.ref bs), (.int fv)]))
    refine Go.step (own_len X13 hx hZ e13 A_bs (z := (256 : Int32)) rfl (f := (mkF m 49 #[.val (.ref aa), .val (.int lv), .unset] [(.ref bs), (.int fv)])) rfl rfl (hb hby d5_49)) ?_
    show Go _ _ _ _ _ _ _ (T13.setTop (mkF m 50 #[.val (.ref aa), .val (.int lv), .unset] [(.int (256 : Int32)), (.int fv)]))
    refine Go.step (fun t k => XS.icmpYes X13.here hx rfl (pc0 := 50) (pc' := 87) rfl (hb hby d5_50) rfl (feq (own_neq_ (j := 256) hkf rfl (by omega) : ¬ fv = (256 : Int32))).2 (by decide) (by decide) k) ?_
    show Go _ _ _ _ _ _ _ (T13.setTop (mkF m 87 #[.val (.ref aa), .val (.int lv), .unset] []))
    refine Go.step (fun t k => XS.aloadN X13.here hx rfl (hb hby d5_87) rfl rfl k) ?_
    show Go _ _ _ _ _ _ _ (T13.setTop (mkF m 88 #[.val (.ref aa), .val (.int lv), .unset] [(.ref aa)]))
    obtain ⟨T15, X15, e15, st15⟩ := getF X13 hx hZ hown (host := "") (Or.inl (hw _ (List.mem_of_getElem? (i := 43) rfl))) Via.refl e13 F_textUsed_aa (g := (mkF m 88 #[.val (.ref aa), .val (.int lv), .unset] [(.ref aa)])) rfl rfl (hb hby d5_88)
    refine Go.step st15 ?_
    show Go _ _ _ _ _ _ _ (T15.setTop (mkF m 91 #[.val (.ref aa), .val (.int lv), .unset] [(.int tu)]))
    refine Go.step (fun t k => XS.istoreN X15.here hx rfl (hb hby d5_91) rfl (l' := #[.val (.ref aa), .val (.int lv), .val (.int tu)]) rfl k) ?_
    show Go _ _ _ _ _ _ _ (T15.setTop (mkF m 92 #[.val (.ref aa), .val (.int lv), .val (.int tu)] []))
    refine Go.step (fun t k => XS.aloadN X15.here hx rfl (hb hby d5_92) rfl rfl k) ?_
    show Go _ _ _ _ _ _ _ (T15.setTop (mkF m 93 #[.val (.ref aa), .val (.int lv), .val (.int tu)] [(.ref aa)]))
    obtain ⟨T16, X16, e16, st16⟩ := getF X15 hx hZ hown (host := "") (Or.inl (hw _ (List.mem_of_getElem? (i := 13) rfl))) Via.refl e15 F_starts_aa (g := (mkF m 93 #[.val (.ref aa), .val (.int lv), .val (.int tu)] [(.ref aa)])) rfl rfl (hb hby d5_93)
    refine Go.step st16 ?_
    show Go _ _ _ _ _ _ _ (T16.setTop (mkF m 96 #[.val (.ref aa), .val (.int lv), .val (.int tu)] [(.ref bs)]))
    refine Go.step (fun t k => XS.aloadN X16.here hx rfl (hb hby d5_96) rfl rfl k) ?_
    show Go _ _ _ _ _ _ _ (T16.setTop (mkF m 97 #[.val (.ref aa), .val (.int lv), .val (.int tu)] [(.ref aa), (.ref bs)]))
    obtain ⟨T17, X17, e17, st17⟩ := getF X16 hx hZ hown (host := "") (Or.inl (hw _ (List.mem_of_getElem? (i := 32) rfl))) Via.refl e16 F_fields_aa (g := (mkF m 97 #[.val (.ref aa), .val (.int lv), .val (.int tu)] [(.ref aa), (.ref bs)])) rfl rfl (hb hby d5_97)
    refine Go.step st17 ?_
    show Go _ _ _ _ _ _ _ (T17.setTop (mkF m 100 #[.val (.ref aa), .val (.int lv), .val (.int tu)] [(.int fv), (.ref bs)]))
    refine Go.step (fun t k => XS.iloadN X17.here hx rfl (hb hby d5_100) rfl k) ?_
    show Go _ _ _ _ _ _ _ (T17.setTop (mkF m 101 #[.val (.ref aa), .val (.int lv), .val (.int tu)] [(.int tu), (.int fv), (.ref bs)]))
    obtain ⟨T18, h18, X18, e18, W18, st18⟩ := own_stI X17 hx hZ e17 A_bs kf hkf hf256 (f := (mkF m 101 #[.val (.ref aa), .val (.int lv), .val (.int tu)] [(.int tu), (.int fv), (.ref bs)])) rfl rfl (hb hby d5_101)
    replace F_text_aa := F_text_aa.other W18 (Or.inl ne_aa_bs)
    replace F_starts_aa := F_starts_aa.other W18 (Or.inl ne_aa_bs)
    replace F_ends_aa := F_ends_aa.other W18 (Or.inl ne_aa_bs)
    replace F_firstFields_aa := F_firstFields_aa.other W18 (Or.inl ne_aa_bs)
    replace F_lines_aa := F_lines_aa.other W18 (Or.inl ne_aa_bs)
    replace F_faults_aa := F_faults_aa.other W18 (Or.inl ne_aa_bs)
    replace F_textUsed_aa := F_textUsed_aa.other W18 (Or.inl ne_aa_bs)
    replace F_fields_aa := F_fields_aa.other W18 (Or.inl ne_aa_bs)
    replace F_records_aa := F_records_aa.other W18 (Or.inl ne_aa_bs)
    replace E_aa := E_aa.wr W18
    replace T_bt := T_bt.other W18 ne_bt_bs
    replace A_be := A_be.other W18 (Ne.symm ne_bs_be)
    replace T_b2 := T_b2.other W18 (Ne.symm ne_bs_b2)
    have Z18 := Nat.le_trans Z11 (Keep.of_wr W18).1
    have N18 := Fr.snoc X18 N11 g_bs
    have K18 := K11.wr W18 (Or.inl (List.mem_of_getElem? (i := 1) rfl))
    replace A_bs := A_bs.setI W18
    refine Go.step st18 ?_
    show Go _ _ _ _ _ _ _ (T18.setTop (mkF m 102 #[.val (.ref aa), .val (.int lv), .val (.int tu)] []))
    refine Go.step (fun t k => XS.aloadN X18.here hx rfl (hb hby d5_102) rfl rfl k) ?_
    show Go _ _ _ _ _ _ _ (T18.setTop (mkF m 103 #[.val (.ref aa), .val (.int lv), .val (.int tu)] [(.ref aa)]))
    obtain ⟨T19, X19, e19, st19⟩ := getF X18 hx hZ hown (host := "") (Or.inl (hw _ (List.mem_of_getElem? (i := 15) rfl))) Via.refl e18 F_ends_aa (g := (mkF m 103 #[.val (.ref aa), .val (.int lv), .val (.int tu)] [(.ref aa)])) rfl rfl (hb hby d5_103)
    refine Go.step st19 ?_
    show Go _ _ _ _ _ _ _ (T19.setTop (mkF m 106 #[.val (.ref aa), .val (.int lv), .val (.int tu)] [(.ref be)]))
    refine Go.step (fun t k => XS.aloadN X19.here hx rfl (hb hby d5_106) rfl rfl k) ?_
    show Go _ _ _ _ _ _ _ (T19.setTop (mkF m 107 #[.val (.ref aa), .val (.int lv), .val (.int tu)] [(.ref aa), (.ref be)]))
    obtain ⟨T20, X20, e20, st20⟩ := getF X19 hx hZ hown (host := "") (Or.inl (hw _ (List.mem_of_getElem? (i := 32) rfl))) Via.refl e19 F_fields_aa (g := (mkF m 107 #[.val (.ref aa), .val (.int lv), .val (.int tu)] [(.ref aa), (.ref be)])) rfl rfl (hb hby d5_107)
    refine Go.step st20 ?_
    show Go _ _ _ _ _ _ _ (T20.setTop (mkF m 110 #[.val (.ref aa), .val (.int lv), .val (.int tu)] [(.int fv), (.ref be)]))
    refine Go.step (fun t k => XS.iloadN X20.here hx rfl (hb hby d5_110) rfl k) ?_
    show Go _ _ _ _ _ _ _ (T20.setTop (mkF m 111 #[.val (.ref aa), .val (.int lv), .val (.int tu)] [(.int tu), (.int fv), (.ref be)]))
    refine Go.step (fun t k => XS.iloadN X20.here hx rfl (hb hby d5_111) rfl k) ?_
    show Go _ _ _ _ _ _ _ (T20.setTop (mkF m 112 #[.val (.ref aa), .val (.int lv), .val (.int tu)] [(.int lv), (.int tu), (.int fv), (.ref be)]))
    refine Go.step (fun t k => XS.iadd X20.here hx rfl (hb hby d5_112) rfl k) ?_
    show Go _ _ _ _ _ _ _ (T20.setTop (mkF m 113 #[.val (.ref aa), .val (.int lv), .val (.int tu)] [(.int (tu + lv)), (.int fv), (.ref be)]))
    obtain ⟨T21, h21, X21, e21, W21, st21⟩ := own_stI X20 hx hZ e20 A_be kf hkf hf256 (f := (mkF m 113 #[.val (.ref aa), .val (.int lv), .val (.int tu)] [(.int (tu + lv)), (.int fv), (.ref be)])) rfl rfl (hb hby d5_113)
    replace F_text_aa := F_text_aa.other W21 (Or.inl ne_aa_be)
    replace F_starts_aa := F_starts_aa.other W21 (Or.inl ne_aa_be)
    replace F_ends_aa := F_ends_aa.other W21 (Or.inl ne_aa_be)
    replace F_firstFields_aa := F_firstFields_aa.other W21 (Or.inl ne_aa_be)
    replace F_lines_aa := F_lines_aa.other W21 (Or.inl ne_aa_be)
    replace F_faults_aa := F_faults_aa.other W21 (Or.inl ne_aa_be)
    replace F_textUsed_aa := F_textUsed_aa.other W21 (Or.inl ne_aa_be)
    replace F_fields_aa := F_fields_aa.other W21 (Or.inl ne_aa_be)
    replace F_records_aa := F_records_aa.other W21 (Or.inl ne_aa_be)
    replace E_aa := E_aa.wr W21
    replace T_bt := T_bt.other W21 ne_bt_be
    replace A_bs := A_bs.other W21 ne_bs_be
    replace T_b2 := T_b2.other W21 (Ne.symm ne_be_b2)
    have Z21 := Nat.le_trans Z18 (Keep.of_wr W21).1
    have N21 := Fr.snoc X21 N18 g_be
    have K21 := K18.wr W21 (Or.inl (List.mem_of_getElem? (i := 2) rfl))
    replace A_be := A_be.setI W21
    refine Go.step st21 ?_
    show Go _ _ _ _ _ _ _ (T21.setTop (mkF m 114 #[.val (.ref aa), .val (.int lv), .val (.int tu)] []))
    refine Go.step (fun t k => XS.aloadN X21.here hx rfl (hb hby d5_114) rfl rfl k) ?_
    show Go _ _ _ _ _ _ _ (T21.setTop (mkF m 115 #[.val (.ref aa), .val (.int lv), .val (.int tu)] [(.ref aa)]))
    refine Go.step (fun t k => XS.dup X21.here hx rfl (hb hby d5_115) rfl rfl k) ?_
    show Go _ _ _ _ _ _ _ (T21.setTop (mkF m 116 #[.val (.ref aa), .val (.int lv), .val (.int tu)] [(.ref aa), (.ref aa)]))
    obtain ⟨T22, X22, e22, st22⟩ := getF X21 hx hZ hown (host := "") (Or.inl (hw _ (List.mem_of_getElem? (i := 32) rfl))) Via.refl e21 F_fields_aa (g := (mkF m 116 #[.val (.ref aa), .val (.int lv), .val (.int tu)] [(.ref aa), (.ref aa)])) rfl rfl (hb hby d5_116)
    refine Go.step st22 ?_
    show Go _ _ _ _ _ _ _ (T22.setTop (mkF m 119 #[.val (.ref aa), .val (.int lv), .val (.int tu)] [(.int fv), (.ref aa)]))
    refine Go.step (fun t k => XS.iconst X22.here hx rfl (hb hby d5_119) k) ?_
    show Go _ _ _ _ _ _ _ (T22.setTop (mkF m 120 #[.val (.ref aa), .val (.int lv), .val (.int tu)] [(.int (1 : Int32)), (.int fv), (.ref aa)]))
    refine Go.step (fun t k => XS.iadd X22.here hx rfl (hb hby d5_120) rfl k) ?_
    show Go _ _ _ _ _ _ _ (T22.setTop (mkF m 121 #[.val (.ref aa), .val (.int lv), .val (.int tu)] [(.int (fv + (1 : Int32))), (.ref aa)]))
    obtain ⟨T23, h23, X23, e23, W23, st23⟩ := putF X22 hx hZ hown (host := "") (Or.inl (hw _ (List.mem_of_getElem? (i := 32) rfl))) Via.refl e22 F_fields_aa E_aa (Or.inl (hw _ (List.mem_of_getElem? (i := 33) rfl))) (hw _ (List.mem_of_getElem? (i := 2) rfl)) (ty := .int) (by decide) rfl rfl (g := (mkF m 121 #[.val (.ref aa), .val (.int lv), .val (.int tu)] [(.int (fv + (1 : Int32))), (.ref aa)])) rfl rfl (hb hby d5_121)
    replace F_text_aa := F_text_aa.other W23 (Or.inr (slot_ne (Or.inl (hw _ (List.mem_of_getElem? (i := 11) rfl))) (Or.inl (hw _ (List.mem_of_getElem? (i := 33) rfl))) (by decide) (t := (.array .char)) (t' := .int) (by decide) (by decide)))
    replace F_starts_aa := F_starts_aa.other W23 (Or.inr (slot_ne (Or.inl (hw _ (List.mem_of_getElem? (i := 14) rfl))) (Or.inl (hw _ (List.mem_of_getElem? (i := 33) rfl))) (by decide) (t := (.array .int)) (t' := .int) (by decide) (by decide)))
    replace F_ends_aa := F_ends_aa.other W23 (Or.inr (slot_ne (Or.inl (hw _ (List.mem_of_getElem? (i := 16) rfl))) (Or.inl (hw _ (List.mem_of_getElem? (i := 33) rfl))) (by decide) (t := (.array .int)) (t' := .int) (by decide) (by decide)))
    replace F_firstFields_aa := F_firstFields_aa.other W23 (Or.inr (slot_ne (Or.inl (hw _ (List.mem_of_getElem? (i := 18) rfl))) (Or.inl (hw _ (List.mem_of_getElem? (i := 33) rfl))) (by decide) (t := (.array .int)) (t' := .int) (by decide) (by decide)))
    replace F_lines_aa := F_lines_aa.other W23 (Or.inr (slot_ne (Or.inl (hw _ (List.mem_of_getElem? (i := 20) rfl))) (Or.inl (hw _ (List.mem_of_getElem? (i := 33) rfl))) (by decide) (t := (.array .int)) (t' := .int) (by decide) (by decide)))
    replace F_faults_aa := F_faults_aa.other W23 (Or.inr (slot_ne (Or.inl (hw _ (List.mem_of_getElem? (i := 24) rfl))) (Or.inl (hw _ (List.mem_of_getElem? (i := 33) rfl))) (by decide) (t := (.array (.object "com/example/vestwright/vestwright/io/CsvFormatException"))) (t' := .int) (by decide) (by decide)))
    replace F_textUsed_aa := F_textUsed_aa.other W23 (Or.inr (slot_ne (Or.inl (hw _ (List.mem_of_getElem? (i := 44) rfl))) (Or.inl (hw _ (List.mem_of_getElem? (i := 33) rfl))) (by decide) (t := .int) (t' := .int) (by decide) (by decide)))
    replace F_records_aa := F_records_aa.other W23 (Or.inr (slot_ne (Or.inl (hw _ (List.mem_of_getElem? (i := 31) rfl))) (Or.inl (hw _ (List.mem_of_getElem? (i := 33) rfl))) (by decide) (t := .int) (t' := .int) (by decide) (by decide)))
    replace E_aa := E_aa.wr W23
    replace T_bt := T_bt.other W23 (Ne.symm ne_aa_bt)
    replace A_bs := A_bs.other W23 (Ne.symm ne_aa_bs)
    replace A_be := A_be.other W23 (Ne.symm ne_aa_be)
    replace T_b2 := T_b2.other W23 (Ne.symm ne_aa_b2)
    have Z23 := Nat.le_trans Z21 (Keep.of_wr W23).1
    have N23 := Fr.snoc X23 N21 g_aa
    have K23 := K21.wr W23 (Or.inl (List.mem_of_getElem? (i := 0) rfl))
    replace F_fields_aa := F_fields_aa.same W23
    refine Go.step st23 ?_
    show Go _ _ _ _ _ _ _ (T23.setTop (mkF m 124 #[.val (.ref aa), .val (.int lv), .val (.int tu)] []))
    refine Go.step (fun t k => XS.aloadN X23.here hx rfl (hb hby d5_124) rfl rfl k) ?_
    show Go _ _ _ _ _ _ _ (T23.setTop (mkF m 125 #[.val (.ref aa), .val (.int lv), .val (.int tu)] [(.ref aa)]))
    refine Go.step (fun t k => XS.dup X23.here hx rfl (hb hby d5_125) rfl rfl k) ?_
    show Go _ _ _ _ _ _ _ (T23.setTop (mkF m 126 #[.val (.ref aa), .val (.int lv), .val (.int tu)] [(.ref aa), (.ref aa)]))
    obtain ⟨T24, X24, e24, st24⟩ := getF X23 hx hZ hown (host := "") (Or.inl (hw _ (List.mem_of_getElem? (i := 43) rfl))) Via.refl e23 F_textUsed_aa (g := (mkF m 126 #[.val (.ref aa), .val (.int lv), .val (.int tu)] [(.ref aa), (.ref aa)])) rfl rfl (hb hby d5_126)
    refine Go.step st24 ?_
    show Go _ _ _ _ _ _ _ (T24.setTop (mkF m 129 #[.val (.ref aa), .val (.int lv), .val (.int tu)] [(.int tu), (.ref aa)]))
    refine Go.step (fun t k => XS.iloadN X24.here hx rfl (hb hby d5_129) rfl k) ?_
    show Go _ _ _ _ _ _ _ (T24.setTop (mkF m 130 #[.val (.ref aa), .val (.int lv), .val (.int tu)] [(.int lv), (.int tu), (.ref aa)]))
    refine Go.step (fun t k => XS.iadd X24.here hx rfl (hb hby d5_130) rfl k) ?_
    show Go _ _ _ _ _ _ _ (T24.setTop (mkF m 131 #[.val (.ref aa), .val (.int lv), .val (.int tu)] [(.int (tu + lv)), (.ref aa)]))
    obtain ⟨T25, h25, X25, e25, W25, st25⟩ := putF X24 hx hZ hown (host := "") (Or.inl (hw _ (List.mem_of_getElem? (i := 43) rfl))) Via.refl e24 F_textUsed_aa E_aa (Or.inl (hw _ (List.mem_of_getElem? (i := 44) rfl))) (hw _ (List.mem_of_getElem? (i := 2) rfl)) (ty := .int) (by decide) rfl rfl (g := (mkF m 131 #[.val (.ref aa), .val (.int lv), .val (.int tu)] [(.int (tu + lv)), (.ref aa)])) rfl rfl (hb hby d5_131)
    replace F_text_aa := F_text_aa.other W25 (Or.inr (slot_ne (Or.inl (hw _ (List.mem_of_getElem? (i := 11) rfl))) (Or.inl (hw _ (List.mem_of_getElem? (i := 44) rfl))) (by decide) (t := (.array .char)) (t' := .int) (by decide) (by decide)))
    replace F_starts_aa := F_starts_aa.other W25 (Or.inr (slot_ne (Or.inl (hw _ (List.mem_of_getElem? (i := 14) rfl))) (Or.inl (hw _ (List.mem_of_getElem? (i := 44) rfl))) (by decide) (t := (.array .int)) (t' := .int) (by decide) (by decide)))
    replace F_ends_aa := F_ends_aa.other W25 (Or.inr (slot_ne (Or.inl (hw _ (List.mem_of_getElem? (i := 16) rfl))) (Or.inl (hw _ (List.mem_of_getElem? (i := 44) rfl))) (by decide) (t := (.array .int)) (t' := .int) (by decide) (by decide)))
    replace F_firstFields_aa := F_firstFields_aa.other W25 (Or.inr (slot_ne (Or.inl (hw _ (List.mem_of_getElem? (i := 18) rfl))) (Or.inl (hw _ (List.mem_of_getElem? (i := 44) rfl))) (by decide) (t := (.array .int)) (t' := .int) (by decide) (by decide)))
    replace F_lines_aa := F_lines_aa.other W25 (Or.inr (slot_ne (Or.inl (hw _ (List.mem_of_getElem? (i := 20) rfl))) (Or.inl (hw _ (List.mem_of_getElem? (i := 44) rfl))) (by decide) (t := (.array .int)) (t' := .int) (by decide) (by decide)))
    replace F_faults_aa := F_faults_aa.other W25 (Or.inr (slot_ne (Or.inl (hw _ (List.mem_of_getElem? (i := 24) rfl))) (Or.inl (hw _ (List.mem_of_getElem? (i := 44) rfl))) (by decide) (t := (.array (.object "com/example/vestwright/vestwright/io/CsvFormatException"))) (t' := .int) (by decide) (by decide)))
    replace F_fields_aa := F_fields_aa.other W25 (Or.inr (slot_ne (Or.inl (hw _ (List.mem_of_getElem? (i := 33) rfl))) (Or.inl (hw _ (List.mem_of_getElem? (i := 44) rfl))) (by decide) (t := .int) (t' := .int) (by decide) (by decide)))
    replace F_records_aa := F_records_aa.other W25 (Or.inr (slot_ne (Or.inl (hw _ (List.mem_of_getElem? (i := 31) rfl))) (Or.inl (hw _ (List.mem_of_getElem? (i := 44) rfl))) (by decide) (t := .int) (t' := .int) (by decide) (by decide)))
    replace E_aa := E_aa.wr W25
    replace T_bt := T_bt.other W25 (Ne.symm ne_aa_bt)
    replace A_bs := A_bs.other W25 (Ne.symm ne_aa_bs)
    replace A_be := A_be.other W25 (Ne.symm ne_aa_be)
    replace T_b2 := T_b2.other W25 (Ne.symm ne_aa_b2)
    have Z25 := Nat.le_trans Z23 (Keep.of_wr W25).1
    have N25 := Fr.snoc X25 N23 g_aa
    have K25 := K23.wr W25 (Or.inl (List.mem_of_getElem? (i := 0) rfl))
    replace F_textUsed_aa := F_textUsed_aa.same W25
    refine Go.step st25 ?_
    show Go _ _ _ _ _ _ _ (T25.setTop (mkF m 134 #[.val (.ref aa), .val (.int lv), .val (.int tu)] []))
    refine Go.step (fun t k => XS.iloadN X25.here hx rfl (hb hby d5_134) rfl k) ?_
    show Go _ _ _ _ _ _ _ (T25.setTop (mkF m 135 #[.val (.ref aa), .val (.int lv), .val (.int tu)] [(.int tu)]))
    refine Go.retI X25 Bd.notSynchronized hx Bd.returns (hb hby d5_135) (by decide) (by decide) ?_
    rw [e25]
    exact ⟨b2, (2 * nt), rfl, N25, K25, F_text_aa, F_starts_aa, F_ends_aa, F_firstFields_aa, F_lines_aa, F_faults_aa, F_textUsed_aa, F_fields_aa, F_records_aa, (Or.inr sz_b2), T_b2, A_bs, A_be, (by have q := own_unlt' hzt (own_add hku hkl (by omega)) hc11_4; omega)⟩
  · refine Go.step (fun t k => XS.icmpYes X2.here hx rfl (pc0 := 11) (pc' := 41) rfl (hb hby d5_11) rfl (flt hc11_4).2.2.2 (by decide) (by decide) k) ?_
    show Go _ _ _ _ _ _ _ (T2.setTop (mkF m 41 #[.val (.ref aa), .val (.int lv), .unset] []))
    refine Go.step (fun t k => XS.aloadN X2.here hx rfl (hb hby d5_41) rfl rfl k) ?_
    show Go _ _ _ _ _ _ _ (T2.setTop (mkF m 42 #[.val (.ref aa), .val (.int lv), .unset] [(.ref aa)]))
    obtain ⟨T26, X26, e26, st26⟩ := getF X2 hx hZ hown (host := "") (Or.inl (hw _ (List.mem_of_getElem? (i := 32) rfl))) Via.refl e2 F_fields_aa (g := (mkF m 42 #[.val (.ref aa), .val (.int lv), .unset] [(.ref aa)])) rfl rfl (hb hby d5_42)
    refine Go.step st26 ?_
    show Go _ _ _ _ _ _ _ (T26.setTop (mkF m 45 #[.val (.ref aa), .val (.int lv), .unset] [(.int fv)]))
    refine Go.step (fun t k => XS.aloadN X26.here hx rfl (hb hby d5_45) rfl rfl k) ?_
    show Go _ _ _ _ _ _ _ (T26.setTop (mkF m 46 #[.val (.ref aa), .val (.int lv), .unset] [(.ref aa), (.int fv)]))
    obtain ⟨T27, X27, e27, st27⟩ := getF X26 hx hZ hown (host := "") (Or.inl (hw _ (List.mem_of_getElem? (i := 13) rfl))) Via.refl e26 F_starts_aa (g := (mkF m 46 #[.val (.ref aa), .val (.int lv), .unset] [(.ref aa), (.int fv)])) rfl rfl (hb hby d5_46)
    refine Go.step st27 ?_
    show Go _ _ _ _ _ _ _ (T27.setTop (mkF m 49 #[.val (.ref aa), .val (.int lv), .unset] [(.ref bs), (.int fv)]))
    refine Go.step (own_len X27 hx hZ e27 A_bs (z := (256 : Int32)) rfl (f := (mkF m 49 #[.val (.ref aa), .val (.int lv), .unset] [(.ref bs), (.int fv)])) rfl rfl (hb hby d5_49)) ?_
    show Go _ _ _ _ _ _ _ (T27.setTop (mkF m 50 #[.val (.ref aa), .val (.int lv), .unset] [(.int (256 : Int32)), (.int fv)]))
    refine Go.step (fun t k => XS.icmpYes X27.here hx rfl (pc0 := 50) (pc' := 87) rfl (hb hby d5_50) rfl (feq (own_neq_ (j := 256) hkf rfl (by omega) : ¬ fv = (256 : Int32))).2 (by decide) (by decide) k) ?_
    show Go _ _ _ _ _ _ _ (T27.setTop (mkF m 87 #[.val (.ref aa), .val (.int lv), .unset] []))
    refine Go.step (fun t k => XS.aloadN X27.here hx rfl (hb hby d5_87) rfl rfl k) ?_
    show Go _ _ _ _ _ _ _ (T27.setTop (mkF m 88 #[.val (.ref aa), .val (.int lv), .unset] [(.ref aa)]))
    obtain ⟨T29, X29, e29, st29⟩ := getF X27 hx hZ hown (host := "") (Or.inl (hw _ (List.mem_of_getElem? (i := 43) rfl))) Via.refl e27 F_textUsed_aa (g := (mkF m 88 #[.val (.ref aa), .val (.int lv), .unset] [(.ref aa)])) rfl rfl (hb hby d5_88)
    refine Go.step st29 ?_
    show Go _ _ _ _ _ _ _ (T29.setTop (mkF m 91 #[.val (.ref aa), .val (.int lv), .unset] [(.int tu)]))
    refine Go.step (fun t k => XS.istoreN X29.here hx rfl (hb hby d5_91) rfl (l' := #[.val (.ref aa), .val (.int lv), .val (.int tu)]) rfl k) ?_
    show Go _ _ _ _ _ _ _ (T29.setTop (mkF m 92 #[.val (.ref aa), .val (.int lv), .val (.int tu)] []))
    refine Go.step (fun t k => XS.aloadN X29.here hx rfl (hb hby d5_92) rfl rfl k) ?_
    show Go _ _ _ _ _ _ _ (T29.setTop (mkF m 93 #[.val (.ref aa), .val (.int lv), .val (.int tu)] [(.ref aa)]))
    obtain ⟨T30, X30, e30, st30⟩ := getF X29 hx hZ hown (host := "") (Or.inl (hw _ (List.mem_of_getElem? (i := 13) rfl))) Via.refl e29 F_starts_aa (g := (mkF m 93 #[.val (.ref aa), .val (.int lv), .val (.int tu)] [(.ref aa)])) rfl rfl (hb hby d5_93)
    refine Go.step st30 ?_
    show Go _ _ _ _ _ _ _ (T30.setTop (mkF m 96 #[.val (.ref aa), .val (.int lv), .val (.int tu)] [(.ref bs)]))
    refine Go.step (fun t k => XS.aloadN X30.here hx rfl (hb hby d5_96) rfl rfl k) ?_
    show Go _ _ _ _ _ _ _ (T30.setTop (mkF m 97 #[.val (.ref aa), .val (.int lv), .val (.int tu)] [(.ref aa), (.ref bs)]))
    obtain ⟨T31, X31, e31, st31⟩ := getF X30 hx hZ hown (host := "") (Or.inl (hw _ (List.mem_of_getElem? (i := 32) rfl))) Via.refl e30 F_fields_aa (g := (mkF m 97 #[.val (.ref aa), .val (.int lv), .val (.int tu)] [(.ref aa), (.ref bs)])) rfl rfl (hb hby d5_97)
    refine Go.step st31 ?_
    show Go _ _ _ _ _ _ _ (T31.setTop (mkF m 100 #[.val (.ref aa), .val (.int lv), .val (.int tu)] [(.int fv), (.ref bs)]))
    refine Go.step (fun t k => XS.iloadN X31.here hx rfl (hb hby d5_100) rfl k) ?_
    show Go _ _ _ _ _ _ _ (T31.setTop (mkF m 101 #[.val (.ref aa), .val (.int lv), .val (.int tu)] [(.int tu), (.int fv), (.ref bs)]))
    obtain ⟨T32, h32, X32, e32, W32, st32⟩ := own_stI X31 hx hZ e31 A_bs kf hkf hf256 (f := (mkF m 101 #[.val (.ref aa), .val (.int lv), .val (.int tu)] [(.int tu), (.int fv), (.ref bs)])) rfl rfl (hb hby d5_101)
    replace F_text_aa := F_text_aa.other W32 (Or.inl ne_aa_bs)
    replace F_starts_aa := F_starts_aa.other W32 (Or.inl ne_aa_bs)
    replace F_ends_aa := F_ends_aa.other W32 (Or.inl ne_aa_bs)
    replace F_firstFields_aa := F_firstFields_aa.other W32 (Or.inl ne_aa_bs)
    replace F_lines_aa := F_lines_aa.other W32 (Or.inl ne_aa_bs)
    replace F_faults_aa := F_faults_aa.other W32 (Or.inl ne_aa_bs)
    replace F_textUsed_aa := F_textUsed_aa.other W32 (Or.inl ne_aa_bs)
    replace F_fields_aa := F_fields_aa.other W32 (Or.inl ne_aa_bs)
    replace F_records_aa := F_records_aa.other W32 (Or.inl ne_aa_bs)
    replace E_aa := E_aa.wr W32
    replace T_bt := T_bt.other W32 ne_bt_bs
    replace A_be := A_be.other W32 (Ne.symm ne_bs_be)
    have Z32 := Nat.le_trans Z0 (Keep.of_wr W32).1
    have N32 := Fr.snoc X32 N0 g_bs
    have K32 := K0.wr W32 (Or.inl (List.mem_of_getElem? (i := 1) rfl))
    replace A_bs := A_bs.setI W32
    refine Go.step st32 ?_
    show Go _ _ _ _ _ _ _ (T32.setTop (mkF m 102 #[.val (.ref aa), .val (.int lv), .val (.int tu)] []))
    refine Go.step (fun t k => XS.aloadN X32.here hx rfl (hb hby d5_102) rfl rfl k) ?_
    show Go _ _ _ _ _ _ _ (T32.setTop (mkF m 103 #[.val (.ref aa), .val (.int lv), .val (.int tu)] [(.ref aa)]))
    obtain ⟨T33, X33, e33, st33⟩ := getF X32 hx hZ hown (host := "") (Or.inl (hw _ (List.mem_of_getElem? (i := 15) rfl))) Via.refl e32 F_ends_aa (g := (mkF m 103 #[.val (.ref aa), .val (.int lv), .val (.int tu)] [(.ref aa)])) rfl rfl (hb hby d5_103)
    refine Go.step st33 ?_
    show Go _ _ _ _ _ _ _ (T33.setTop (mkF m 106 #[.val (.ref aa), .val (.int lv), .val (.int tu)] [(.ref be)]))
    refine Go.step (fun t k => XS.aloadN X33.here hx rfl (hb hby d5_106) rfl rfl k) ?_
    show Go _ _ _ _ _ _ _ (T33.setTop (mkF m 107 #[.val (.ref aa), .val (.int lv), .val (.int tu)] [(.ref aa), (.ref be)]))
    obtain ⟨T34, X34, e34, st34⟩ := getF X33 hx hZ hown (host := "") (Or.inl (hw _ (List.mem_of_getElem? (i := 32) rfl))) Via.refl e33 F_fields_aa (g := (mkF m 107 #[.val (.ref aa), .val (.int lv), .val (.int tu)] [(.ref aa), (.ref be)])) rfl rfl (hb hby d5_107)
    refine Go.step st34 ?_
    show Go _ _ _ _ _ _ _ (T34.setTop (mkF m 110 #[.val (.ref aa), .val (.int lv), .val (.int tu)] [(.int fv), (.ref be)]))
    refine Go.step (fun t k => XS.iloadN X34.here hx rfl (hb hby d5_110) rfl k) ?_
    show Go _ _ _ _ _ _ _ (T34.setTop (mkF m 111 #[.val (.ref aa), .val (.int lv), .val (.int tu)] [(.int tu), (.int fv), (.ref be)]))
    refine Go.step (fun t k => XS.iloadN X34.here hx rfl (hb hby d5_111) rfl k) ?_
    show Go _ _ _ _ _ _ _ (T34.setTop (mkF m 112 #[.val (.ref aa), .val (.int lv), .val (.int tu)] [(.int lv), (.int tu), (.int fv), (.ref be)]))
    refine Go.step (fun t k => XS.iadd X34.here hx rfl (hb hby d5_112) rfl k) ?_
    show Go _ _ _ _ _ _ _ (T34.setTop (mkF m 113 #[.val (.ref aa), .val (.int lv), .val (.int tu)] [(.int (tu + lv)), (.int fv), (.ref be)]))
    obtain ⟨T35, h35, X35, e35, W35, st35⟩ := own_stI X34 hx hZ e34 A_be kf hkf hf256 (f := (mkF m 113 #[.val (.ref aa), .val (.int lv), .val (.int tu)] [(.int (tu + lv)), (.int fv), (.ref be)])) rfl rfl (hb hby d5_113)
    replace F_text_aa := F_text_aa.other W35 (Or.inl ne_aa_be)
    replace F_starts_aa := F_starts_aa.other W35 (Or.inl ne_aa_be)
    replace F_ends_aa := F_ends_aa.other W35 (Or.inl ne_aa_be)
    replace F_firstFields_aa := F_firstFields_aa.other W35 (Or.inl ne_aa_be)
    replace F_lines_aa := F_lines_aa.other W35 (Or.inl ne_aa_be)
    replace F_faults_aa := F_faults_aa.other W35 (Or.inl ne_aa_be)
    replace F_textUsed_aa := F_textUsed_aa.other W35 (Or.inl ne_aa_be)
    replace F_fields_aa := F_fields_aa.other W35 (Or.inl ne_aa_be)
    replace F_records_aa := F_records_aa.other W35 (Or.inl ne_aa_be)
    replace E_aa := E_aa.wr W35
    replace T_bt := T_bt.other W35 ne_bt_be
    replace A_bs := A_bs.other W35 ne_bs_be
    have Z35 := Nat.le_trans Z32 (Keep.of_wr W35).1
    have N35 := Fr.snoc X35 N32 g_be
    have K35 := K32.wr W35 (Or.inl (List.mem_of_getElem? (i := 2) rfl))
    replace A_be := A_be.setI W35
    refine Go.step st35 ?_
    show Go _ _ _ _ _ _ _ (T35.setTop (mkF m 114 #[.val (.ref aa), .val (.int lv), .val (.int tu)] []))
    refine Go.step (fun t k => XS.aloadN X35.here hx rfl (hb hby d5_114) rfl rfl k) ?_
    show Go _ _ _ _ _ _ _ (T35.setTop (mkF m 115 #[.val (.ref aa), .val (.int lv), .val (.int tu)] [(.ref aa)]))
    refine Go.step (fun t k => XS.dup X35.here hx rfl (hb hby d5_115) rfl rfl k) ?_
    show Go _ _ _ _ _ _ _ (T35.setTop (mkF m 116 #[.val (.ref aa), .val (.int lv), .val (.int tu)] [(.ref aa), (.ref aa)]))
    obtain ⟨T36, X36, e36, st36⟩ := getF X35 hx hZ hown (host := "") (Or.inl (hw _ (List.mem_of_getElem? (i := 32) rfl))) Via.refl e35 F_fields_aa (g := (mkF m 116 #[.val (.ref aa), .val (.int lv), .val (.int tu)] [(.ref aa), (.ref aa)])) rfl rfl (hb hby d5_116)
    refine Go.step st36 ?_
    show Go _ _ _ _ _ _ _ (T36.setTop (mkF m 119 #[.val (.ref aa), .val (.int lv), .val (.int tu)] [(.int fv), (.ref aa)]))
    refine Go.step (fun t k => XS.iconst X36.here hx rfl (hb hby d5_119) k) ?_
    show Go _ _ _ _ _ _ _ (T36.setTop (mkF m 120 #[.val (.ref aa), .val (.int lv), .val (.int tu)] [(.int (1 : Int32)), (.int fv), (.ref aa)]))
    refine Go.step (fun t k => XS.iadd X36.here hx rfl (hb hby d5_120) rfl k) ?_
    show Go _ _ _ _ _ _ _ (T36.setTop (mkF m 121 #[.val (.ref aa), .val (.int lv), .val (.int tu)] [(.int (fv + (1 : Int32))), (.ref aa)]))
    obtain ⟨T37, h37, X37, e37, W37, st37⟩ := putF X36 hx hZ hown (host := "") (Or.inl (hw _ (List.mem_of_getElem? (i := 32) rfl))) Via.refl e36 F_fields_aa E_aa (Or.inl (hw _ (List.mem_of_getElem? (i := 33) rfl))) (hw _ (List.mem_of_getElem? (i := 2) rfl)) (ty := .int) (by decide) rfl rfl (g := (mkF m 121 #[.val (.ref aa), .val (.int lv), .val (.int tu)] [(.int (fv + (1 : Int32))), (.ref aa)])) rfl rfl (hb hby d5_121)
    replace F_text_aa := F_text_aa.other W37 (Or.inr (slot_ne (Or.inl (hw _ (List.mem_of_getElem? (i := 11) rfl))) (Or.inl (hw _ (List.mem_of_getElem? (i := 33) rfl))) (by decide) (t := (.array .char)) (t' := .int) (by decide) (by decide)))
    replace F_starts_aa := F_starts_aa.other W37 (Or.inr (slot_ne (Or.inl (hw _ (List.mem_of_getElem? (i := 14) rfl))) (Or.inl (hw _ (List.mem_of_getElem? (i := 33) rfl))) (by decide) (t := (.array .int)) (t' := .int) (by decide) (by decide)))
    replace F_ends_aa := F_ends_aa.other W37 (Or.inr (slot_ne (Or.inl (hw _ (List.mem_of_getElem? (i := 16) rfl))) (Or.inl (hw _ (List.mem_of_getElem? (i := 33) rfl))) (by decide) (t := (.array .int)) (t' := .int) (by decide) (by decide)))
    replace F_firstFields_aa := F_firstFields_aa.other W37 (Or.inr (slot_ne (Or.inl (hw _ (List.mem_of_getElem? (i := 18) rfl))) (Or.inl (hw _ (List.mem_of_getElem? (i := 33) rfl))) (by decide) (t := (.array .int)) (t' := .int) (by decide) (by decide)))
    replace F_lines_aa := F_lines_aa.other W37 (Or.inr (slot_ne (Or.inl (hw _ (List.mem_of_getElem? (i := 20) rfl))) (Or.inl (hw _ (List.mem_of_getElem? (i := 33) rfl))) (by decide) (t := (.array .int)) (t' := .int) (by decide) (by decide)))
    replace F_faults_aa := F_faults_aa.other W37 (Or.inr (slot_ne (Or.inl (hw _ (List.mem_of_getElem? (i := 24) rfl))) (Or.inl (hw _ (List.mem_of_getElem? (i := 33) rfl))) (by decide) (t := (.array (.object "com/example/vestwright/vestwright/io/CsvFormatException"))) (t' := .int) (by decide) (by decide)))
    replace F_textUsed_aa := F_textUsed_aa.other W37 (Or.inr (slot_ne (Or.inl (hw _ (List.mem_of_getElem? (i := 44) rfl))) (Or.inl (hw _ (List.mem_of_getElem? (i := 33) rfl))) (by decide) (t := .int) (t' := .int) (by decide) (by decide)))
    replace F_records_aa := F_records_aa.other W37 (Or.inr (slot_ne (Or.inl (hw _ (List.mem_of_getElem? (i := 31) rfl))) (Or.inl (hw _ (List.mem_of_getElem? (i := 33) rfl))) (by decide) (t := .int) (t' := .int) (by decide) (by decide)))
    replace E_aa := E_aa.wr W37
    replace T_bt := T_bt.other W37 (Ne.symm ne_aa_bt)
    replace A_bs := A_bs.other W37 (Ne.symm ne_aa_bs)
    replace A_be := A_be.other W37 (Ne.symm ne_aa_be)
    have Z37 := Nat.le_trans Z35 (Keep.of_wr W37).1
    have N37 := Fr.snoc X37 N35 g_aa
    have K37 := K35.wr W37 (Or.inl (List.mem_of_getElem? (i := 0) rfl))
    replace F_fields_aa := F_fields_aa.same W37
    refine Go.step st37 ?_
    show Go _ _ _ _ _ _ _ (T37.setTop (mkF m 124 #[.val (.ref aa), .val (.int lv), .val (.int tu)] []))
    refine Go.step (fun t k => XS.aloadN X37.here hx rfl (hb hby d5_124) rfl rfl k) ?_
    show Go _ _ _ _ _ _ _ (T37.setTop (mkF m 125 #[.val (.ref aa), .val (.int lv), .val (.int tu)] [(.ref aa)]))
    refine Go.step (fun t k => XS.dup X37.here hx rfl (hb hby d5_125) rfl rfl k) ?_
    show Go _ _ _ _ _ _ _ (T37.setTop (mkF m 126 #[.val (.ref aa), .val (.int lv), .val (.int tu)] [(.ref aa), (.ref aa)]))
    obtain ⟨T38, X38, e38, st38⟩ := getF X37 hx hZ hown (host := "") (Or.inl (hw _ (List.mem_of_getElem? (i := 43) rfl))) Via.refl e37 F_textUsed_aa (g := (mkF m 126 #[.val (.ref aa), .val (.int lv), .val (.int tu)] [(.ref aa), (.ref aa)])) rfl rfl (hb hby d5_126)
    refine Go.step st38 ?_
    show Go _ _ _ _ _ _ _ (T38.setTop (mkF m 129 #[.val (.ref aa), .val (.int lv), .val (.int tu)] [(.int tu), (.ref aa)]))
    refine Go.step (fun t k => XS.iloadN X38.here hx rfl (hb hby d5_129) rfl k) ?_
    show Go _ _ _ _ _ _ _ (T38.setTop (mkF m 130 #[.val (.ref aa), .val (.int lv), .val (.int tu)] [(.int lv), (.int tu), (.ref aa)]))
    refine Go.step (fun t k => XS.iadd X38.here hx rfl (hb hby d5_130) rfl k) ?_
    show Go _ _ _ _ _ _ _ (T38.setTop (mkF m 131 #[.val (.ref aa), .val (.int lv), .val (.int tu)] [(.int (tu + lv)), (.ref aa)]))
    obtain ⟨T39, h39, X39, e39, W39, st39⟩ := putF X38 hx hZ hown (host := "") (Or.inl (hw _ (List.mem_of_getElem? (i := 43) rfl))) Via.refl e38 F_textUsed_aa E_aa (Or.inl (hw _ (List.mem_of_getElem? (i := 44) rfl))) (hw _ (List.mem_of_getElem? (i := 2) rfl)) (ty := .int) (by decide) rfl rfl (g := (mkF m 131 #[.val (.ref aa), .val (.int lv), .val (.int tu)] [(.int (tu + lv)), (.ref aa)])) rfl rfl (hb hby d5_131)
    replace F_text_aa := F_text_aa.other W39 (Or.inr (slot_ne (Or.inl (hw _ (List.mem_of_getElem? (i := 11) rfl))) (Or.inl (hw _ (List.mem_of_getElem? (i := 44) rfl))) (by decide) (t := (.array .char)) (t' := .int) (by decide) (by decide)))
    replace F_starts_aa := F_starts_aa.other W39 (Or.inr (slot_ne (Or.inl (hw _ (List.mem_of_getElem? (i := 14) rfl))) (Or.inl (hw _ (List.mem_of_getElem? (i := 44) rfl))) (by decide) (t := (.array .int)) (t' := .int) (by decide) (by decide)))
    replace F_ends_aa := F_ends_aa.other W39 (Or.inr (slot_ne (Or.inl (hw _ (List.mem_of_getElem? (i := 16) rfl))) (Or.inl (hw _ (List.mem_of_getElem? (i := 44) rfl))) (by decide) (t := (.array .int)) (t' := .int) (by decide) (by decide)))
    replace F_firstFields_aa := F_firstFields_aa.other W39 (Or.inr (slot_ne (Or.inl (hw _ (List.mem_of_getElem? (i := 18) rfl))) (Or.inl (hw _ (List.mem_of_getElem? (i := 44) rfl))) (by decide) (t := (.array .int)) (t' := .int) (by decide) (by decide)))
    replace F_lines_aa := F_lines_aa.other W39 (Or.inr (slot_ne (Or.inl (hw _ (List.mem_of_getElem? (i := 20) rfl))) (Or.inl (hw _ (List.mem_of_getElem? (i := 44) rfl))) (by decide) (t := (.array .int)) (t' := .int) (by decide) (by decide)))
    replace F_faults_aa := F_faults_aa.other W39 (Or.inr (slot_ne (Or.inl (hw _ (List.mem_of_getElem? (i := 24) rfl))) (Or.inl (hw _ (List.mem_of_getElem? (i := 44) rfl))) (by decide) (t := (.array (.object "com/example/vestwright/vestwright/io/CsvFormatException"))) (t' := .int) (by decide) (by decide)))
    replace F_fields_aa := F_fields_aa.other W39 (Or.inr (slot_ne (Or.inl (hw _ (List.mem_of_getElem? (i := 33) rfl))) (Or.inl (hw _ (List.mem_of_getElem? (i := 44) rfl))) (by decide) (t := .int) (t' := .int) (by decide) (by decide)))
    replace F_records_aa := F_records_aa.other W39 (Or.inr (slot_ne (Or.inl (hw _ (List.mem_of_getElem? (i := 31) rfl))) (Or.inl (hw _ (List.mem_of_getElem? (i := 44) rfl))) (by decide) (t := .int) (t' := .int) (by decide) (by decide)))
    replace E_aa := E_aa.wr W39
    replace T_bt := T_bt.other W39 (Ne.symm ne_aa_bt)
    replace A_bs := A_bs.other W39 (Ne.symm ne_aa_bs)
    replace A_be := A_be.other W39 (Ne.symm ne_aa_be)
    have Z39 := Nat.le_trans Z37 (Keep.of_wr W39).1
    have N39 := Fr.snoc X39 N37 g_aa
    have K39 := K37.wr W39 (Or.inl (List.mem_of_getElem? (i := 0) rfl))
    replace F_textUsed_aa := F_textUsed_aa.same W39
    refine Go.step st39 ?_
    show Go _ _ _ _ _ _ _ (T39.setTop (mkF m 134 #[.val (.ref aa), .val (.int lv), .val (.int tu)] []))
    refine Go.step (fun t k => XS.iloadN X39.here hx rfl (hb hby d5_134) rfl k) ?_
    show Go _ _ _ _ _ _ _ (T39.setTop (mkF m 135 #[.val (.ref aa), .val (.int lv), .val (.int tu)] [(.int tu)]))
    refine Go.retI X39 Bd.notSynchronized hx Bd.returns (hb hby d5_135) (by decide) (by decide) ?_
    rw [e39]
    exact ⟨bt, nt, rfl, N39, K39, F_text_aa, F_starts_aa, F_ends_aa, F_firstFields_aa, F_lines_aa, F_faults_aa, F_textUsed_aa, F_fields_aa, F_records_aa, (Or.inl rfl), T_bt, A_bs, A_be, (by have q := own_unlt hzt (own_add hku hkl (by omega)) hc11_4; omega)⟩
theorem d4_0 : decode prog_63_method_9_code 0 = .ok (.aload_n 0, 1) := by decide +kernel
theorem d4_1 : decode prog_63_method_9_code 1 = .ok (.iload_n 3, 1) := by decide +kernel
theorem d4_2 : decode prog_63_method_9_code 2 = .ok (.invokevirtual 71, 3) := by decide +kernel
theorem d4_5 : decode prog_63_method_9_code 5 = .ok (.istore 4, 2) := by decide +kernel
theorem d4_7 : decode prog_63_method_9_code 7 = .ok (.aload_n 1, 1) := by decide +kernel
theorem d4_8 : decode prog_63_method_9_code 8 = .ok (.iload_n 2, 1) := by decide +kernel
theorem d4_9 : decode prog_63_method_9_code 9 = .ok (.aload_n 0, 1) := by decide +kernel
theorem d4_10 : decode prog_63_method_9_code 10 = .ok (.getfield 7, 3) := by decide +kernel
theorem d4_13 : decode prog_63_method_9_code 13 = .ok (.iload 4, 2) := by decide +kernel
theorem d4_15 : decode prog_63_method_9_code 15 = .ok (.iload_n 3, 1) := by decide +kernel
theorem d4_16 : decode prog_63_method_9_code 16 = .ok (.invokestatic 75, 3) := by decide +kernel
theorem d4_19 : decode prog_63_method_9_code 19 = .ok (.return_, 1) := by decide +kernel
theorem pn_4 : plainName "com/example/vestwright/vestwright/io/Records" = true := by first | (simp [plainName, overriddenIn]; done) | decide +kernel
theorem pd_4_0 : parseMethodDescriptor "(I)I" = some ⟨[.int], some .int⟩ := by decide +kernel
theorem ef_4 (m : MethodId) (x0 : Addr) (x1 : Addr) (x2 : Int32) (x3 : Int32) : entryFrame m #[(.ref x0), (.ref x1), (.int x2), (.int x3)] 5 = mkF m 0 #[.val (.ref x0), .val (.ref x1), .val (.int x2), .val (.int x3), .unset] [] := by first | (simp [entryFrame, mkF, argsToLocals, Value.category]; done) | rfl
def Q4 (Z : State) (aa : Addr) (bb : Addr) (ov : Int32) (lv : Int32) (bt : Addr) (bs : Addr) (be : Addr) (bf : Addr) (bn : Addr) (bx : Addr) (tu : Int32) (fv : Int32) (rv : Int32) (zt : Int32) (nt : Nat) (ku : Nat) (kl : Nat) (kf : Nat) (ko : Nat) (gs : Nat → Int32) (ge_ : Nat → Int32) (h0 : Heap) (n0 : Nat) (v : Option Value) (h : Heap) (L : List Loc) : Prop := ∃ b2 : Addr, ∃ n2 : Nat, v = none ∧ Fr n0 L ∧ Keep h0 h [aa, bt, bs, be] ∧ Fld Z h aa "com/example/vestwright/vestwright/io/Records" "text" "[C" (.ref b2) ∧ Fld Z h aa "com/example/vestwright/vestwright/io/Records" "starts" "[I" (.ref bs) ∧ Fld Z h aa "com/example/vestwright/vestwright/io/Records" "ends" "[I" (.ref be) ∧ Fld Z h aa "com/example/vestwright/vestwright/io/Records" "firstFields" "[I" (.ref bf) ∧ Fld Z h aa "com/example/vestwright/vestwright/io/Records" "lines" "[I" (.ref bn) ∧ Fld Z h aa "com/example/vestwright/vestwright/io/Records" "faults" "[Lcom/example/vestwright/vestwright/io/CsvFormatException;" (.ref bx) ∧ Fld Z h aa "com/example/vestwright/vestwright/io/Records" "textUsed" "I" (.int (tu + lv)) ∧ Fld Z h aa "com/example/vestwright/vestwright/io/Records" "fields" "I" (.int (fv + (1 : Int32))) ∧ Fld Z h aa "com/example/vestwright/vestwright/io/Records" "records" "I" (.int rv) ∧ (b2 = bt ∨ h0.size ≤ b2) ∧ Txt Z h b2 n2 ∧ AryI Z h bs .int 256 (up gs kf tu) ∧ AryI Z h be .int 256 (up ge_ kf (tu + lv)) ∧ (ku + kl ≤ n2 ∧ n2 ≤ 2 * nt ∧ nt ≤ n2 ∧ (ku + kl ≤ nt → n2 = nt))
set_option maxRecDepth 65536 in
set_option maxHeartbeats 40000000 in
theorem rm4 (l : Launch) (Z : State) (a0 : Array Value) (hw : ∀ d ∈ tables_1, d.before a0 Z = true) (ws : List Jvm.Cond) (aa : Addr) (bb : Addr) (ov : Int32) (lv : Int32) (bt : Addr) (bs : Addr) (be : Addr) (bf : Addr) (bn : Addr) (bx : Addr) (tu : Int32) (fv : Int32) (rv : Int32) (zt : Int32) (nt : Nat) (ku : Nat) (kl : Nat) (kf : Nat) (ko : Nat) (gs : Nat → Int32) (ge_ : Nat → Int32) (h0 : Heap) (n0 : Nat) (Z0 : n0 ≤ h0.size) (F_text_aa : Fld Z h0 aa "com/example/vestwright/vestwright/io/Records" "text" "[C" (.ref bt)) (F_starts_aa : Fld Z h0 aa "com/example/vestwright/vestwright/io/Records" "starts" "[I" (.ref bs)) (F_ends_aa : Fld Z h0 aa "com/example/vestwright/vestwright/io/Records" "ends" "[I" (.ref be)) (F_firstFields_aa : Fld Z h0 aa "com/example/vestwright/vestwright/io/Records" "firstFields" "[I" (.ref bf)) (F_lines_aa : Fld Z h0 aa "com/example/vestwright/vestwright/io/Records" "lines" "[I" (.ref bn)) (F_faults_aa : Fld Z h0 aa "com/example/vestwright/vestwright/io/Records" "faults" "[Lcom/example/vestwright/vestwright/io/CsvFormatException;" (.ref bx)) (F_textUsed_aa : Fld Z h0 aa "com/example/vestwright/vestwright/io/Records" "textUsed" "I" (.int tu)) (F_fields_aa : Fld Z h0 aa "com/example/vestwright/vestwright/io/Records" "fields" "I" (.int fv)) (F_records_aa : Fld Z h0 aa "com/example/vestwright/vestwright/io/Records" "records" "I" (.int rv)) (E_aa : Exa Z h0 aa "com/example/vestwright/vestwright/io/Records") (g_aa : n0 ≤ aa) (g_bt : n0 ≤ bt) (g_bs : n0 ≤ bs) (g_be : n0 ≤ be) (T_bt : Txt Z h0 bt nt) (T_bb : Txt Z h0 bb 8192) (A_bs : AryI Z h0 bs .int 256 gs) (A_be : AryI Z h0 be .int 256 ge_) (ne_bt_bs : bt ≠ bs) (ne_bt_be : bt ≠ be) (ne_bs_be : bs ≠ be) (ne_aa_bt : aa ≠ bt) (ne_aa_bs : aa ≠ bs) (ne_aa_be : aa ≠ be) (ne_bb_bt : bb ≠ bt) (ne_bb_bs : bb ≠ bs) (ne_bb_be : bb ≠ be) (ne_bb_aa : bb ≠ aa) (hzt : (zt.toInt = (nt : Int))) (hku : (tu.toInt = (ku : Int))) (hkl : (lv.toInt = (kl : Int))) (hkf : (fv.toInt = (kf : Int))) (hf256 : (kf < 256)) (hnt : (nt ≤ 8192)) (h0nt : (0 < nt)) (hsum : (ku + kl ≤ 2 * nt)) (hko : (ov.toInt = (ko : Int))) (hbuf : (ko + kl ≤ 8192)) :
    MetFree l (⟨"com/example/vestwright/vestwright/io/Records", "addField", "([CII)V"⟩ : MethodName) (head1 (Jvm.Cond.code (⟨"com/example/vestwright/vestwright/io/Records", "addField", "([CII)V"⟩ : MethodName) prog_63_method_9_code 5 none :: ws) ({ frames := 3, cells := 1, slots := 16384, locals := 69 } : Room)) (fun a U => a = #[(.ref aa), (.ref bb), (.int ov), (.int lv)] ∧ Z.Warmed39 U.vm ∧ U.heap = h0) (fun _ _ _ _ _ => True) (fun _ U o U' => ∃ v L, o = .returned v ∧ Q4 Z aa bb ov lv bt bs be bf bn bx tu fv rv zt nt ku kl kf ko gs ge_ h0 n0 v U'.heap L ∧ FrameEnd U o U' L ({ frames := 3, cells := 1, slots := 16384, locals := 69 } : Room).cells ({ frames := 3, cells := 1, slots := 16384, locals := 69 } : Room).slots) := by
  refine MetFree.of_bodySF (plainFor_of_name pn_4) hisR ?_
  intro p e s m args below meth c s₁ Bd hml0 hP hK
  obtain ⟨rfl, hZ, hh⟩ := hP
  have hx := Bd.exec
  have hby := Bd.bytes
  have hml : c.maxLocals = 5 := hml0
  have hown : s.vm.findClass "com/example/vestwright/vestwright/io/Records" = some m.cls := findClass_of_methodNamed Bd.named
  have hnm := (name_of_methodNamed Bd.named Bd.method).1
  have X0 : Stand p l e ({ frames := 3, cells := 1, slots := 16384, locals := 69 } : Room) s m #[(.ref aa), (.ref bb), (.int ov), (.int lv)] below meth c s₁ [] 0 0 := Stand.of_body Bd
  have e0 : s₁.heap = h0 := by rw [← hh, Bd.state]; rfl
  have N0 := Fr.nil n0
  have K0 := Keep.refl h0 ([aa, bt, bs, be] : List Addr)
  show Go p e below s (Q4 Z aa bb ov lv bt bs be bf bn bx tu fv rv zt nt ku kl kf ko gs ge_ h0 n0) ({ frames := 3, cells := 1, slots := 16384, locals := 69 } : Room).cells ({ frames := 3, cells := 1, slots := 16384, locals := 69 } : Room).slots (s₁.setTop (entryFrame m #[(.ref aa), (.ref bb), (.int ov), (.int lv)] 5))
  rw [ef_4]
  show Go _ _ _ _ _ _ _ (s₁.setTop (mkF m 0 #[.val (.ref aa), .val (.ref bb), .val (.int ov), .val (.int lv), .unset] []))
  refine Go.step (fun t k => XS.aloadN X0.here hx rfl (hb hby d4_0) rfl rfl k) ?_
  show Go _ _ _ _ _ _ _ (s₁.setTop (mkF m 1 #[.val (.ref aa), .val (.ref bb), .val (.int ov), .val (.int lv), .unset] [(.ref aa)]))
  refine Go.step (fun t k => XS.iloadN X0.here hx rfl (hb hby d4_1) rfl k) ?_
  show Go _ _ _ _ _ _ _ (s₁.setTop (mkF m 2 #[.val (.ref aa), .val (.ref bb), .val (.int ov), .val (.int lv), .unset] [(.int lv), (.ref aa)]))
  obtain ⟨cq1, q1, q1'⟩ := E_aa.cell
  obtain ⟨_, _, ⟨T1, L1, k1, n1⟩, -, X1, ⟨Lc1, hQ1, l1, y1, z1⟩, st1⟩ := X0.privateBack hx (y := (⟨"com/example/vestwright/vestwright/io/Records", "reserve", "(I)I"⟩ : MethodName)) hown (mvT hZ (hw _ (List.mem_of_getElem? (i := 39) rfl))) (mvT hZ (hw _ (List.mem_of_getElem? (i := 40) rfl))) (own_selP hZ (hw _ (List.mem_of_getElem? (i := 2) rfl)) (hw _ (List.mem_of_getElem? (i := 40) rfl)) (hw _ (List.mem_of_getElem? (i := 41) rfl)) (by decide)) (Cond.privateMethod_at (mvP hZ (hw _ (List.mem_of_getElem? (i := 41) rfl)) (args := #[]))) (mvT hZ (hw _ (List.mem_of_getElem? (i := 42) rfl))) (by decide) (backOf (W := 0) (rm5 l Z a0 hw [] aa lv bt bs be bf bn bx tu fv rv zt nt ku kl kf gs ge_ h0 n0 Z0 F_text_aa F_starts_aa F_ends_aa F_firstFields_aa F_lines_aa F_faults_aa F_textUsed_aa F_fields_aa F_records_aa E_aa g_aa g_bt g_bs g_be T_bt A_bs A_be ne_bt_bs ne_bt_be ne_bs_be ne_aa_bt ne_aa_bs ne_aa_be hzt hku hkl hkf hf256 hnt h0nt hsum) hZ (hw _ (List.mem_of_getElem? (i := 42) rfl)) (hw _ (List.mem_of_getElem? (i := 3) rfl)) (by decide) (by decide)) (g := (mkF m 2 #[.val (.ref aa), .val (.ref bb), .val (.int ov), .val (.int lv), .unset] [(.int lv), (.ref aa)])) rfl (by rw [hml]; rfl) (Steps.refl _) (a := aa) (by rw [e0]; exact q1) q1' (argsL := [(.int lv)]) (rest := []) (lenOf pd_4_0 rfl) rfl (by show 2 * 0 + _ ≤ _; exact Nat.le_of_eq rfl) (hb hby d4_2) (fun _ _ => ⟨rfl, e0, (by decide : 0 + 1 ≤ _), (by decide : 0 + 16384 ≤ _)⟩)
  dsimp only [Pt.U, Pt.locs, Pt.cells, Pt.slots] at X1 l1 y1 z1 st1 hQ1
  subst l1 y1 z1
  obtain ⟨b2, n2, rfl, N1q, K1q, o1_F_text_aa, o1_F_starts_aa, o1_F_ends_aa, o1_F_firstFields_aa, o1_F_lines_aa, o1_F_faults_aa, o1_F_textUsed_aa, o1_F_fields_aa, o1_F_records_aa, o1_nw_b2, o1_T_b2, o1_A_bs, o1_A_be, o1_hn2⟩ := hQ1
  have N1 := Fr.app N0 N1q
  have ne_aa_b2 : aa ≠ b2 := own_nex o1_nw_b2 ne_aa_bt F_text_aa.lt
  have ne_bb_b2 : bb ≠ b2 := own_nex o1_nw_b2 ne_bb_bt T_bb.lt
  have ne_bs_b2 : bs ≠ b2 := own_nex o1_nw_b2 (Ne.symm ne_bt_bs) A_bs.lt
  have ne_be_b2 : be ≠ b2 := own_nex o1_nw_b2 (Ne.symm ne_bt_be) A_be.lt
  have g_b2 : n0 ≤ b2 := own_gex o1_nw_b2 g_bt Z0
  have wq_b2 : b2 ∈ ([aa, bt, bs, be] : List Addr) ∨ h0.size ≤ b2 := own_wqx o1_nw_b2 (Or.inl (List.mem_of_getElem? (i := 1) rfl)) K0.1
  replace E_aa := E_aa.keep K1q
  replace T_bb := T_bb.keep K1q (ninS ne_bb_aa (ninS ne_bb_bs (ninS ne_bb_be nin0)))
  have Z1 := Nat.le_trans Z0 K1q.1
  have K1' := K0.trans K1q (allS (Or.inl (List.mem_of_getElem? (i := 0) rfl)) (allS (Or.inl (List.mem_of_getElem? (i := 2) rfl)) (allS (Or.inl (List.mem_of_getElem? (i := 3) rfl)) all0)))
  have F_text_aa := o1_F_text_aa
  have F_starts_aa := o1_F_starts_aa
  have F_ends_aa := o1_F_ends_aa
  have F_firstFields_aa := o1_F_firstFields_aa
  have F_lines_aa := o1_F_lines_aa
  have F_faults_aa := o1_F_faults_aa
  have F_textUsed_aa := o1_F_textUsed_aa
  have F_fields_aa := o1_F_fields_aa
  have F_records_aa := o1_F_records_aa
  have T_b2 := o1_T_b2
  have A_bs := o1_A_bs
  have A_be := o1_A_be
  refine Go.step (fun t k => st1.trans k) ?_
  show Go _ _ _ _ _ _ _ (T1.setTop (mkF m 5 #[.val (.ref aa), .val (.ref bb), .val (.int ov), .val (.int lv), .unset] [(.int tu)]))
  refine Go.step (fun t k => XS.istore X1.here hx rfl (hb hby d4_5) rfl (l' := #[.val (.ref aa), .val (.ref bb), .val (.int ov), .val (.int lv), .val (.int tu)]) rfl k) ?_
  show Go _ _ _ _ _ _ _ (T1.setTop (mkF m 7 #[.val (.ref aa), .val (.ref bb), .val (.int ov), .val (.int lv), .val (.int tu)] []))
  refine Go.step (fun t k => XS.aloadN X1.here hx rfl (hb hby d4_7) rfl rfl k) ?_
  show Go _ _ _ _ _ _ _ (T1.setTop (mkF m 8 #[.val (.ref aa), .val (.ref bb), .val (.int ov), .val (.int lv), .val (.int tu)] [(.ref bb)]))
  refine Go.step (fun t k => XS.iloadN X1.here hx rfl (hb hby d4_8) rfl k) ?_
  show Go _ _ _ _ _ _ _ (T1.setTop (mkF m 9 #[.val (.ref aa), .val (.ref bb), .val (.int ov), .val (.int lv), .val (.int tu)] [(.int ov), (.ref bb)]))
  refine Go.step (fun t k => XS.aloadN X1.here hx rfl (hb hby d4_9) rfl rfl k) ?_
  show Go _ _ _ _ _ _ _ (T1.setTop (mkF m 10 #[.val (.ref aa), .val (.ref bb), .val (.int ov), .val (.int lv), .val (.int tu)] [(.ref aa), (.int ov), (.ref bb)]))
  obtain ⟨T2, X2, e2, st2⟩ := getF X1 hx hZ hown (host := "") (Or.inl (hw _ (List.mem_of_getElem? (i := 10) rfl))) Via.refl rfl F_text_aa (g := (mkF m 10 #[.val (.ref aa), .val (.ref bb), .val (.int ov), .val (.int lv), .val (.int tu)] [(.ref aa), (.int ov), (.ref bb)])) rfl rfl (hb hby d4_10)
  refine Go.step st2 ?_
  show Go _ _ _ _ _ _ _ (T2.setTop (mkF m 13 #[.val (.ref aa), .val (.ref bb), .val (.int ov), .val (.int lv), .val (.int tu)] [(.ref b2), (.int ov), (.ref bb)]))
  refine Go.step (fun t k => XS.iload X2.here hx rfl (hb hby d4_13) rfl k) ?_
  show Go _ _ _ _ _ _ _ (T2.setTop (mkF m 15 #[.val (.ref aa), .val (.ref bb), .val (.int ov), .val (.int lv), .val (.int tu)] [(.int tu), (.ref b2), (.int ov), (.ref bb)]))
  refine Go.step (fun t k => XS.iloadN X2.here hx rfl (hb hby d4_15) rfl k) ?_
  show Go _ _ _ _ _ _ _ (T2.setTop (mkF m 16 #[.val (.ref aa), .val (.ref bb), .val (.int ov), .val (.int lv), .val (.int tu)] [(.int lv), (.int tu), (.ref b2), (.int ov), (.ref bb)]))
  obtain ⟨T3, h3, Lx3, X3, e3, Nn3, K3q, Tx3, st3⟩ := own_cp X2 hx hZ hown (hw _ (List.mem_of_getElem? (i := 45) rfl)) (hw _ (List.mem_of_getElem? (i := 48) rfl)) (hw _ (List.mem_of_getElem? (i := 46) rfl)) (hw _ (List.mem_of_getElem? (i := 47) rfl)) e2 T_bb T_b2 ko ku kl hko hku hkl hbuf o1_hn2.1 N1 g_b2 (g := (mkF m 16 #[.val (.ref aa), .val (.ref bb), .val (.int ov), .val (.int lv), .val (.int tu)] [(.int lv), (.int tu), (.ref b2), (.int ov), (.ref bb)])) rfl (by rw [hml]; rfl) rfl (hb hby d4_16) (by decide) (W := 0) (by show 2 * 0 + _ ≤ _; exact Nat.le_of_eq rfl) (by decide)
  replace E_aa := E_aa.keep K3q
  replace T_bb := T_bb.keep K3q (ninS ne_bb_b2 nin0)
  replace F_text_aa := F_text_aa.keep K3q (ninS ne_aa_b2 nin0)
  replace F_starts_aa := F_starts_aa.keep K3q (ninS ne_aa_b2 nin0)
  replace F_ends_aa := F_ends_aa.keep K3q (ninS ne_aa_b2 nin0)
  replace F_firstFields_aa := F_firstFields_aa.keep K3q (ninS ne_aa_b2 nin0)
  replace F_lines_aa := F_lines_aa.keep K3q (ninS ne_aa_b2 nin0)
  replace F_faults_aa := F_faults_aa.keep K3q (ninS ne_aa_b2 nin0)
  replace F_textUsed_aa := F_textUsed_aa.keep K3q (ninS ne_aa_b2 nin0)
  replace F_fields_aa := F_fields_aa.keep K3q (ninS ne_aa_b2 nin0)
  replace F_records_aa := F_records_aa.keep K3q (ninS ne_aa_b2 nin0)
  replace A_bs := A_bs.keep K3q (ninS ne_bs_b2 nin0)
  replace A_be := A_be.keep K3q (ninS ne_be_b2 nin0)
  have Z3 := Nat.le_trans Z1 K3q.1
  have K3' := K1'.trans K3q (allS wq_b2 all0)
  have T_b2 := Tx3
  refine Go.step st3 ?_
  show Go _ _ _ _ _ _ _ (T3.setTop (mkF m 19 #[.val (.ref aa), .val (.ref bb), .val (.int ov), .val (.int lv), .val (.int tu)] []))
  refine Go.retV X3 Bd.notSynchronized hx Bd.returns (hb hby d4_19) (by decide) (by decide) ?_
  rw [e3]
  exact ⟨b2, n2, rfl, Nn3, K3', F_text_aa, F_starts_aa, F_ends_aa, F_firstFields_aa, F_lines_aa, F_faults_aa, F_textUsed_aa, F_fields_aa, F_records_aa, o1_nw_b2, T_b2, A_bs, A_be, o1_hn2⟩
theorem d7_0 : decode prog_63_method_19_code 0 = .ok (.aload_n 0, 1) := by decide +kernel
theorem d7_1 : decode prog_63_method_19_code 1 = .ok (.getfield 17, 3) := by decide +kernel
theorem d7_4 : decode prog_63_method_19_code 4 = .ok (.aload_n 0, 1) := by decide +kernel
theorem d7_5 : decode prog_63_method_19_code 5 = .ok (.getfield 20, 3) := by decide +kernel
theorem d7_8 : decode prog_63_method_19_code 8 = .ok (.iload_n 1, 1) := by decide +kernel
theorem d7_9 : decode prog_63_method_19_code 9 = .ok (.iaload, 1) := by decide +kernel
theorem d7_10 : decode prog_63_method_19_code 10 = .ok (.iload_n 2, 1) := by decide +kernel
theorem d7_11 : decode prog_63_method_19_code 11 = .ok (.iadd, 1) := by decide +kernel
theorem d7_12 : decode prog_63_method_19_code 12 = .ok (.iaload, 1) := by decide +kernel
theorem d7_13 : decode prog_63_method_19_code 13 = .ok (.ireturn, 1) := by decide +kernel
theorem pn_7 : plainName "com/example/vestwright/vestwright/io/Records" = true := by first | (simp [plainName, overriddenIn]; done) | decide +kernel
theorem ef_7 (m : MethodId) (x0 : Addr) (x1 : Int32) (x2 : Int32) : entryFrame m #[(.ref x0), (.int x1), (.int x2)] 3 = mkF m 0 #[.val (.ref x0), .val (.int x1), .val (.int x2)] [] := by first | (simp [entryFrame, mkF, argsToLocals, Value.category]; done) | rfl
def Q7 (Z : State) (aa : Addr) (ri : Int32) (fi : Int32) (be : Addr) (bf : Addr) (ge_ : Nat → Int32) (gf : Nat → Int32) (ki : Nat) (kj : Nat) (h0 : Heap) (n0 : Nat) (v : Option Value) (h : Heap) (L : List Loc) : Prop := v = some (.int (ge_ kj)) ∧ Fr n0 L ∧ h = h0
set_option maxRecDepth 65536 in
set_option maxHeartbeats 40000000 in
theorem rm7 (l : Launch) (Z : State) (a0 : Array Value) (hw : ∀ d ∈ tables_1, d.before a0 Z = true) (ws : List Jvm.Cond) (aa : Addr) (ri : Int32) (fi : Int32) (be : Addr) (bf : Addr) (ge_ : Nat → Int32) (gf : Nat → Int32) (ki : Nat) (kj : Nat) (h0 : Heap) (n0 : Nat) (Z0 : n0 ≤ h0.size) (F_ends_aa : Fld Z h0 aa "com/example/vestwright/vestwright/io/Records" "ends" "[I" (.ref be)) (F_firstFields_aa : Fld Z h0 aa "com/example/vestwright/vestwright/io/Records" "firstFields" "[I" (.ref bf)) (A_be : AryI Z h0 be .int 256 ge_) (A_bf : AryI Z h0 bf .int 64 gf) (hri : (ri.toInt = (ki : Int))) (hki : (ki < 64)) (hfi : (((gf ki) + fi).toInt = (kj : Int))) (hkj : (kj < 256)) :
    MetFree l (⟨"com/example/vestwright/vestwright/io/Records", "end", "(II)I"⟩ : MethodName) (head1 (Jvm.Cond.code (⟨"com/example/vestwright/vestwright/io/Records", "end", "(II)I"⟩ : MethodName) prog_63_method_19_code 3 (some .int) :: ws) ({ frames := 0, cells := 0, slots := 0, locals := 0 } : Room)) (fun a U => a = #[(.ref aa), (.int ri), (.int fi)] ∧ Z.Warmed39 U.vm ∧ U.heap = h0) (fun _ _ _ _ _ => True) (fun _ U o U' => ∃ v L, o = .returned v ∧ Q7 Z aa ri fi be bf ge_ gf ki kj h0 n0 v U'.heap L ∧ FrameEnd U o U' L ({ frames := 0, cells := 0, slots := 0, locals := 0 } : Room).cells ({ frames := 0, cells := 0, slots := 0, locals := 0 } : Room).slots) := by
  refine MetFree.of_bodySF (plainFor_of_name pn_7) hisR ?_
  intro p e s m args below meth c s₁ Bd hml0 hP hK
  obtain ⟨rfl, hZ, hh⟩ := hP
  have hx := Bd.exec
  have hby := Bd.bytes
  have hml : c.maxLocals = 3 := hml0
  have hown : s.vm.findClass "com/example/vestwright/vestwright/io/Records" = some m.cls := findClass_of_methodNamed Bd.named
  have hnm := (name_of_methodNamed Bd.named Bd.method).1
  have X0 : Stand p l e ({ frames := 0, cells := 0, slots := 0, locals := 0 } : Room) s m #[(.ref aa), (.int ri), (.int fi)] below meth c s₁ [] 0 0 := Stand.of_body Bd
  have e0 : s₁.heap = h0 := by rw [← hh, Bd.state]; rfl
  have N0 := Fr.nil n0
  show Go p e below s (Q7 Z aa ri fi be bf ge_ gf ki kj h0 n0) ({ frames := 0, cells := 0, slots := 0, locals := 0 } : Room).cells ({ frames := 0, cells := 0, slots := 0, locals := 0 } : Room).slots (s₁.setTop (entryFrame m #[(.ref aa), (.int ri), (.int fi)] 3))
  rw [ef_7]
  show Go _ _ _ _ _ _ _ (s₁.setTop (mkF m 0 #[.val (.ref aa), .val (.int ri), .val (.int fi)] []))
  refine Go.step (fun t k => XS.aloadN X0.here hx rfl (hb hby d7_0) rfl rfl k) ?_
  show Go _ _ _ _ _ _ _ (s₁.setTop (mkF m 1 #[.val (.ref aa), .val (.int ri), .val (.int fi)] [(.ref aa)]))
  obtain ⟨T1, X1, e1, st1⟩ := getF X0 hx hZ hown (host := "") (Or.inl (hw _ (List.mem_of_getElem? (i := 15) rfl))) Via.refl e0 F_ends_aa (g := (mkF m 1 #[.val (.ref aa), .val (.int ri), .val (.int fi)] [(.ref aa)])) rfl rfl (hb hby d7_1)
  refine Go.step st1 ?_
  show Go _ _ _ _ _ _ _ (T1.setTop (mkF m 4 #[.val (.ref aa), .val (.int ri), .val (.int fi)] [(.ref be)]))
  refine Go.step (fun t k => XS.aloadN X1.here hx rfl (hb hby d7_4) rfl rfl k) ?_
  show Go _ _ _ _ _ _ _ (T1.setTop (mkF m 5 #[.val (.ref aa), .val (.int ri), .val (.int fi)] [(.ref aa), (.ref be)]))
  obtain ⟨T2, X2, e2, st2⟩ := getF X1 hx hZ hown (host := "") (Or.inl (hw _ (List.mem_of_getElem? (i := 17) rfl))) Via.refl e1 F_firstFields_aa (g := (mkF m 5 #[.val (.ref aa), .val (.int ri), .val (.int fi)] [(.ref aa), (.ref be)])) rfl rfl (hb hby d7_5)
  refine Go.step st2 ?_
  show Go _ _ _ _ _ _ _ (T2.setTop (mkF m 8 #[.val (.ref aa), .val (.int ri), .val (.int fi)] [(.ref bf), (.ref be)]))
  refine Go.step (fun t k => XS.iloadN X2.here hx rfl (hb hby d7_8) rfl k) ?_
  show Go _ _ _ _ _ _ _ (T2.setTop (mkF m 9 #[.val (.ref aa), .val (.int ri), .val (.int fi)] [(.int ri), (.ref bf), (.ref be)]))
  refine Go.step (own_ld X2 hx hZ e2 A_bf (j := ri) ki hri hki (v := (.int (gf ki))) rfl (Or.inl ⟨rfl, rfl⟩) (f := (mkF m 9 #[.val (.ref aa), .val (.int ri), .val (.int fi)] [(.int ri), (.ref bf), (.ref be)])) rfl rfl (hb hby d7_9)) ?_
  show Go _ _ _ _ _ _ _ (T2.setTop (mkF m 10 #[.val (.ref aa), .val (.int ri), .val (.int fi)] [(.int (gf ki)), (.ref be)]))
  refine Go.step (fun t k => XS.iloadN X2.here hx rfl (hb hby d7_10) rfl k) ?_
  show Go _ _ _ _ _ _ _ (T2.setTop (mkF m 11 #[.val (.ref aa), .val (.int ri), .val (.int fi)] [(.int fi), (.int (gf ki)), (.ref be)]))
  refine Go.step (fun t k => XS.iadd X2.here hx rfl (hb hby d7_11) rfl k) ?_
  show Go _ _ _ _ _ _ _ (T2.setTop (mkF m 12 #[.val (.ref aa), .val (.int ri), .val (.int fi)] [(.int ((gf ki) + fi)), (.ref be)]))
  refine Go.step (own_ld X2 hx hZ e2 A_be (j := ((gf ki) + fi)) kj hfi hkj (v := (.int (ge_ kj))) rfl (Or.inl ⟨rfl, rfl⟩) (f := (mkF m 12 #[.val (.ref aa), .val (.int ri), .val (.int fi)] [(.int ((gf ki) + fi)), (.ref be)])) rfl rfl (hb hby d7_12)) ?_
  show Go _ _ _ _ _ _ _ (T2.setTop (mkF m 13 #[.val (.ref aa), .val (.int ri), .val (.int fi)] [(.int (ge_ kj))]))
  refine Go.retI X2 Bd.notSynchronized hx Bd.returns (hb hby d7_13) (by decide) (by decide) ?_
  rw [e2]
  exact ⟨rfl, N0, rfl⟩
theorem pn_0 : plainName "com/example/vestwright/vestwright/io/RecordsEndPinLaw" = true := by first | (simp [plainName, overriddenIn]; done) | decide +kernel
theorem pd_0_0 : parseMethodDescriptor "()V" = some ⟨[], none⟩ := by decide +kernel
theorem pd_0_1 : parseMethodDescriptor "(I)V" = some ⟨[.int], none⟩ := by decide +kernel
theorem pd_0_2 : parseMethodDescriptor "([CII)V" = some ⟨[(.array .char), .int, .int], none⟩ := by decide +kernel
theorem pd_0_3 : parseMethodDescriptor "(II)I" = some ⟨[.int, .int], some .int⟩ := by decide +kernel
theorem ef_0 (m : MethodId) (x0 : Int32) (x1 : Int32) (x2 : Int32) (x3 : Int32) (x4 : Int32) : entryFrame m #[(.int x0), (.int x1), (.int x2), (.int x3), (.int x4)] maxLocals = mkF m 0 #[.val (.int x0), .val (.int x1), .val (.int x2), .val (.int x3), .val (.int x4), .unset, .unset, .unset, .unset, .unset, .unset, .unset, .unset, .unset] [] := by first | (simp [entryFrame, mkF, argsToLocals, Value.category, maxLocals]; done) | rfl
def Q0 (Z : State) (pa : Int32) (pb : Int32) (pc_ : Int32) (pl : Int32) (ps : Int32) (h0 : Heap) (n0 : Nat) (v : Option Value) (h : Heap) (L : List Loc) : Prop := v = some (.int (1 : Int32)) ∧ Fr n0 L
set_option maxRecDepth 65536 in
set_option maxHeartbeats 40000000 in
theorem rm0 (l : Launch) (Z : State) (a0 : Array Value) (hw : ∀ d ∈ tables_1, d.before a0 Z = true) (ws : List Jvm.Cond) (pa : Int32) (pb : Int32) (pc_ : Int32) (pl : Int32) (ps : Int32) (h0 : Heap) (n0 : Nat) (Z0 : n0 ≤ h0.size) :
    MetFree l x (head1 (Jvm.Cond.code x code maxLocals ret :: ws) room_1) (fun a U => a = #[(.int pa), (.int pb), (.int pc_), (.int pl), (.int ps)] ∧ Z.Warmed39 U.vm ∧ U.heap = h0) (fun _ _ _ _ _ => True) (fun _ U o U' => ∃ v L, o = .returned v ∧ Q0 Z pa pb pc_ pl ps h0 n0 v U'.heap L ∧ FrameEnd U o U' L 32 75264) := by
  refine MetFree.of_bodySF (plainFor_of_name pn_0) hisR ?_
  intro p e s m args below meth c s₁ Bd hml0 hP hK
  obtain ⟨rfl, hZ, hh⟩ := hP
  have hx := Bd.exec
  have hby := Bd.bytes
  have hml : c.maxLocals = 14 := hml0
  have hown : s.vm.findClass "com/example/vestwright/vestwright/io/RecordsEndPinLaw" = some m.cls := findClass_of_methodNamed Bd.named
  have hnm := (name_of_methodNamed Bd.named Bd.method).1
  have X0 : Stand p l e room_1 s m #[(.int pa), (.int pb), (.int pc_), (.int pl), (.int ps)] below meth c s₁ [] 0 0 := Stand.of_body Bd
  have e0 : s₁.heap = h0 := by rw [← hh, Bd.state]; rfl
  have N0 := Fr.nil n0
  show Go p e below s (Q0 Z pa pb pc_ pl ps h0 n0) 32 75264 (s₁.setTop (entryFrame m #[(.int pa), (.int pb), (.int pc_), (.int pl), (.int ps)] maxLocals))
  rw [ef_0]
  show Go _ _ _ _ _ _ _ (s₁.setTop (mkF m 0 #[.val (.int pa), .val (.int pb), .val (.int pc_), .val (.int pl), .val (.int ps), .unset, .unset, .unset, .unset, .unset, .unset, .unset, .unset, .unset] []))
  refine Go.step (fun t k => XS.iloadN X0.here hx rfl (hb hby at_0) rfl k) ?_
  show Go _ _ _ _ _ _ _ (s₁.setTop (mkF m 1 #[.val (.int pa), .val (.int pb), .val (.int pc_), .val (.int pl), .val (.int ps), .unset, .unset, .unset, .unset, .unset, .unset, .unset, .unset, .unset] [(.int pa)]))
  refine Go.step (fun t k => XS.sipush X0.here hx rfl (hb hby at_1) k) ?_
  show Go _ _ _ _ _ _ _ (s₁.setTop (mkF m 4 #[.val (.int pa), .val (.int pb), .val (.int pc_), .val (.int pl), .val (.int ps), .unset, .unset, .unset, .unset, .unset, .unset, .unset, .unset, .unset] [(.int (4095 : Int32)), (.int pa)]))
  refine Go.step (fun t k => XS.iand X0.here hx rfl (hb hby at_4) rfl k) ?_
  show Go _ _ _ _ _ _ _ (s₁.setTop (mkF m 5 #[.val (.int pa), .val (.int pb), .val (.int pc_), .val (.int pl), .val (.int ps), .unset, .unset, .unset, .unset, .unset, .unset, .unset, .unset, .unset] [(.int (pa &&& (4095 : Int32)))]))
  refine Go.step (fun t k => XS.istore X0.here hx rfl (hb hby at_5) rfl (l' := #[.val (.int pa), .val (.int pb), .val (.int pc_), .val (.int pl), .val (.int ps), .val (.int (pa &&& (4095 : Int32))), .unset, .unset, .unset, .unset, .unset, .unset, .unset, .unset]) rfl k) ?_
  show Go _ _ _ _ _ _ _ (s₁.setTop (mkF m 7 #[.val (.int pa), .val (.int pb), .val (.int pc_), .val (.int pl), .val (.int ps), .val (.int (pa &&& (4095 : Int32))), .unset, .unset, .unset, .unset, .unset, .unset, .unset, .unset] []))
  generalize hva : (pa &&& (4095 : Int32)) = va
  show Go _ _ _ _ _ _ _ (s₁.setTop (mkF m 7 #[.val (.int pa), .val (.int pb), .val (.int pc_), .val (.int pl), .val (.int ps), .val (.int va), .unset, .unset, .unset, .unset, .unset, .unset, .unset, .unset] []))
  refine Go.step (fun t k => XS.iloadN X0.here hx rfl (hb hby at_7) rfl k) ?_
  show Go _ _ _ _ _ _ _ (s₁.setTop (mkF m 8 #[.val (.int pa), .val (.int pb), .val (.int pc_), .val (.int pl), .val (.int ps), .val (.int va), .unset, .unset, .unset, .unset, .unset, .unset, .unset, .unset] [(.int pa)]))
  refine Go.step (fun t k => XS.bipush X0.here hx rfl (hb hby at_8) k) ?_
  show Go _ _ _ _ _ _ _ (s₁.setTop (mkF m 10 #[.val (.int pa), .val (.int pb), .val (.int pc_), .val (.int pl), .val (.int ps), .val (.int va), .unset, .unset, .unset, .unset, .unset, .unset, .unset, .unset] [(.int (16 : Int32)), (.int pa)]))
  refine Go.step (fun t k => XS.iushr X0.here hx rfl (hb hby at_10) rfl k) ?_
  show Go _ _ _ _ _ _ _ (s₁.setTop (mkF m 11 #[.val (.int pa), .val (.int pb), .val (.int pc_), .val (.int pl), .val (.int ps), .val (.int va), .unset, .unset, .unset, .unset, .unset, .unset, .unset, .unset] [(.int ((pa.toUInt32 >>> ((16 : Int32) &&& 31).toUInt32).toInt32))]))
  refine Go.step (fun t k => XS.sipush X0.here hx rfl (hb hby at_11) k) ?_
  show Go _ _ _ _ _ _ _ (s₁.setTop (mkF m 14 #[.val (.int pa), .val (.int pb), .val (.int pc_), .val (.int pl), .val (.int ps), .val (.int va), .unset, .unset, .unset, .unset, .unset, .unset, .unset, .unset] [(.int (4095 : Int32)), (.int ((pa.toUInt32 >>> ((16 : Int32) &&& 31).toUInt32).toInt32))]))
  refine Go.step (fun t k => XS.iand X0.here hx rfl (hb hby at_14) rfl k) ?_
  show Go _ _ _ _ _ _ _ (s₁.setTop (mkF m 15 #[.val (.int pa), .val (.int pb), .val (.int pc_), .val (.int pl), .val (.int ps), .val (.int va), .unset, .unset, .unset, .unset, .unset, .unset, .unset, .unset] [(.int (((pa.toUInt32 >>> ((16 : Int32) &&& 31).toUInt32).toInt32) &&& (4095 : Int32)))]))
  refine Go.step (fun t k => XS.istore X0.here hx rfl (hb hby at_15) rfl (l' := #[.val (.int pa), .val (.int pb), .val (.int pc_), .val (.int pl), .val (.int ps), .val (.int va), .val (.int (((pa.toUInt32 >>> ((16 : Int32) &&& 31).toUInt32).toInt32) &&& (4095 : Int32))), .unset, .unset, .unset, .unset, .unset, .unset, .unset]) rfl k) ?_
  show Go _ _ _ _ _ _ _ (s₁.setTop (mkF m 17 #[.val (.int pa), .val (.int pb), .val (.int pc_), .val (.int pl), .val (.int ps), .val (.int va), .val (.int (((pa.toUInt32 >>> ((16 : Int32) &&& 31).toUInt32).toInt32) &&& (4095 : Int32))), .unset, .unset, .unset, .unset, .unset, .unset, .unset] []))
  generalize hoa : (((pa.toUInt32 >>> ((16 : Int32) &&& 31).toUInt32).toInt32) &&& (4095 : Int32)) = oa
  show Go _ _ _ _ _ _ _ (s₁.setTop (mkF m 17 #[.val (.int pa), .val (.int pb), .val (.int pc_), .val (.int pl), .val (.int ps), .val (.int va), .val (.int oa), .unset, .unset, .unset, .unset, .unset, .unset, .unset] []))
  refine Go.step (fun t k => XS.iloadN X0.here hx rfl (hb hby at_17) rfl k) ?_
  show Go _ _ _ _ _ _ _ (s₁.setTop (mkF m 18 #[.val (.int pa), .val (.int pb), .val (.int pc_), .val (.int pl), .val (.int ps), .val (.int va), .val (.int oa), .unset, .unset, .unset, .unset, .unset, .unset, .unset] [(.int pb)]))
  refine Go.step (fun t k => XS.sipush X0.here hx rfl (hb hby at_18) k) ?_
  show Go _ _ _ _ _ _ _ (s₁.setTop (mkF m 21 #[.val (.int pa), .val (.int pb), .val (.int pc_), .val (.int pl), .val (.int ps), .val (.int va), .val (.int oa), .unset, .unset, .unset, .unset, .unset, .unset, .unset] [(.int (4095 : Int32)), (.int pb)]))
  refine Go.step (fun t k => XS.iand X0.here hx rfl (hb hby at_21) rfl k) ?_
  show Go _ _ _ _ _ _ _ (s₁.setTop (mkF m 22 #[.val (.int pa), .val (.int pb), .val (.int pc_), .val (.int pl), .val (.int ps), .val (.int va), .val (.int oa), .unset, .unset, .unset, .unset, .unset, .unset, .unset] [(.int (pb &&& (4095 : Int32)))]))
  refine Go.step (fun t k => XS.istore X0.here hx rfl (hb hby at_22) rfl (l' := #[.val (.int pa), .val (.int pb), .val (.int pc_), .val (.int pl), .val (.int ps), .val (.int va), .val (.int oa), .val (.int (pb &&& (4095 : Int32))), .unset, .unset, .unset, .unset, .unset, .unset]) rfl k) ?_
  show Go _ _ _ _ _ _ _ (s₁.setTop (mkF m 24 #[.val (.int pa), .val (.int pb), .val (.int pc_), .val (.int pl), .val (.int ps), .val (.int va), .val (.int oa), .val (.int (pb &&& (4095 : Int32))), .unset, .unset, .unset, .unset, .unset, .unset] []))
  generalize hvb : (pb &&& (4095 : Int32)) = vb
  show Go _ _ _ _ _ _ _ (s₁.setTop (mkF m 24 #[.val (.int pa), .val (.int pb), .val (.int pc_), .val (.int pl), .val (.int ps), .val (.int va), .val (.int oa), .val (.int vb), .unset, .unset, .unset, .unset, .unset, .unset] []))
  refine Go.step (fun t k => XS.iloadN X0.here hx rfl (hb hby at_24) rfl k) ?_
  show Go _ _ _ _ _ _ _ (s₁.setTop (mkF m 25 #[.val (.int pa), .val (.int pb), .val (.int pc_), .val (.int pl), .val (.int ps), .val (.int va), .val (.int oa), .val (.int vb), .unset, .unset, .unset, .unset, .unset, .unset] [(.int pb)]))
  refine Go.step (fun t k => XS.bipush X0.here hx rfl (hb hby at_25) k) ?_
  show Go _ _ _ _ _ _ _ (s₁.setTop (mkF m 27 #[.val (.int pa), .val (.int pb), .val (.int pc_), .val (.int pl), .val (.int ps), .val (.int va), .val (.int oa), .val (.int vb), .unset, .unset, .unset, .unset, .unset, .unset] [(.int (16 : Int32)), (.int pb)]))
  refine Go.step (fun t k => XS.iushr X0.here hx rfl (hb hby at_27) rfl k) ?_
  show Go _ _ _ _ _ _ _ (s₁.setTop (mkF m 28 #[.val (.int pa), .val (.int pb), .val (.int pc_), .val (.int pl), .val (.int ps), .val (.int va), .val (.int oa), .val (.int vb), .unset, .unset, .unset, .unset, .unset, .unset] [(.int ((pb.toUInt32 >>> ((16 : Int32) &&& 31).toUInt32).toInt32))]))
  refine Go.step (fun t k => XS.sipush X0.here hx rfl (hb hby at_28) k) ?_
  show Go _ _ _ _ _ _ _ (s₁.setTop (mkF m 31 #[.val (.int pa), .val (.int pb), .val (.int pc_), .val (.int pl), .val (.int ps), .val (.int va), .val (.int oa), .val (.int vb), .unset, .unset, .unset, .unset, .unset, .unset] [(.int (4095 : Int32)), (.int ((pb.toUInt32 >>> ((16 : Int32) &&& 31).toUInt32).toInt32))]))
  refine Go.step (fun t k => XS.iand X0.here hx rfl (hb hby at_31) rfl k) ?_
  show Go _ _ _ _ _ _ _ (s₁.setTop (mkF m 32 #[.val (.int pa), .val (.int pb), .val (.int pc_), .val (.int pl), .val (.int ps), .val (.int va), .val (.int oa), .val (.int vb), .unset, .unset, .unset, .unset, .unset, .unset] [(.int (((pb.toUInt32 >>> ((16 : Int32) &&& 31).toUInt32).toInt32) &&& (4095 : Int32)))]))
  refine Go.step (fun t k => XS.istore X0.here hx rfl (hb hby at_32) rfl (l' := #[.val (.int pa), .val (.int pb), .val (.int pc_), .val (.int pl), .val (.int ps), .val (.int va), .val (.int oa), .val (.int vb), .val (.int (((pb.toUInt32 >>> ((16 : Int32) &&& 31).toUInt32).toInt32) &&& (4095 : Int32))), .unset, .unset, .unset, .unset, .unset]) rfl k) ?_
  show Go _ _ _ _ _ _ _ (s₁.setTop (mkF m 34 #[.val (.int pa), .val (.int pb), .val (.int pc_), .val (.int pl), .val (.int ps), .val (.int va), .val (.int oa), .val (.int vb), .val (.int (((pb.toUInt32 >>> ((16 : Int32) &&& 31).toUInt32).toInt32) &&& (4095 : Int32))), .unset, .unset, .unset, .unset, .unset] []))
  generalize hob : (((pb.toUInt32 >>> ((16 : Int32) &&& 31).toUInt32).toInt32) &&& (4095 : Int32)) = ob
  show Go _ _ _ _ _ _ _ (s₁.setTop (mkF m 34 #[.val (.int pa), .val (.int pb), .val (.int pc_), .val (.int pl), .val (.int ps), .val (.int va), .val (.int oa), .val (.int vb), .val (.int ob), .unset, .unset, .unset, .unset, .unset] []))
  refine Go.step (fun t k => XS.iloadN X0.here hx rfl (hb hby at_34) rfl k) ?_
  show Go _ _ _ _ _ _ _ (s₁.setTop (mkF m 35 #[.val (.int pa), .val (.int pb), .val (.int pc_), .val (.int pl), .val (.int ps), .val (.int va), .val (.int oa), .val (.int vb), .val (.int ob), .unset, .unset, .unset, .unset, .unset] [(.int pc_)]))
  refine Go.step (fun t k => XS.sipush X0.here hx rfl (hb hby at_35) k) ?_
  show Go _ _ _ _ _ _ _ (s₁.setTop (mkF m 38 #[.val (.int pa), .val (.int pb), .val (.int pc_), .val (.int pl), .val (.int ps), .val (.int va), .val (.int oa), .val (.int vb), .val (.int ob), .unset, .unset, .unset, .unset, .unset] [(.int (4095 : Int32)), (.int pc_)]))
  refine Go.step (fun t k => XS.iand X0.here hx rfl (hb hby at_38) rfl k) ?_
  show Go _ _ _ _ _ _ _ (s₁.setTop (mkF m 39 #[.val (.int pa), .val (.int pb), .val (.int pc_), .val (.int pl), .val (.int ps), .val (.int va), .val (.int oa), .val (.int vb), .val (.int ob), .unset, .unset, .unset, .unset, .unset] [(.int (pc_ &&& (4095 : Int32)))]))
  refine Go.step (fun t k => XS.istore X0.here hx rfl (hb hby at_39) rfl (l' := #[.val (.int pa), .val (.int pb), .val (.int pc_), .val (.int pl), .val (.int ps), .val (.int va), .val (.int oa), .val (.int vb), .val (.int ob), .val (.int (pc_ &&& (4095 : Int32))), .unset, .unset, .unset, .unset]) rfl k) ?_
  show Go _ _ _ _ _ _ _ (s₁.setTop (mkF m 41 #[.val (.int pa), .val (.int pb), .val (.int pc_), .val (.int pl), .val (.int ps), .val (.int va), .val (.int oa), .val (.int vb), .val (.int ob), .val (.int (pc_ &&& (4095 : Int32))), .unset, .unset, .unset, .unset] []))
  generalize hvc : (pc_ &&& (4095 : Int32)) = vc
  show Go _ _ _ _ _ _ _ (s₁.setTop (mkF m 41 #[.val (.int pa), .val (.int pb), .val (.int pc_), .val (.int pl), .val (.int ps), .val (.int va), .val (.int oa), .val (.int vb), .val (.int ob), .val (.int vc), .unset, .unset, .unset, .unset] []))
  refine Go.step (fun t k => XS.iloadN X0.here hx rfl (hb hby at_41) rfl k) ?_
  show Go _ _ _ _ _ _ _ (s₁.setTop (mkF m 42 #[.val (.int pa), .val (.int pb), .val (.int pc_), .val (.int pl), .val (.int ps), .val (.int va), .val (.int oa), .val (.int vb), .val (.int ob), .val (.int vc), .unset, .unset, .unset, .unset] [(.int pc_)]))
  refine Go.step (fun t k => XS.bipush X0.here hx rfl (hb hby at_42) k) ?_
  show Go _ _ _ _ _ _ _ (s₁.setTop (mkF m 44 #[.val (.int pa), .val (.int pb), .val (.int pc_), .val (.int pl), .val (.int ps), .val (.int va), .val (.int oa), .val (.int vb), .val (.int ob), .val (.int vc), .unset, .unset, .unset, .unset] [(.int (16 : Int32)), (.int pc_)]))
  refine Go.step (fun t k => XS.iushr X0.here hx rfl (hb hby at_44) rfl k) ?_
  show Go _ _ _ _ _ _ _ (s₁.setTop (mkF m 45 #[.val (.int pa), .val (.int pb), .val (.int pc_), .val (.int pl), .val (.int ps), .val (.int va), .val (.int oa), .val (.int vb), .val (.int ob), .val (.int vc), .unset, .unset, .unset, .unset] [(.int ((pc_.toUInt32 >>> ((16 : Int32) &&& 31).toUInt32).toInt32))]))
  refine Go.step (fun t k => XS.sipush X0.here hx rfl (hb hby at_45) k) ?_
  show Go _ _ _ _ _ _ _ (s₁.setTop (mkF m 48 #[.val (.int pa), .val (.int pb), .val (.int pc_), .val (.int pl), .val (.int ps), .val (.int va), .val (.int oa), .val (.int vb), .val (.int ob), .val (.int vc), .unset, .unset, .unset, .unset] [(.int (4095 : Int32)), (.int ((pc_.toUInt32 >>> ((16 : Int32) &&& 31).toUInt32).toInt32))]))
  refine Go.step (fun t k => XS.iand X0.here hx rfl (hb hby at_48) rfl k) ?_
  show Go _ _ _ _ _ _ _ (s₁.setTop (mkF m 49 #[.val (.int pa), .val (.int pb), .val (.int pc_), .val (.int pl), .val (.int ps), .val (.int va), .val (.int oa), .val (.int vb), .val (.int ob), .val (.int vc), .unset, .unset, .unset, .unset] [(.int (((pc_.toUInt32 >>> ((16 : Int32) &&& 31).toUInt32).toInt32) &&& (4095 : Int32)))]))
  refine Go.step (fun t k => XS.istore X0.here hx rfl (hb hby at_49) rfl (l' := #[.val (.int pa), .val (.int pb), .val (.int pc_), .val (.int pl), .val (.int ps), .val (.int va), .val (.int oa), .val (.int vb), .val (.int ob), .val (.int vc), .val (.int (((pc_.toUInt32 >>> ((16 : Int32) &&& 31).toUInt32).toInt32) &&& (4095 : Int32))), .unset, .unset, .unset]) rfl k) ?_
  show Go _ _ _ _ _ _ _ (s₁.setTop (mkF m 51 #[.val (.int pa), .val (.int pb), .val (.int pc_), .val (.int pl), .val (.int ps), .val (.int va), .val (.int oa), .val (.int vb), .val (.int ob), .val (.int vc), .val (.int (((pc_.toUInt32 >>> ((16 : Int32) &&& 31).toUInt32).toInt32) &&& (4095 : Int32))), .unset, .unset, .unset] []))
  generalize hoc : (((pc_.toUInt32 >>> ((16 : Int32) &&& 31).toUInt32).toInt32) &&& (4095 : Int32)) = oc
  show Go _ _ _ _ _ _ _ (s₁.setTop (mkF m 51 #[.val (.int pa), .val (.int pb), .val (.int pc_), .val (.int pl), .val (.int ps), .val (.int va), .val (.int oa), .val (.int vb), .val (.int ob), .val (.int vc), .val (.int oc), .unset, .unset, .unset] []))
  refine Go.step (fun t k => XS.sipush X0.here hx rfl (hb hby at_51) k) ?_
  show Go _ _ _ _ _ _ _ (s₁.setTop (mkF m 54 #[.val (.int pa), .val (.int pb), .val (.int pc_), .val (.int pl), .val (.int ps), .val (.int va), .val (.int oa), .val (.int vb), .val (.int ob), .val (.int vc), .val (.int oc), .unset, .unset, .unset] [(.int (8192 : Int32))]))
  obtain ⟨T1, h1, k1, X1, e1, E1, A1, st1⟩ := newP X0 hx hZ (hw _ (List.mem_of_getElem? (i := 0) rfl)) e0 (g := (mkF m 54 #[.val (.int pa), .val (.int pb), .val (.int pc_), .val (.int pl), .val (.int ps), .val (.int va), .val (.int oa), .val (.int vb), .val (.int ob), .val (.int vc), .val (.int oc), .unset, .unset, .unset] [(.int (8192 : Int32))])) rfl (hb hby at_54) rfl (by decide) (cap := 8192) (by decide) (by decide) (by decide) (by decide)
  obtain ⟨bb, gz1⟩ : ∃ z, z = h0.size := ⟨_, rfl⟩
  have g_bb : n0 ≤ bb := Nat.le_trans Z0 (Nat.le_of_eq gz1.symm)
  rw [← gz1] at A1 st1
  have Z1 := Nat.le_trans Z0 E1.1
  have T_bb : Txt Z h1 bb 8192 := Txt.new A1 rfl
  refine Go.step st1 ?_
  show Go _ _ _ _ _ _ _ (T1.setTop (mkF m 56 #[.val (.int pa), .val (.int pb), .val (.int pc_), .val (.int pl), .val (.int ps), .val (.int va), .val (.int oa), .val (.int vb), .val (.int ob), .val (.int vc), .val (.int oc), .unset, .unset, .unset] [(.ref bb)]))
  refine Go.step (fun t k => XS.astore X1.here hx rfl (hb hby at_56) rfl rfl (l' := #[.val (.int pa), .val (.int pb), .val (.int pc_), .val (.int pl), .val (.int ps), .val (.int va), .val (.int oa), .val (.int vb), .val (.int ob), .val (.int vc), .val (.int oc), .val (.ref bb), .unset, .unset]) rfl k) ?_
  show Go _ _ _ _ _ _ _ (T1.setTop (mkF m 58 #[.val (.int pa), .val (.int pb), .val (.int pc_), .val (.int pl), .val (.int ps), .val (.int va), .val (.int oa), .val (.int vb), .val (.int ob), .val (.int vc), .val (.int oc), .val (.ref bb), .unset, .unset] []))
  obtain ⟨T2, h2, X2, e2, E2, A2, D2, -, st2⟩ := newO X1 hx hZ hown (hw _ (List.mem_of_getElem? (i := 1) rfl)) (hw _ (List.mem_of_getElem? (i := 2) rfl)) (hw _ (List.mem_of_getElem? (i := 3) rfl)) e1 (g := (mkF m 58 #[.val (.int pa), .val (.int pb), .val (.int pc_), .val (.int pl), .val (.int ps), .val (.int va), .val (.int oa), .val (.int vb), .val (.int ob), .val (.int vc), .val (.int oc), .val (.ref bb), .unset, .unset] [])) rfl (hb hby at_58) (by decide) (by decide)
  obtain ⟨ro, gz2⟩ : ∃ z, z = h1.size := ⟨_, rfl⟩
  have ne_bb_ro : bb ≠ ro := Nat.ne_of_lt (Nat.lt_of_lt_of_le T_bb.lt (Nat.le_of_eq gz2.symm))
  have g_ro : n0 ≤ ro := Nat.le_trans Z1 (Nat.le_of_eq gz2.symm)
  rw [← gz2] at A2 D2 st2
  replace T_bb := T_bb.ext E2
  have Z2 := Nat.le_trans Z1 E2.1
  have E_ro := A2
  have F_text_ro : Fld Z h2 ro "com/example/vestwright/vestwright/io/Records" "text" "[C" .null := D2 (Or.inl (hw _ (List.mem_of_getElem? (i := 11) rfl))) (ty := (.array .char)) (by decide)
  have F_starts_ro : Fld Z h2 ro "com/example/vestwright/vestwright/io/Records" "starts" "[I" .null := D2 (Or.inl (hw _ (List.mem_of_getElem? (i := 14) rfl))) (ty := (.array .int)) (by decide)
  have F_ends_ro : Fld Z h2 ro "com/example/vestwright/vestwright/io/Records" "ends" "[I" .null := D2 (Or.inl (hw _ (List.mem_of_getElem? (i := 16) rfl))) (ty := (.array .int)) (by decide)
  have F_firstFields_ro : Fld Z h2 ro "com/example/vestwright/vestwright/io/Records" "firstFields" "[I" .null := D2 (Or.inl (hw _ (List.mem_of_getElem? (i := 18) rfl))) (ty := (.array .int)) (by decide)
  have F_lines_ro : Fld Z h2 ro "com/example/vestwright/vestwright/io/Records" "lines" "[I" .null := D2 (Or.inl (hw _ (List.mem_of_getElem? (i := 20) rfl))) (ty := (.array .int)) (by decide)
  have F_faults_ro : Fld Z h2 ro "com/example/vestwright/vestwright/io/Records" "faults" "[Lcom/example/vestwright/vestwright/io/CsvFormatException;" .null := D2 (Or.inl (hw _ (List.mem_of_getElem? (i := 24) rfl))) (ty := (.array (.object "com/example/vestwright/vestwright/io/CsvFormatException"))) (by decide)
  have F_records_ro : Fld Z h2 ro "com/example/vestwright/vestwright/io/Records" "records" "I" (.int (0 : Int32)) := D2 (Or.inl (hw _ (List.mem_of_getElem? (i := 31) rfl))) (ty := .int) (by decide)
  have F_fields_ro : Fld Z h2 ro "com/example/vestwright/vestwright/io/Records" "fields" "I" (.int (0 : Int32)) := D2 (Or.inl (hw _ (List.mem_of_getElem? (i := 33) rfl))) (ty := .int) (by decide)
  have F_textUsed_ro : Fld Z h2 ro "com/example/vestwright/vestwright/io/Records" "textUsed" "I" (.int (0 : Int32)) := D2 (Or.inl (hw _ (List.mem_of_getElem? (i := 44) rfl))) (ty := .int) (by decide)
  refine Go.step st2 ?_
  show Go _ _ _ _ _ _ _ (T2.setTop (mkF m 61 #[.val (.int pa), .val (.int pb), .val (.int pc_), .val (.int pl), .val (.int ps), .val (.int va), .val (.int oa), .val (.int vb), .val (.int ob), .val (.int vc), .val (.int oc), .val (.ref bb), .unset, .unset] [(.ref ro)]))
  refine Go.step (fun t k => XS.dup X2.here hx rfl (hb hby at_61) rfl rfl k) ?_
  show Go _ _ _ _ _ _ _ (T2.setTop (mkF m 62 #[.val (.int pa), .val (.int pb), .val (.int pc_), .val (.int pl), .val (.int ps), .val (.int va), .val (.int oa), .val (.int vb), .val (.int ob), .val (.int vc), .val (.int oc), .val (.ref bb), .unset, .unset] [(.ref ro), (.ref ro)]))
  obtain ⟨_, _, ⟨T3, L3, k3, n3⟩, -, X3, ⟨Lc3, hQ3, l3, y3, z3⟩, st3⟩ := X2.specialBack hx (y := (⟨"com/example/vestwright/vestwright/io/Records", "<init>", "()V"⟩ : MethodName)) rfl hown (mvT hZ (hw _ (List.mem_of_getElem? (i := 4) rfl))) (mvT hZ (hw _ (List.mem_of_getElem? (i := 5) rfl))) (mvT hZ (hw _ (List.mem_of_getElem? (i := 6) rfl))) (by decide) (backOf (W := 1) (rm1 l Z a0 hw [] ro h2 n0 Z2 F_text_ro F_starts_ro F_ends_ro F_firstFields_ro F_lines_ro F_faults_ro F_textUsed_ro F_fields_ro F_records_ro E_ro g_ro) hZ (hw _ (List.mem_of_getElem? (i := 6) rfl)) (hw _ (List.mem_of_getElem? (i := 3) rfl)) (by decide) (by decide)) (g := (mkF m 62 #[.val (.int pa), .val (.int pb), .val (.int pc_), .val (.int pl), .val (.int ps), .val (.int va), .val (.int oa), .val (.int vb), .val (.int ob), .val (.int vc), .val (.int oc), .val (.ref bb), .unset, .unset] [(.ref ro), (.ref ro)])) rfl (by rw [hml]; rfl) (Steps.refl _) (a := ro) (argsL := []) (rest := [(.ref ro)]) (lenOf pd_0_0 rfl) rfl (by show 2 * 0 + _ ≤ _; exact Nat.le_of_eq rfl) (hb hby at_62) (fun _ _ => ⟨rfl, e2, (by decide : 2 + 6 ≤ _), (by decide : 8203 + 4800 ≤ _)⟩)
  dsimp only [Pt.U, Pt.locs, Pt.cells, Pt.slots] at X3 l3 y3 z3 st3 hQ3
  subst l3 y3 z3
  obtain ⟨bt, bs, be, bf, bn, bx, rfl, N3q, K3q, o3_F_text_ro, o3_F_starts_ro, o3_F_ends_ro, o3_F_firstFields_ro, o3_F_lines_ro, o3_F_faults_ro, o3_F_textUsed_ro, o3_F_fields_ro, o3_F_records_ro, o3_T_bt, o3_A_bs, o3_A_be, o3_A_bf, o3_A_bn, o3_nw_bt, o3_nw_bs, o3_nw_be, o3_nw_bf, o3_nw_bn, o3_ne_bt_bs, o3_ne_bt_be, o3_ne_bt_bf, o3_ne_bt_bn, o3_ne_bs_be, o3_ne_bs_bf, o3_ne_bs_bn, o3_ne_be_bf, o3_ne_be_bn, o3_ne_bf_bn, o3_ne_ro_bt, o3_ne_ro_bs, o3_ne_ro_be, o3_ne_ro_bf, o3_ne_ro_bn⟩ := hQ3
  have N3 := Fr.app N0 N3q
  have ne_bb_bt : bb ≠ bt := Nat.ne_of_lt (Nat.lt_of_lt_of_le T_bb.lt o3_nw_bt)
  have ne_ro_bt : ro ≠ bt := Nat.ne_of_lt (Nat.lt_of_lt_of_le E_ro.lt o3_nw_bt)
  have g_bt : n0 ≤ bt := Nat.le_trans Z2 o3_nw_bt
  have ne_bb_bs : bb ≠ bs := Nat.ne_of_lt (Nat.lt_of_lt_of_le T_bb.lt o3_nw_bs)
  have ne_ro_bs : ro ≠ bs := Nat.ne_of_lt (Nat.lt_of_lt_of_le E_ro.lt o3_nw_bs)
  have g_bs : n0 ≤ bs := Nat.le_trans Z2 o3_nw_bs
  have ne_bb_be : bb ≠ be := Nat.ne_of_lt (Nat.lt_of_lt_of_le T_bb.lt o3_nw_be)
  have ne_ro_be : ro ≠ be := Nat.ne_of_lt (Nat.lt_of_lt_of_le E_ro.lt o3_nw_be)
  have g_be : n0 ≤ be := Nat.le_trans Z2 o3_nw_be
  have ne_bb_bf : bb ≠ bf := Nat.ne_of_lt (Nat.lt_of_lt_of_le T_bb.lt o3_nw_bf)
  have ne_ro_bf : ro ≠ bf := Nat.ne_of_lt (Nat.lt_of_lt_of_le E_ro.lt o3_nw_bf)
  have g_bf : n0 ≤ bf := Nat.le_trans Z2 o3_nw_bf
  have ne_bb_bn : bb ≠ bn := Nat.ne_of_lt (Nat.lt_of_lt_of_le T_bb.lt o3_nw_bn)
  have ne_ro_bn : ro ≠ bn := Nat.ne_of_lt (Nat.lt_of_lt_of_le E_ro.lt o3_nw_bn)
  have g_bn : n0 ≤ bn := Nat.le_trans Z2 o3_nw_bn
  replace T_bb := T_bb.keep K3q (ninS ne_bb_ro nin0)
  replace E_ro := E_ro.keep K3q
  have Z3 := Nat.le_trans Z2 K3q.1
  have F_text_ro := o3_F_text_ro
  have F_starts_ro := o3_F_starts_ro
  have F_ends_ro := o3_F_ends_ro
  have F_firstFields_ro := o3_F_firstFields_ro
  have F_lines_ro := o3_F_lines_ro
  have F_faults_ro := o3_F_faults_ro
  have F_textUsed_ro := o3_F_textUsed_ro
  have F_fields_ro := o3_F_fields_ro
  have F_records_ro := o3_F_records_ro
  have T_bt := o3_T_bt
  have A_bs := o3_A_bs
  have A_be := o3_A_be
  have A_bf := o3_A_bf
  have A_bn := o3_A_bn
  refine Go.step (fun t k => st3.trans k) ?_
  show Go _ _ _ _ _ _ _ (T3.setTop (mkF m 65 #[.val (.int pa), .val (.int pb), .val (.int pc_), .val (.int pl), .val (.int ps), .val (.int va), .val (.int oa), .val (.int vb), .val (.int ob), .val (.int vc), .val (.int oc), .val (.ref bb), .unset, .unset] [(.ref ro)]))
  refine Go.step (fun t k => XS.astore X3.here hx rfl (hb hby at_65) rfl rfl (l' := #[.val (.int pa), .val (.int pb), .val (.int pc_), .val (.int pl), .val (.int ps), .val (.int va), .val (.int oa), .val (.int vb), .val (.int ob), .val (.int vc), .val (.int oc), .val (.ref bb), .val (.ref ro), .unset]) rfl k) ?_
  show Go _ _ _ _ _ _ _ (T3.setTop (mkF m 67 #[.val (.int pa), .val (.int pb), .val (.int pc_), .val (.int pl), .val (.int ps), .val (.int va), .val (.int oa), .val (.int vb), .val (.int ob), .val (.int vc), .val (.int oc), .val (.ref bb), .val (.ref ro), .unset] []))
  refine Go.step (fun t k => XS.aload X3.here hx rfl (hb hby at_67) rfl rfl k) ?_
  show Go _ _ _ _ _ _ _ (T3.setTop (mkF m 69 #[.val (.int pa), .val (.int pb), .val (.int pc_), .val (.int pl), .val (.int ps), .val (.int va), .val (.int oa), .val (.int vb), .val (.int ob), .val (.int vc), .val (.int oc), .val (.ref bb), .val (.ref ro), .unset] [(.ref ro)]))
  refine Go.step (fun t k => XS.iloadN X3.here hx rfl (hb hby at_69) rfl k) ?_
  show Go _ _ _ _ _ _ _ (T3.setTop (mkF m 70 #[.val (.int pa), .val (.int pb), .val (.int pc_), .val (.int pl), .val (.int ps), .val (.int va), .val (.int oa), .val (.int vb), .val (.int ob), .val (.int vc), .val (.int oc), .val (.ref bb), .val (.ref ro), .unset] [(.int pl), (.ref ro)]))
  obtain ⟨cq4, kq4, q4a, q4b, q4c⟩ := isOf hZ rfl E_ro
  obtain ⟨_, _, ⟨T4, L4, k4, n4⟩, -, X4, ⟨Lc4, hQ4, l4, y4, z4⟩, st4⟩ := X3.virtualBack hx (y := (⟨"com/example/vestwright/vestwright/io/Records", "startRecord", "(I)V"⟩ : MethodName)) (z := (⟨"com/example/vestwright/vestwright/io/Records", "startRecord", "(I)V"⟩ : MethodName)) hown (mvT hZ (hw _ (List.mem_of_getElem? (i := 25) rfl))) (mvT hZ (hw _ (List.mem_of_getElem? (i := 26) rfl))) (notFace_of_selects (args := #[]) (mvT hZ (hw _ (List.mem_of_getElem? (i := 28) rfl)))) (mvT hZ (hw _ (List.mem_of_getElem? (i := 28) rfl))) (mvT hZ (hw _ (List.mem_of_getElem? (i := 27) rfl))) (by decide) (backOf (W := 0) (rm3 l Z a0 hw [] ro pl bt bs be bf bn bx (0 : Int32) (0 : Int32) (0 : Int32) 0 (fun _ => (0 : Int32)) (fun _ => (0 : Int32)) T3.heap n0 Z3 F_text_ro F_starts_ro F_ends_ro F_firstFields_ro F_lines_ro F_faults_ro F_textUsed_ro F_fields_ro F_records_ro E_ro g_bf g_bn A_bf A_bn o3_ne_bf_bn o3_ne_ro_bf o3_ne_ro_bn rfl (by decide)) hZ (hw _ (List.mem_of_getElem? (i := 29) rfl)) (hw _ (List.mem_of_getElem? (i := 3) rfl)) (by decide) (by decide)) q4a q4c (g := (mkF m 70 #[.val (.int pa), .val (.int pb), .val (.int pc_), .val (.int pl), .val (.int ps), .val (.int va), .val (.int oa), .val (.int vb), .val (.int ob), .val (.int vc), .val (.int oc), .val (.ref bb), .val (.ref ro), .unset] [(.int pl), (.ref ro)])) rfl (by rw [hml]; rfl) (Steps.refl _) (argsL := [(.int pl)]) (rest := []) (lenOf pd_0_1 rfl) rfl (by show 2 * 0 + _ ≤ _; exact Nat.le_of_eq rfl) (hb hby at_70) (fun _ _ => ⟨rfl, rfl, (by decide : 8 + 0 ≤ _), (by decide : 13003 + 0 ≤ _)⟩)
  dsimp only [Pt.U, Pt.locs, Pt.cells, Pt.slots] at X4 l4 y4 z4 st4 hQ4
  subst l4 y4 z4
  obtain ⟨rfl, N4q, K4q, o4_A_bf, o4_A_bn⟩ := hQ4
  have N4 := Fr.app N3 N4q
  replace T_bb := T_bb.keep K4q (ninS ne_bb_bf (ninS ne_bb_bn nin0))
  replace E_ro := E_ro.keep K4q
  replace F_text_ro := F_text_ro.keep K4q (ninS o3_ne_ro_bf (ninS o3_ne_ro_bn nin0))
  replace F_starts_ro := F_starts_ro.keep K4q (ninS o3_ne_ro_bf (ninS o3_ne_ro_bn nin0))
  replace F_ends_ro := F_ends_ro.keep K4q (ninS o3_ne_ro_bf (ninS o3_ne_ro_bn nin0))
  replace F_firstFields_ro := F_firstFields_ro.keep K4q (ninS o3_ne_ro_bf (ninS o3_ne_ro_bn nin0))
  replace F_lines_ro := F_lines_ro.keep K4q (ninS o3_ne_ro_bf (ninS o3_ne_ro_bn nin0))
  replace F_faults_ro := F_faults_ro.keep K4q (ninS o3_ne_ro_bf (ninS o3_ne_ro_bn nin0))
  replace F_textUsed_ro := F_textUsed_ro.keep K4q (ninS o3_ne_ro_bf (ninS o3_ne_ro_bn nin0))
  replace F_fields_ro := F_fields_ro.keep K4q (ninS o3_ne_ro_bf (ninS o3_ne_ro_bn nin0))
  replace F_records_ro := F_records_ro.keep K4q (ninS o3_ne_ro_bf (ninS o3_ne_ro_bn nin0))
  replace T_bt := T_bt.keep K4q (ninS o3_ne_bt_bf (ninS o3_ne_bt_bn nin0))
  replace A_bs := A_bs.keep K4q (ninS o3_ne_bs_bf (ninS o3_ne_bs_bn nin0))
  replace A_be := A_be.keep K4q (ninS o3_ne_be_bf (ninS o3_ne_be_bn nin0))
  have Z4 := Nat.le_trans Z3 K4q.1
  have A_bf := o4_A_bf
  have A_bn := o4_A_bn
  refine Go.step (fun t k => st4.trans k) ?_
  show Go _ _ _ _ _ _ _ (T4.setTop (mkF m 73 #[.val (.int pa), .val (.int pb), .val (.int pc_), .val (.int pl), .val (.int ps), .val (.int va), .val (.int oa), .val (.int vb), .val (.int ob), .val (.int vc), .val (.int oc), .val (.ref bb), .val (.ref ro), .unset] []))
  refine Go.step (fun t k => XS.aload X4.here hx rfl (hb hby at_73) rfl rfl k) ?_
  show Go _ _ _ _ _ _ _ (T4.setTop (mkF m 75 #[.val (.int pa), .val (.int pb), .val (.int pc_), .val (.int pl), .val (.int ps), .val (.int va), .val (.int oa), .val (.int vb), .val (.int ob), .val (.int vc), .val (.int oc), .val (.ref bb), .val (.ref ro), .unset] [(.ref ro)]))
  refine Go.step (fun t k => XS.aload X4.here hx rfl (hb hby at_75) rfl rfl k) ?_
  show Go _ _ _ _ _ _ _ (T4.setTop (mkF m 77 #[.val (.int pa), .val (.int pb), .val (.int pc_), .val (.int pl), .val (.int ps), .val (.int va), .val (.int oa), .val (.int vb), .val (.int ob), .val (.int vc), .val (.int oc), .val (.ref bb), .val (.ref ro), .unset] [(.ref bb), (.ref ro)]))
  refine Go.step (fun t k => XS.iload X4.here hx rfl (hb hby at_77) rfl k) ?_
  show Go _ _ _ _ _ _ _ (T4.setTop (mkF m 79 #[.val (.int pa), .val (.int pb), .val (.int pc_), .val (.int pl), .val (.int ps), .val (.int va), .val (.int oa), .val (.int vb), .val (.int ob), .val (.int vc), .val (.int oc), .val (.ref bb), .val (.ref ro), .unset] [(.int oa), (.ref bb), (.ref ro)]))
  refine Go.step (fun t k => XS.iload X4.here hx rfl (hb hby at_79) rfl k) ?_
  show Go _ _ _ _ _ _ _ (T4.setTop (mkF m 81 #[.val (.int pa), .val (.int pb), .val (.int pc_), .val (.int pl), .val (.int ps), .val (.int va), .val (.int oa), .val (.int vb), .val (.int ob), .val (.int vc), .val (.int oc), .val (.ref bb), .val (.ref ro), .unset] [(.int va), (.int oa), (.ref bb), (.ref ro)]))
  obtain ⟨cq5, kq5, q5a, q5b, q5c⟩ := isOf hZ rfl E_ro
  obtain ⟨_, _, ⟨T5, L5, k5, n5⟩, -, X5, ⟨Lc5, hQ5, l5, y5, z5⟩, st5⟩ := X4.virtualBack hx (y := (⟨"com/example/vestwright/vestwright/io/Records", "addField", "([CII)V"⟩ : MethodName)) (z := (⟨"com/example/vestwright/vestwright/io/Records", "addField", "([CII)V"⟩ : MethodName)) hown (mvT hZ (hw _ (List.mem_of_getElem? (i := 34) rfl))) (mvT hZ (hw _ (List.mem_of_getElem? (i := 35) rfl))) (notFace_of_selects (args := #[]) (mvT hZ (hw _ (List.mem_of_getElem? (i := 37) rfl)))) (mvT hZ (hw _ (List.mem_of_getElem? (i := 37) rfl))) (mvT hZ (hw _ (List.mem_of_getElem? (i := 36) rfl))) (by decide) (backOf (W := 0) (rm4 l Z a0 hw [] ro bb oa va bt bs be bf bn bx (0 : Int32) (0 : Int32) (0 : Int32) (4096 : Int32) 4096 0 (va.toInt.toNat) 0 (oa.toInt.toNat) (fun _ => (0 : Int32)) (fun _ => (0 : Int32)) T4.heap n0 Z4 F_text_ro F_starts_ro F_ends_ro F_firstFields_ro F_lines_ro F_faults_ro F_textUsed_ro F_fields_ro F_records_ro E_ro g_ro g_bt g_bs g_be T_bt T_bb A_bs A_be o3_ne_bt_bs o3_ne_bt_be o3_ne_bs_be o3_ne_ro_bt o3_ne_ro_bs o3_ne_ro_be ne_bb_bt ne_bb_bs ne_bb_be ne_bb_ro rfl rfl (own_mk hva).1 rfl (by decide) (by decide) (by decide) (by have q1 := (own_mk hva).2; omega) (own_mk hoa).1 (by have q1 := (own_mk hva).2; have q2 := (own_mk hoa).2; omega)) hZ (hw _ (List.mem_of_getElem? (i := 38) rfl)) (hw _ (List.mem_of_getElem? (i := 3) rfl)) (by decide) (by decide)) q5a q5c (g := (mkF m 81 #[.val (.int pa), .val (.int pb), .val (.int pc_), .val (.int pl), .val (.int ps), .val (.int va), .val (.int oa), .val (.int vb), .val (.int ob), .val (.int vc), .val (.int oc), .val (.ref bb), .val (.ref ro), .unset] [(.int va), (.int oa), (.ref bb), (.ref ro)])) rfl (by rw [hml]; rfl) (Steps.refl _) (argsL := [(.ref bb), (.int oa), (.int va)]) (rest := []) (lenOf pd_0_2 rfl) rfl (by show 2 * 0 + _ ≤ _; exact Nat.le_of_eq rfl) (hb hby at_81) (fun _ _ => ⟨rfl, rfl, (by decide : 8 + 1 ≤ _), (by decide : 13003 + 16384 ≤ _)⟩)
  dsimp only [Pt.U, Pt.locs, Pt.cells, Pt.slots] at X5 l5 y5 z5 st5 hQ5
  subst l5 y5 z5
  obtain ⟨t1, m1, rfl, N5q, K5q, o5_F_text_ro, o5_F_starts_ro, o5_F_ends_ro, o5_F_firstFields_ro, o5_F_lines_ro, o5_F_faults_ro, o5_F_textUsed_ro, o5_F_fields_ro, o5_F_records_ro, o5_nw_t1, o5_T_t1, o5_A_bs, o5_A_be, o5_hn2⟩ := hQ5
  have N5 := Fr.app N4 N5q
  have ne_bb_t1 : bb ≠ t1 := own_nex o5_nw_t1 ne_bb_bt T_bb.lt
  have ne_ro_t1 : ro ≠ t1 := own_nex o5_nw_t1 o3_ne_ro_bt E_ro.lt
  have ne_bs_t1 : bs ≠ t1 := own_nex o5_nw_t1 (Ne.symm o3_ne_bt_bs) A_bs.lt
  have ne_be_t1 : be ≠ t1 := own_nex o5_nw_t1 (Ne.symm o3_ne_bt_be) A_be.lt
  have ne_bf_t1 : bf ≠ t1 := own_nex o5_nw_t1 (Ne.symm o3_ne_bt_bf) A_bf.lt
  have ne_bn_t1 : bn ≠ t1 := own_nex o5_nw_t1 (Ne.symm o3_ne_bt_bn) A_bn.lt
  have g_t1 : n0 ≤ t1 := own_gex o5_nw_t1 g_bt Z4
  replace T_bb := T_bb.keep K5q (ninS ne_bb_ro (ninS ne_bb_bt (ninS ne_bb_bs (ninS ne_bb_be nin0))))
  replace E_ro := E_ro.keep K5q
  replace A_bf := A_bf.keep K5q (ninS (Ne.symm o3_ne_ro_bf) (ninS (Ne.symm o3_ne_bt_bf) (ninS (Ne.symm o3_ne_bs_bf) (ninS (Ne.symm o3_ne_be_bf) nin0))))
  replace A_bn := A_bn.keep K5q (ninS (Ne.symm o3_ne_ro_bn) (ninS (Ne.symm o3_ne_bt_bn) (ninS (Ne.symm o3_ne_bs_bn) (ninS (Ne.symm o3_ne_be_bn) nin0))))
  have Z5 := Nat.le_trans Z4 K5q.1
  have F_text_ro := o5_F_text_ro
  have F_starts_ro := o5_F_starts_ro
  have F_ends_ro := o5_F_ends_ro
  have F_firstFields_ro := o5_F_firstFields_ro
  have F_lines_ro := o5_F_lines_ro
  have F_faults_ro := o5_F_faults_ro
  have F_textUsed_ro := o5_F_textUsed_ro
  have F_fields_ro := o5_F_fields_ro
  have F_records_ro := o5_F_records_ro
  have T_t1 := o5_T_t1
  have A_bs := o5_A_bs
  have A_be := o5_A_be
  refine Go.step (fun t k => st5.trans k) ?_
  show Go _ _ _ _ _ _ _ (T5.setTop (mkF m 84 #[.val (.int pa), .val (.int pb), .val (.int pc_), .val (.int pl), .val (.int ps), .val (.int va), .val (.int oa), .val (.int vb), .val (.int ob), .val (.int vc), .val (.int oc), .val (.ref bb), .val (.ref ro), .unset] []))
  obtain rfl : m1 = 4096 := o5_hn2.2.2.2 (by have q1 := (own_mk hva).2; omega)
  refine Go.step (fun t k => XS.aload X5.here hx rfl (hb hby at_84) rfl rfl k) ?_
  show Go _ _ _ _ _ _ _ (T5.setTop (mkF m 86 #[.val (.int pa), .val (.int pb), .val (.int pc_), .val (.int pl), .val (.int ps), .val (.int va), .val (.int oa), .val (.int vb), .val (.int ob), .val (.int vc), .val (.int oc), .val (.ref bb), .val (.ref ro), .unset] [(.ref ro)]))
  refine Go.step (fun t k => XS.aload X5.here hx rfl (hb hby at_86) rfl rfl k) ?_
  show Go _ _ _ _ _ _ _ (T5.setTop (mkF m 88 #[.val (.int pa), .val (.int pb), .val (.int pc_), .val (.int pl), .val (.int ps), .val (.int va), .val (.int oa), .val (.int vb), .val (.int ob), .val (.int vc), .val (.int oc), .val (.ref bb), .val (.ref ro), .unset] [(.ref bb), (.ref ro)]))
  refine Go.step (fun t k => XS.iload X5.here hx rfl (hb hby at_88) rfl k) ?_
  show Go _ _ _ _ _ _ _ (T5.setTop (mkF m 90 #[.val (.int pa), .val (.int pb), .val (.int pc_), .val (.int pl), .val (.int ps), .val (.int va), .val (.int oa), .val (.int vb), .val (.int ob), .val (.int vc), .val (.int oc), .val (.ref bb), .val (.ref ro), .unset] [(.int ob), (.ref bb), (.ref ro)]))
  refine Go.step (fun t k => XS.iload X5.here hx rfl (hb hby at_90) rfl k) ?_
  show Go _ _ _ _ _ _ _ (T5.setTop (mkF m 92 #[.val (.int pa), .val (.int pb), .val (.int pc_), .val (.int pl), .val (.int ps), .val (.int va), .val (.int oa), .val (.int vb), .val (.int ob), .val (.int vc), .val (.int oc), .val (.ref bb), .val (.ref ro), .unset] [(.int vb), (.int ob), (.ref bb), (.ref ro)]))
  obtain ⟨cq6, kq6, q6a, q6b, q6c⟩ := isOf hZ rfl E_ro
  obtain ⟨_, _, ⟨T6, L6, k6, n6⟩, -, X6, ⟨Lc6, hQ6, l6, y6, z6⟩, st6⟩ := X5.virtualBack hx (y := (⟨"com/example/vestwright/vestwright/io/Records", "addField", "([CII)V"⟩ : MethodName)) (z := (⟨"com/example/vestwright/vestwright/io/Records", "addField", "([CII)V"⟩ : MethodName)) hown (mvT hZ (hw _ (List.mem_of_getElem? (i := 34) rfl))) (mvT hZ (hw _ (List.mem_of_getElem? (i := 35) rfl))) (notFace_of_selects (args := #[]) (mvT hZ (hw _ (List.mem_of_getElem? (i := 37) rfl)))) (mvT hZ (hw _ (List.mem_of_getElem? (i := 37) rfl))) (mvT hZ (hw _ (List.mem_of_getElem? (i := 36) rfl))) (by decide) (backOf (W := 0) (rm4 l Z a0 hw [] ro bb ob vb t1 bs be bf bn bx ((0 : Int32) + va) (1 : Int32) (0 : Int32) (4096 : Int32) 4096 (va.toInt.toNat) (vb.toInt.toNat) 1 (ob.toInt.toNat) (up (fun _ => (0 : Int32)) 0 (0 : Int32)) (up (fun _ => (0 : Int32)) 0 ((0 : Int32) + va)) T5.heap n0 Z5 F_text_ro F_starts_ro F_ends_ro F_firstFields_ro F_lines_ro F_faults_ro F_textUsed_ro F_fields_ro F_records_ro E_ro g_ro g_t1 g_bs g_be T_t1 T_bb A_bs A_be (Ne.symm ne_bs_t1) (Ne.symm ne_be_t1) o3_ne_bs_be ne_ro_t1 o3_ne_ro_bs o3_ne_ro_be ne_bb_t1 ne_bb_bs ne_bb_be ne_bb_ro rfl (own_z0 (own_mk hva).1) (own_mk hvb).1 rfl (by decide) (by decide) (by decide) (by have q1 := (own_mk hva).2; have q2 := (own_mk hvb).2; omega) (own_mk hob).1 (by have q1 := (own_mk hvb).2; have q2 := (own_mk hob).2; omega)) hZ (hw _ (List.mem_of_getElem? (i := 38) rfl)) (hw _ (List.mem_of_getElem? (i := 3) rfl)) (by decide) (by decide)) q6a q6c (g := (mkF m 92 #[.val (.int pa), .val (.int pb), .val (.int pc_), .val (.int pl), .val (.int ps), .val (.int va), .val (.int oa), .val (.int vb), .val (.int ob), .val (.int vc), .val (.int oc), .val (.ref bb), .val (.ref ro), .unset] [(.int vb), (.int ob), (.ref bb), (.ref ro)])) rfl (by rw [hml]; rfl) (Steps.refl _) (argsL := [(.ref bb), (.int ob), (.int vb)]) (rest := []) (lenOf pd_0_2 rfl) rfl (by show 2 * 0 + _ ≤ _; exact Nat.le_of_eq rfl) (hb hby at_92) (fun _ _ => ⟨rfl, rfl, (by decide : 9 + 1 ≤ _), (by decide : 29387 + 16384 ≤ _)⟩)
  dsimp only [Pt.U, Pt.locs, Pt.cells, Pt.slots] at X6 l6 y6 z6 st6 hQ6
  subst l6 y6 z6
  obtain ⟨t2, m2, rfl, N6q, K6q, o6_F_text_ro, o6_F_starts_ro, o6_F_ends_ro, o6_F_firstFields_ro, o6_F_lines_ro, o6_F_faults_ro, o6_F_textUsed_ro, o6_F_fields_ro, o6_F_records_ro, o6_nw_t2, o6_T_t2, o6_A_bs, o6_A_be, o6_hn2⟩ := hQ6
  have N6 := Fr.app N5 N6q
  have ne_bb_t2 : bb ≠ t2 := own_nex o6_nw_t2 ne_bb_t1 T_bb.lt
  have ne_ro_t2 : ro ≠ t2 := own_nex o6_nw_t2 ne_ro_t1 E_ro.lt
  have ne_bf_t2 : bf ≠ t2 := own_nex o6_nw_t2 ne_bf_t1 A_bf.lt
  have ne_bn_t2 : bn ≠ t2 := own_nex o6_nw_t2 ne_bn_t1 A_bn.lt
  have ne_bs_t2 : bs ≠ t2 := own_nex o6_nw_t2 ne_bs_t1 A_bs.lt
  have ne_be_t2 : be ≠ t2 := own_nex o6_nw_t2 ne_be_t1 A_be.lt
  have g_t2 : n0 ≤ t2 := own_gex o6_nw_t2 g_t1 Z5
  replace T_bb := T_bb.keep K6q (ninS ne_bb_ro (ninS ne_bb_t1 (ninS ne_bb_bs (ninS ne_bb_be nin0))))
  replace E_ro := E_ro.keep K6q
  replace A_bf := A_bf.keep K6q (ninS (Ne.symm o3_ne_ro_bf) (ninS ne_bf_t1 (ninS (Ne.symm o3_ne_bs_bf) (ninS (Ne.symm o3_ne_be_bf) nin0))))
  replace A_bn := A_bn.keep K6q (ninS (Ne.symm o3_ne_ro_bn) (ninS ne_bn_t1 (ninS (Ne.symm o3_ne_bs_bn) (ninS (Ne.symm o3_ne_be_bn) nin0))))
  have Z6 := Nat.le_trans Z5 K6q.1
  have F_text_ro := o6_F_text_ro
  have F_starts_ro := o6_F_starts_ro
  have F_ends_ro := o6_F_ends_ro
  have F_firstFields_ro := o6_F_firstFields_ro
  have F_lines_ro := o6_F_lines_ro
  have F_faults_ro := o6_F_faults_ro
  have F_textUsed_ro := o6_F_textUsed_ro
  have F_fields_ro := o6_F_fields_ro
  have F_records_ro := o6_F_records_ro
  have T_t2 := o6_T_t2
  have A_bs := o6_A_bs
  have A_be := o6_A_be
  refine Go.step (fun t k => st6.trans k) ?_
  show Go _ _ _ _ _ _ _ (T6.setTop (mkF m 95 #[.val (.int pa), .val (.int pb), .val (.int pc_), .val (.int pl), .val (.int ps), .val (.int va), .val (.int oa), .val (.int vb), .val (.int ob), .val (.int vc), .val (.int oc), .val (.ref bb), .val (.ref ro), .unset] []))
  obtain ⟨z3, hz3⟩ : ∃ z : Int32, z.toInt = (m2 : Int) := ⟨Int32.ofNat m2, Int32.toInt_ofNat_small (by have q := o6_hn2.2.1; omega)⟩
  refine Go.step (fun t k => XS.aload X6.here hx rfl (hb hby at_95) rfl rfl k) ?_
  show Go _ _ _ _ _ _ _ (T6.setTop (mkF m 97 #[.val (.int pa), .val (.int pb), .val (.int pc_), .val (.int pl), .val (.int ps), .val (.int va), .val (.int oa), .val (.int vb), .val (.int ob), .val (.int vc), .val (.int oc), .val (.ref bb), .val (.ref ro), .unset] [(.ref ro)]))
  obtain ⟨cq7, kq7, q7a, q7b, q7c⟩ := isOf hZ rfl E_ro
  obtain ⟨_, _, ⟨T7, L7, k7, n7⟩, -, X7, ⟨Lc7, hQ7, l7, y7, z7⟩, st7⟩ := X6.virtualBack hx (y := (⟨"com/example/vestwright/vestwright/io/Records", "endRecord", "()V"⟩ : MethodName)) (z := (⟨"com/example/vestwright/vestwright/io/Records", "endRecord", "()V"⟩ : MethodName)) hown (mvT hZ (hw _ (List.mem_of_getElem? (i := 49) rfl))) (mvT hZ (hw _ (List.mem_of_getElem? (i := 50) rfl))) (notFace_of_selects (args := #[]) (mvT hZ (hw _ (List.mem_of_getElem? (i := 52) rfl)))) (mvT hZ (hw _ (List.mem_of_getElem? (i := 52) rfl))) (mvT hZ (hw _ (List.mem_of_getElem? (i := 51) rfl))) (by decide) (backOf (W := 0) (rm6 l Z a0 hw [] ro t2 bs be bf bn bx (((0 : Int32) + va) + vb) (2 : Int32) (0 : Int32) 0 (up (fun _ => (0 : Int32)) 0 (0 : Int32)) T6.heap n0 Z6 F_text_ro F_starts_ro F_ends_ro F_firstFields_ro F_lines_ro F_faults_ro F_textUsed_ro F_fields_ro F_records_ro E_ro g_ro g_bf A_bf o3_ne_ro_bf rfl (by decide)) hZ (hw _ (List.mem_of_getElem? (i := 53) rfl)) (hw _ (List.mem_of_getElem? (i := 3) rfl)) (by decide) (by decide)) q7a q7c (g := (mkF m 97 #[.val (.int pa), .val (.int pb), .val (.int pc_), .val (.int pl), .val (.int ps), .val (.int va), .val (.int oa), .val (.int vb), .val (.int ob), .val (.int vc), .val (.int oc), .val (.ref bb), .val (.ref ro), .unset] [(.ref ro)])) rfl (by rw [hml]; rfl) (Steps.refl _) (argsL := []) (rest := []) (lenOf pd_0_0 rfl) rfl (by show 2 * 0 + _ ≤ _; exact Nat.le_of_eq rfl) (hb hby at_97) (fun _ _ => ⟨rfl, rfl, (by decide : 10 + 0 ≤ _), (by decide : 45771 + 0 ≤ _)⟩)
  dsimp only [Pt.U, Pt.locs, Pt.cells, Pt.slots] at X7 l7 y7 z7 st7 hQ7
  subst l7 y7 z7
  obtain ⟨rfl, N7q, K7q, o7_F_text_ro, o7_F_starts_ro, o7_F_ends_ro, o7_F_firstFields_ro, o7_F_lines_ro, o7_F_faults_ro, o7_F_textUsed_ro, o7_F_fields_ro, o7_F_records_ro, o7_A_bf⟩ := hQ7
  have N7 := Fr.app N6 N7q
  replace T_bb := T_bb.keep K7q (ninS ne_bb_ro (ninS ne_bb_bf nin0))
  replace E_ro := E_ro.keep K7q
  replace A_bn := A_bn.keep K7q (ninS (Ne.symm o3_ne_ro_bn) (ninS (Ne.symm o3_ne_bf_bn) nin0))
  replace T_t2 := T_t2.keep K7q (ninS (Ne.symm ne_ro_t2) (ninS (Ne.symm ne_bf_t2) nin0))
  replace A_bs := A_bs.keep K7q (ninS (Ne.symm o3_ne_ro_bs) (ninS o3_ne_bs_bf nin0))
  replace A_be := A_be.keep K7q (ninS (Ne.symm o3_ne_ro_be) (ninS o3_ne_be_bf nin0))
  have Z7 := Nat.le_trans Z6 K7q.1
  have F_text_ro := o7_F_text_ro
  have F_starts_ro := o7_F_starts_ro
  have F_ends_ro := o7_F_ends_ro
  have F_firstFields_ro := o7_F_firstFields_ro
  have F_lines_ro := o7_F_lines_ro
  have F_faults_ro := o7_F_faults_ro
  have F_textUsed_ro := o7_F_textUsed_ro
  have F_fields_ro := o7_F_fields_ro
  have F_records_ro := o7_F_records_ro
  have A_bf := o7_A_bf
  refine Go.step (fun t k => st7.trans k) ?_
  show Go _ _ _ _ _ _ _ (T7.setTop (mkF m 100 #[.val (.int pa), .val (.int pb), .val (.int pc_), .val (.int pl), .val (.int ps), .val (.int va), .val (.int oa), .val (.int vb), .val (.int ob), .val (.int vc), .val (.int oc), .val (.ref bb), .val (.ref ro), .unset] []))
  refine Go.step (fun t k => XS.aload X7.here hx rfl (hb hby at_100) rfl rfl k) ?_
  show Go _ _ _ _ _ _ _ (T7.setTop (mkF m 102 #[.val (.int pa), .val (.int pb), .val (.int pc_), .val (.int pl), .val (.int ps), .val (.int va), .val (.int oa), .val (.int vb), .val (.int ob), .val (.int vc), .val (.int oc), .val (.ref bb), .val (.ref ro), .unset] [(.ref ro)]))
  refine Go.step (fun t k => XS.iloadN X7.here hx rfl (hb hby at_102) rfl k) ?_
  show Go _ _ _ _ _ _ _ (T7.setTop (mkF m 103 #[.val (.int pa), .val (.int pb), .val (.int pc_), .val (.int pl), .val (.int ps), .val (.int va), .val (.int oa), .val (.int vb), .val (.int ob), .val (.int vc), .val (.int oc), .val (.ref bb), .val (.ref ro), .unset] [(.int pl), (.ref ro)]))
  refine Go.step (fun t k => XS.iconst X7.here hx rfl (hb hby at_103) k) ?_
  show Go _ _ _ _ _ _ _ (T7.setTop (mkF m 104 #[.val (.int pa), .val (.int pb), .val (.int pc_), .val (.int pl), .val (.int ps), .val (.int va), .val (.int oa), .val (.int vb), .val (.int ob), .val (.int vc), .val (.int oc), .val (.ref bb), .val (.ref ro), .unset] [(.int (1 : Int32)), (.int pl), (.ref ro)]))
  refine Go.step (fun t k => XS.iadd X7.here hx rfl (hb hby at_104) rfl k) ?_
  show Go _ _ _ _ _ _ _ (T7.setTop (mkF m 105 #[.val (.int pa), .val (.int pb), .val (.int pc_), .val (.int pl), .val (.int ps), .val (.int va), .val (.int oa), .val (.int vb), .val (.int ob), .val (.int vc), .val (.int oc), .val (.ref bb), .val (.ref ro), .unset] [(.int (pl + (1 : Int32))), (.ref ro)]))
  obtain ⟨cq8, kq8, q8a, q8b, q8c⟩ := isOf hZ rfl E_ro
  obtain ⟨_, _, ⟨T8, L8, k8, n8⟩, -, X8, ⟨Lc8, hQ8, l8, y8, z8⟩, st8⟩ := X7.virtualBack hx (y := (⟨"com/example/vestwright/vestwright/io/Records", "startRecord", "(I)V"⟩ : MethodName)) (z := (⟨"com/example/vestwright/vestwright/io/Records", "startRecord", "(I)V"⟩ : MethodName)) hown (mvT hZ (hw _ (List.mem_of_getElem? (i := 25) rfl))) (mvT hZ (hw _ (List.mem_of_getElem? (i := 26) rfl))) (notFace_of_selects (args := #[]) (mvT hZ (hw _ (List.mem_of_getElem? (i := 28) rfl)))) (mvT hZ (hw _ (List.mem_of_getElem? (i := 28) rfl))) (mvT hZ (hw _ (List.mem_of_getElem? (i := 27) rfl))) (by decide) (backOf (W := 0) (rm3 l Z a0 hw [] ro (pl + (1 : Int32)) t2 bs be bf bn bx (((0 : Int32) + va) + vb) (2 : Int32) (1 : Int32) 1 (up (up (fun _ => (0 : Int32)) 0 (0 : Int32)) 1 (2 : Int32)) (up (fun _ => (0 : Int32)) 0 pl) T7.heap n0 Z7 F_text_ro F_starts_ro F_ends_ro F_firstFields_ro F_lines_ro F_faults_ro F_textUsed_ro F_fields_ro F_records_ro E_ro g_bf g_bn A_bf A_bn o3_ne_bf_bn o3_ne_ro_bf o3_ne_ro_bn rfl (by decide)) hZ (hw _ (List.mem_of_getElem? (i := 29) rfl)) (hw _ (List.mem_of_getElem? (i := 3) rfl)) (by decide) (by decide)) q8a q8c (g := (mkF m 105 #[.val (.int pa), .val (.int pb), .val (.int pc_), .val (.int pl), .val (.int ps), .val (.int va), .val (.int oa), .val (.int vb), .val (.int ob), .val (.int vc), .val (.int oc), .val (.ref bb), .val (.ref ro), .unset] [(.int (pl + (1 : Int32))), (.ref ro)])) rfl (by rw [hml]; rfl) (Steps.refl _) (argsL := [(.int (pl + (1 : Int32)))]) (rest := []) (lenOf pd_0_1 rfl) rfl (by show 2 * 0 + _ ≤ _; exact Nat.le_of_eq rfl) (hb hby at_105) (fun _ _ => ⟨rfl, rfl, (by decide : 10 + 0 ≤ _), (by decide : 45771 + 0 ≤ _)⟩)
  dsimp only [Pt.U, Pt.locs, Pt.cells, Pt.slots] at X8 l8 y8 z8 st8 hQ8
  subst l8 y8 z8
  obtain ⟨rfl, N8q, K8q, o8_A_bf, o8_A_bn⟩ := hQ8
  have N8 := Fr.app N7 N8q
  replace T_bb := T_bb.keep K8q (ninS ne_bb_bf (ninS ne_bb_bn nin0))
  replace E_ro := E_ro.keep K8q
  replace T_t2 := T_t2.keep K8q (ninS (Ne.symm ne_bf_t2) (ninS (Ne.symm ne_bn_t2) nin0))
  replace A_bs := A_bs.keep K8q (ninS o3_ne_bs_bf (ninS o3_ne_bs_bn nin0))
  replace A_be := A_be.keep K8q (ninS o3_ne_be_bf (ninS o3_ne_be_bn nin0))
  replace F_text_ro := F_text_ro.keep K8q (ninS o3_ne_ro_bf (ninS o3_ne_ro_bn nin0))
  replace F_starts_ro := F_starts_ro.keep K8q (ninS o3_ne_ro_bf (ninS o3_ne_ro_bn nin0))
  replace F_ends_ro := F_ends_ro.keep K8q (ninS o3_ne_ro_bf (ninS o3_ne_ro_bn nin0))
  replace F_firstFields_ro := F_firstFields_ro.keep K8q (ninS o3_ne_ro_bf (ninS o3_ne_ro_bn nin0))
  replace F_lines_ro := F_lines_ro.keep K8q (ninS o3_ne_ro_bf (ninS o3_ne_ro_bn nin0))
  replace F_faults_ro := F_faults_ro.keep K8q (ninS o3_ne_ro_bf (ninS o3_ne_ro_bn nin0))
  replace F_textUsed_ro := F_textUsed_ro.keep K8q (ninS o3_ne_ro_bf (ninS o3_ne_ro_bn nin0))
  replace F_fields_ro := F_fields_ro.keep K8q (ninS o3_ne_ro_bf (ninS o3_ne_ro_bn nin0))
  replace F_records_ro := F_records_ro.keep K8q (ninS o3_ne_ro_bf (ninS o3_ne_ro_bn nin0))
  have Z8 := Nat.le_trans Z7 K8q.1
  have A_bf := o8_A_bf
  have A_bn := o8_A_bn
  refine Go.step (fun t k => st8.trans k) ?_
  show Go _ _ _ _ _ _ _ (T8.setTop (mkF m 108 #[.val (.int pa), .val (.int pb), .val (.int pc_), .val (.int pl), .val (.int ps), .val (.int va), .val (.int oa), .val (.int vb), .val (.int ob), .val (.int vc), .val (.int oc), .val (.ref bb), .val (.ref ro), .unset] []))
  refine Go.step (fun t k => XS.aload X8.here hx rfl (hb hby at_108) rfl rfl k) ?_
  show Go _ _ _ _ _ _ _ (T8.setTop (mkF m 110 #[.val (.int pa), .val (.int pb), .val (.int pc_), .val (.int pl), .val (.int ps), .val (.int va), .val (.int oa), .val (.int vb), .val (.int ob), .val (.int vc), .val (.int oc), .val (.ref bb), .val (.ref ro), .unset] [(.ref ro)]))
  refine Go.step (fun t k => XS.aload X8.here hx rfl (hb hby at_110) rfl rfl k) ?_
  show Go _ _ _ _ _ _ _ (T8.setTop (mkF m 112 #[.val (.int pa), .val (.int pb), .val (.int pc_), .val (.int pl), .val (.int ps), .val (.int va), .val (.int oa), .val (.int vb), .val (.int ob), .val (.int vc), .val (.int oc), .val (.ref bb), .val (.ref ro), .unset] [(.ref bb), (.ref ro)]))
  refine Go.step (fun t k => XS.iload X8.here hx rfl (hb hby at_112) rfl k) ?_
  show Go _ _ _ _ _ _ _ (T8.setTop (mkF m 114 #[.val (.int pa), .val (.int pb), .val (.int pc_), .val (.int pl), .val (.int ps), .val (.int va), .val (.int oa), .val (.int vb), .val (.int ob), .val (.int vc), .val (.int oc), .val (.ref bb), .val (.ref ro), .unset] [(.int oc), (.ref bb), (.ref ro)]))
  refine Go.step (fun t k => XS.iload X8.here hx rfl (hb hby at_114) rfl k) ?_
  show Go _ _ _ _ _ _ _ (T8.setTop (mkF m 116 #[.val (.int pa), .val (.int pb), .val (.int pc_), .val (.int pl), .val (.int ps), .val (.int va), .val (.int oa), .val (.int vb), .val (.int ob), .val (.int vc), .val (.int oc), .val (.ref bb), .val (.ref ro), .unset] [(.int vc), (.int oc), (.ref bb), (.ref ro)]))
  obtain ⟨cq9, kq9, q9a, q9b, q9c⟩ := isOf hZ rfl E_ro
  obtain ⟨_, _, ⟨T9, L9, k9, n9⟩, -, X9, ⟨Lc9, hQ9, l9, y9, z9⟩, st9⟩ := X8.virtualBack hx (y := (⟨"com/example/vestwright/vestwright/io/Records", "addField", "([CII)V"⟩ : MethodName)) (z := (⟨"com/example/vestwright/vestwright/io/Records", "addField", "([CII)V"⟩ : MethodName)) hown (mvT hZ (hw _ (List.mem_of_getElem? (i := 34) rfl))) (mvT hZ (hw _ (List.mem_of_getElem? (i := 35) rfl))) (notFace_of_selects (args := #[]) (mvT hZ (hw _ (List.mem_of_getElem? (i := 37) rfl)))) (mvT hZ (hw _ (List.mem_of_getElem? (i := 37) rfl))) (mvT hZ (hw _ (List.mem_of_getElem? (i := 36) rfl))) (by decide) (backOf (W := 0) (rm4 l Z a0 hw [] ro bb oc vc t2 bs be bf bn bx (((0 : Int32) + va) + vb) (2 : Int32) (1 : Int32) z3 m2 ((va.toInt.toNat) + (vb.toInt.toNat)) (vc.toInt.toNat) 2 (oc.toInt.toNat) (up (up (fun _ => (0 : Int32)) 0 (0 : Int32)) 1 ((0 : Int32) + va)) (up (up (fun _ => (0 : Int32)) 0 ((0 : Int32) + va)) 1 (((0 : Int32) + va) + vb)) T8.heap n0 Z8 F_text_ro F_starts_ro F_ends_ro F_firstFields_ro F_lines_ro F_faults_ro F_textUsed_ro F_fields_ro F_records_ro E_ro g_ro g_t2 g_bs g_be T_t2 T_bb A_bs A_be (Ne.symm ne_bs_t2) (Ne.symm ne_be_t2) o3_ne_bs_be ne_ro_t2 o3_ne_ro_bs o3_ne_ro_be ne_bb_t2 ne_bb_bs ne_bb_be ne_bb_ro hz3 (own_add (own_z0 (own_mk hva).1) (own_mk hvb).1 (by have q1 := (own_mk hva).2; have q2 := (own_mk hvb).2; omega)) (own_mk hvc).1 rfl (by decide) (by have q := o6_hn2.2.1; omega) (by have q := o6_hn2.2.2.1; omega) (by have q := o6_hn2; have q1 := (own_mk hvc).2; omega) (own_mk hoc).1 (by have q1 := (own_mk hvc).2; have q2 := (own_mk hoc).2; omega)) hZ (hw _ (List.mem_of_getElem? (i := 38) rfl)) (hw _ (List.mem_of_getElem? (i := 3) rfl)) (by decide) (by decide)) q9a q9c (g := (mkF m 116 #[.val (.int pa), .val (.int pb), .val (.int pc_), .val (.int pl), .val (.int ps), .val (.int va), .val (.int oa), .val (.int vb), .val (.int ob), .val (.int vc), .val (.int oc), .val (.ref bb), .val (.ref ro), .unset] [(.int vc), (.int oc), (.ref bb), (.ref ro)])) rfl (by rw [hml]; rfl) (Steps.refl _) (argsL := [(.ref bb), (.int oc), (.int vc)]) (rest := []) (lenOf pd_0_2 rfl) rfl (by show 2 * 0 + _ ≤ _; exact Nat.le_of_eq rfl) (hb hby at_116) (fun _ _ => ⟨rfl, rfl, (by decide : 10 + 1 ≤ _), (by decide : 45771 + 16384 ≤ _)⟩)
  dsimp only [Pt.U, Pt.locs, Pt.cells, Pt.slots] at X9 l9 y9 z9 st9 hQ9
  subst l9 y9 z9
  obtain ⟨t3, m3, rfl, N9q, K9q, o9_F_text_ro, o9_F_starts_ro, o9_F_ends_ro, o9_F_firstFields_ro, o9_F_lines_ro, o9_F_faults_ro, o9_F_textUsed_ro, o9_F_fields_ro, o9_F_records_ro, o9_nw_t3, o9_T_t3, o9_A_bs, o9_A_be, o9_hn2⟩ := hQ9
  have N9 := Fr.app N8 N9q
  have ne_bb_t3 : bb ≠ t3 := own_nex o9_nw_t3 ne_bb_t2 T_bb.lt
  have ne_ro_t3 : ro ≠ t3 := own_nex o9_nw_t3 ne_ro_t2 E_ro.lt
  have ne_bs_t3 : bs ≠ t3 := own_nex o9_nw_t3 ne_bs_t2 A_bs.lt
  have ne_be_t3 : be ≠ t3 := own_nex o9_nw_t3 ne_be_t2 A_be.lt
  have ne_bf_t3 : bf ≠ t3 := own_nex o9_nw_t3 ne_bf_t2 A_bf.lt
  have ne_bn_t3 : bn ≠ t3 := own_nex o9_nw_t3 ne_bn_t2 A_bn.lt
  have g_t3 : n0 ≤ t3 := own_gex o9_nw_t3 g_t2 Z8
  replace T_bb := T_bb.keep K9q (ninS ne_bb_ro (ninS ne_bb_t2 (ninS ne_bb_bs (ninS ne_bb_be nin0))))
  replace E_ro := E_ro.keep K9q
  replace A_bf := A_bf.keep K9q (ninS (Ne.symm o3_ne_ro_bf) (ninS ne_bf_t2 (ninS (Ne.symm o3_ne_bs_bf) (ninS (Ne.symm o3_ne_be_bf) nin0))))
  replace A_bn := A_bn.keep K9q (ninS (Ne.symm o3_ne_ro_bn) (ninS ne_bn_t2 (ninS (Ne.symm o3_ne_bs_bn) (ninS (Ne.symm o3_ne_be_bn) nin0))))
  have Z9 := Nat.le_trans Z8 K9q.1
  have F_text_ro := o9_F_text_ro
  have F_starts_ro := o9_F_starts_ro
  have F_ends_ro := o9_F_ends_ro
  have F_firstFields_ro := o9_F_firstFields_ro
  have F_lines_ro := o9_F_lines_ro
  have F_faults_ro := o9_F_faults_ro
  have F_textUsed_ro := o9_F_textUsed_ro
  have F_fields_ro := o9_F_fields_ro
  have F_records_ro := o9_F_records_ro
  have T_t3 := o9_T_t3
  have A_bs := o9_A_bs
  have A_be := o9_A_be
  refine Go.step (fun t k => st9.trans k) ?_
  show Go _ _ _ _ _ _ _ (T9.setTop (mkF m 119 #[.val (.int pa), .val (.int pb), .val (.int pc_), .val (.int pl), .val (.int ps), .val (.int va), .val (.int oa), .val (.int vb), .val (.int ob), .val (.int vc), .val (.int oc), .val (.ref bb), .val (.ref ro), .unset] []))
  refine Go.step (fun t k => XS.aload X9.here hx rfl (hb hby at_119) rfl rfl k) ?_
  show Go _ _ _ _ _ _ _ (T9.setTop (mkF m 121 #[.val (.int pa), .val (.int pb), .val (.int pc_), .val (.int pl), .val (.int ps), .val (.int va), .val (.int oa), .val (.int vb), .val (.int ob), .val (.int vc), .val (.int oc), .val (.ref bb), .val (.ref ro), .unset] [(.ref ro)]))
  obtain ⟨cq10, kq10, q10a, q10b, q10c⟩ := isOf hZ rfl E_ro
  obtain ⟨_, _, ⟨T10, L10, k10, n10⟩, -, X10, ⟨Lc10, hQ10, l10, y10, z10⟩, st10⟩ := X9.virtualBack hx (y := (⟨"com/example/vestwright/vestwright/io/Records", "endRecord", "()V"⟩ : MethodName)) (z := (⟨"com/example/vestwright/vestwright/io/Records", "endRecord", "()V"⟩ : MethodName)) hown (mvT hZ (hw _ (List.mem_of_getElem? (i := 49) rfl))) (mvT hZ (hw _ (List.mem_of_getElem? (i := 50) rfl))) (notFace_of_selects (args := #[]) (mvT hZ (hw _ (List.mem_of_getElem? (i := 52) rfl)))) (mvT hZ (hw _ (List.mem_of_getElem? (i := 52) rfl))) (mvT hZ (hw _ (List.mem_of_getElem? (i := 51) rfl))) (by decide) (backOf (W := 0) (rm6 l Z a0 hw [] ro t3 bs be bf bn bx ((((0 : Int32) + va) + vb) + vc) (3 : Int32) (1 : Int32) 1 (up (up (up (fun _ => (0 : Int32)) 0 (0 : Int32)) 1 (2 : Int32)) 1 (2 : Int32)) T9.heap n0 Z9 F_text_ro F_starts_ro F_ends_ro F_firstFields_ro F_lines_ro F_faults_ro F_textUsed_ro F_fields_ro F_records_ro E_ro g_ro g_bf A_bf o3_ne_ro_bf rfl (by decide)) hZ (hw _ (List.mem_of_getElem? (i := 53) rfl)) (hw _ (List.mem_of_getElem? (i := 3) rfl)) (by decide) (by decide)) q10a q10c (g := (mkF m 121 #[.val (.int pa), .val (.int pb), .val (.int pc_), .val (.int pl), .val (.int ps), .val (.int va), .val (.int oa), .val (.int vb), .val (.int ob), .val (.int vc), .val (.int oc), .val (.ref bb), .val (.ref ro), .unset] [(.ref ro)])) rfl (by rw [hml]; rfl) (Steps.refl _) (argsL := []) (rest := []) (lenOf pd_0_0 rfl) rfl (by show 2 * 0 + _ ≤ _; exact Nat.le_of_eq rfl) (hb hby at_121) (fun _ _ => ⟨rfl, rfl, (by decide : 11 + 0 ≤ _), (by decide : 62155 + 0 ≤ _)⟩)
  dsimp only [Pt.U, Pt.locs, Pt.cells, Pt.slots] at X10 l10 y10 z10 st10 hQ10
  subst l10 y10 z10
  obtain ⟨rfl, N10q, K10q, o10_F_text_ro, o10_F_starts_ro, o10_F_ends_ro, o10_F_firstFields_ro, o10_F_lines_ro, o10_F_faults_ro, o10_F_textUsed_ro, o10_F_fields_ro, o10_F_records_ro, o10_A_bf⟩ := hQ10
  have N10 := Fr.app N9 N10q
  replace T_bb := T_bb.keep K10q (ninS ne_bb_ro (ninS ne_bb_bf nin0))
  replace E_ro := E_ro.keep K10q
  replace A_bn := A_bn.keep K10q (ninS (Ne.symm o3_ne_ro_bn) (ninS (Ne.symm o3_ne_bf_bn) nin0))
  replace T_t3 := T_t3.keep K10q (ninS (Ne.symm ne_ro_t3) (ninS (Ne.symm ne_bf_t3) nin0))
  replace A_bs := A_bs.keep K10q (ninS (Ne.symm o3_ne_ro_bs) (ninS o3_ne_bs_bf nin0))
  replace A_be := A_be.keep K10q (ninS (Ne.symm o3_ne_ro_be) (ninS o3_ne_be_bf nin0))
  have Z10 := Nat.le_trans Z9 K10q.1
  have F_text_ro := o10_F_text_ro
  have F_starts_ro := o10_F_starts_ro
  have F_ends_ro := o10_F_ends_ro
  have F_firstFields_ro := o10_F_firstFields_ro
  have F_lines_ro := o10_F_lines_ro
  have F_faults_ro := o10_F_faults_ro
  have F_textUsed_ro := o10_F_textUsed_ro
  have F_fields_ro := o10_F_fields_ro
  have F_records_ro := o10_F_records_ro
  have A_bf := o10_A_bf
  refine Go.step (fun t k => st10.trans k) ?_
  show Go _ _ _ _ _ _ _ (T10.setTop (mkF m 124 #[.val (.int pa), .val (.int pb), .val (.int pc_), .val (.int pl), .val (.int ps), .val (.int va), .val (.int oa), .val (.int vb), .val (.int ob), .val (.int vc), .val (.int oc), .val (.ref bb), .val (.ref ro), .unset] []))
  refine Go.step (fun t k => XS.iload X10.here hx rfl (hb hby at_124) rfl k) ?_
  show Go _ _ _ _ _ _ _ (T10.setTop (mkF m 126 #[.val (.int pa), .val (.int pb), .val (.int pc_), .val (.int pl), .val (.int ps), .val (.int va), .val (.int oa), .val (.int vb), .val (.int ob), .val (.int vc), .val (.int oc), .val (.ref bb), .val (.ref ro), .unset] [(.int ps)]))
  refine Go.step (fun t k => X10.ldcInt hx hown (mvT hZ (hw _ (List.mem_of_getElem? (i := 54) rfl))) (g := (mkF m 126 #[.val (.int pa), .val (.int pb), .val (.int pc_), .val (.int pl), .val (.int ps), .val (.int va), .val (.int oa), .val (.int vb), .val (.int ob), .val (.int vc), .val (.int oc), .val (.ref bb), .val (.ref ro), .unset] [(.int ps)])) rfl (hb hby at_126) _ k) ?_
  show Go _ _ _ _ _ _ _ (T10.setTop (mkF m 128 #[.val (.int pa), .val (.int pb), .val (.int pc_), .val (.int pl), .val (.int ps), .val (.int va), .val (.int oa), .val (.int vb), .val (.int ob), .val (.int vc), .val (.int oc), .val (.ref bb), .val (.ref ro), .unset] [(.int (2147483647 : Int32)), (.int ps)]))
  refine Go.step (fun t k => XS.iand X10.here hx rfl (hb hby at_128) rfl k) ?_
  show Go _ _ _ _ _ _ _ (T10.setTop (mkF m 129 #[.val (.int pa), .val (.int pb), .val (.int pc_), .val (.int pl), .val (.int ps), .val (.int va), .val (.int oa), .val (.int vb), .val (.int ob), .val (.int vc), .val (.int oc), .val (.ref bb), .val (.ref ro), .unset] [(.int (ps &&& (2147483647 : Int32)))]))
  refine Go.step (fun t k => XS.iconst X10.here hx rfl (hb hby at_129) k) ?_
  show Go _ _ _ _ _ _ _ (T10.setTop (mkF m 130 #[.val (.int pa), .val (.int pb), .val (.int pc_), .val (.int pl), .val (.int ps), .val (.int va), .val (.int oa), .val (.int vb), .val (.int ob), .val (.int vc), .val (.int oc), .val (.ref bb), .val (.ref ro), .unset] [(.int (3 : Int32)), (.int (ps &&& (2147483647 : Int32)))]))
  refine Go.step (fun t k => iremM X10 hx rfl (hb hby at_130) rfl (by decide) k) ?_
  show Go _ _ _ _ _ _ _ (T10.setTop (mkF m 131 #[.val (.int pa), .val (.int pb), .val (.int pc_), .val (.int pl), .val (.int ps), .val (.int va), .val (.int oa), .val (.int vb), .val (.int ob), .val (.int vc), .val (.int oc), .val (.ref bb), .val (.ref ro), .unset] [(.int ((ps &&& (2147483647 : Int32)) % (3 : Int32)))]))
  refine Go.step (fun t k => XS.istore X10.here hx rfl (hb hby at_131) rfl (l' := #[.val (.int pa), .val (.int pb), .val (.int pc_), .val (.int pl), .val (.int ps), .val (.int va), .val (.int oa), .val (.int vb), .val (.int ob), .val (.int vc), .val (.int oc), .val (.ref bb), .val (.ref ro), .val (.int ((ps &&& (2147483647 : Int32)) % (3 : Int32)))]) rfl k) ?_
  show Go _ _ _ _ _ _ _ (T10.setTop (mkF m 133 #[.val (.int pa), .val (.int pb), .val (.int pc_), .val (.int pl), .val (.int ps), .val (.int va), .val (.int oa), .val (.int vb), .val (.int ob), .val (.int vc), .val (.int oc), .val (.ref bb), .val (.ref ro), .val (.int ((ps &&& (2147483647 : Int32)) % (3 : Int32)))] []))
  refine Go.step (fun t k => XS.iload X10.here hx rfl (hb hby at_133) rfl k) ?_
  show Go _ _ _ _ _ _ _ (T10.setTop (mkF m 135 #[.val (.int pa), .val (.int pb), .val (.int pc_), .val (.int pl), .val (.int ps), .val (.int va), .val (.int oa), .val (.int vb), .val (.int ob), .val (.int vc), .val (.int oc), .val (.ref bb), .val (.ref ro), .val (.int ((ps &&& (2147483647 : Int32)) % (3 : Int32)))] [(.int ((ps &&& (2147483647 : Int32)) % (3 : Int32)))]))
  by_cases hc135_11 : ((ps &&& (2147483647 : Int32)) % (3 : Int32)) = (0 : Int32)
  · refine Go.step (fun t k => XS.ifNo X10.here hx rfl (hb hby at_135) rfl ((if0 _ _).trans (teq hc135_11).2) k) ?_
    show Go _ _ _ _ _ _ _ (T10.setTop (mkF m 138 #[.val (.int pa), .val (.int pb), .val (.int pc_), .val (.int pl), .val (.int ps), .val (.int va), .val (.int oa), .val (.int vb), .val (.int ob), .val (.int vc), .val (.int oc), .val (.ref bb), .val (.ref ro), .val (.int ((ps &&& (2147483647 : Int32)) % (3 : Int32)))] []))
    refine Go.step (fun t k => XS.aload X10.here hx rfl (hb hby at_138) rfl rfl k) ?_
    show Go _ _ _ _ _ _ _ (T10.setTop (mkF m 140 #[.val (.int pa), .val (.int pb), .val (.int pc_), .val (.int pl), .val (.int ps), .val (.int va), .val (.int oa), .val (.int vb), .val (.int ob), .val (.int vc), .val (.int oc), .val (.ref bb), .val (.ref ro), .val (.int ((ps &&& (2147483647 : Int32)) % (3 : Int32)))] [(.ref ro)]))
    refine Go.step (fun t k => XS.iconst X10.here hx rfl (hb hby at_140) k) ?_
    show Go _ _ _ _ _ _ _ (T10.setTop (mkF m 141 #[.val (.int pa), .val (.int pb), .val (.int pc_), .val (.int pl), .val (.int ps), .val (.int va), .val (.int oa), .val (.int vb), .val (.int ob), .val (.int vc), .val (.int oc), .val (.ref bb), .val (.ref ro), .val (.int ((ps &&& (2147483647 : Int32)) % (3 : Int32)))] [(.int (0 : Int32)), (.ref ro)]))
    refine Go.step (fun t k => XS.iconst X10.here hx rfl (hb hby at_141) k) ?_
    show Go _ _ _ _ _ _ _ (T10.setTop (mkF m 142 #[.val (.int pa), .val (.int pb), .val (.int pc_), .val (.int pl), .val (.int ps), .val (.int va), .val (.int oa), .val (.int vb), .val (.int ob), .val (.int vc), .val (.int oc), .val (.ref bb), .val (.ref ro), .val (.int ((ps &&& (2147483647 : Int32)) % (3 : Int32)))] [(.int (0 : Int32)), (.int (0 : Int32)), (.ref ro)]))
    obtain ⟨cq12, kq12, q12a, q12b, q12c⟩ := isOf hZ rfl E_ro
    obtain ⟨_, _, ⟨T12, L12, k12, n12⟩, -, X12, ⟨Lc12, hQ12, l12, y12, z12⟩, st12⟩ := X10.virtualBack hx (y := (⟨"com/example/vestwright/vestwright/io/Records", "end", "(II)I"⟩ : MethodName)) (z := (⟨"com/example/vestwright/vestwright/io/Records", "end", "(II)I"⟩ : MethodName)) hown (mvT hZ (hw _ (List.mem_of_getElem? (i := 55) rfl))) (mvT hZ (hw _ (List.mem_of_getElem? (i := 56) rfl))) (notFace_of_selects (args := #[]) (mvT hZ (hw _ (List.mem_of_getElem? (i := 58) rfl)))) (mvT hZ (hw _ (List.mem_of_getElem? (i := 58) rfl))) (mvT hZ (hw _ (List.mem_of_getElem? (i := 57) rfl))) (by decide) (backOf (W := 0) (rm7 l Z a0 hw [] ro (0 : Int32) (0 : Int32) be bf (up (up (up (fun _ => (0 : Int32)) 0 ((0 : Int32) + va)) 1 (((0 : Int32) + va) + vb)) 2 ((((0 : Int32) + va) + vb) + vc)) (up (up (up (up (fun _ => (0 : Int32)) 0 (0 : Int32)) 1 (2 : Int32)) 1 (2 : Int32)) 2 (3 : Int32)) 0 0 T10.heap n0 Z10 F_ends_ro F_firstFields_ro A_be A_bf rfl (by decide) (by decide) (by decide)) hZ (hw _ (List.mem_of_getElem? (i := 59) rfl)) (hw _ (List.mem_of_getElem? (i := 3) rfl)) (by decide) (by decide)) q12a q12c (g := (mkF m 142 #[.val (.int pa), .val (.int pb), .val (.int pc_), .val (.int pl), .val (.int ps), .val (.int va), .val (.int oa), .val (.int vb), .val (.int ob), .val (.int vc), .val (.int oc), .val (.ref bb), .val (.ref ro), .val (.int ((ps &&& (2147483647 : Int32)) % (3 : Int32)))] [(.int (0 : Int32)), (.int (0 : Int32)), (.ref ro)])) rfl (by rw [hml]; rfl) (Steps.refl _) (argsL := [(.int (0 : Int32)), (.int (0 : Int32))]) (rest := []) (lenOf pd_0_3 rfl) rfl (by show 2 * 0 + _ ≤ _; exact Nat.le_of_eq rfl) (hb hby at_142) (fun _ _ => ⟨rfl, rfl, (by decide : 11 + 0 ≤ _), (by decide : 62155 + 0 ≤ _)⟩)
    dsimp only [Pt.U, Pt.locs, Pt.cells, Pt.slots] at X12 l12 y12 z12 st12 hQ12
    subst l12 y12 z12
    obtain ⟨rfl, N12q, K12q⟩ := hQ12
    have N12 := Fr.app N10 N12q
    refine Go.step (fun t k => st12.trans k) ?_
    show Go _ _ _ _ _ _ _ (T12.setTop (mkF m 145 #[.val (.int pa), .val (.int pb), .val (.int pc_), .val (.int pl), .val (.int ps), .val (.int va), .val (.int oa), .val (.int vb), .val (.int ob), .val (.int vc), .val (.int oc), .val (.ref bb), .val (.ref ro), .val (.int ((ps &&& (2147483647 : Int32)) % (3 : Int32)))] [(.int ((0 : Int32) + va))]))
    refine Go.step (fun t k => XS.iload X12.here hx rfl (hb hby at_145) rfl k) ?_
    show Go _ _ _ _ _ _ _ (T12.setTop (mkF m 147 #[.val (.int pa), .val (.int pb), .val (.int pc_), .val (.int pl), .val (.int ps), .val (.int va), .val (.int oa), .val (.int vb), .val (.int ob), .val (.int vc), .val (.int oc), .val (.ref bb), .val (.ref ro), .val (.int ((ps &&& (2147483647 : Int32)) % (3 : Int32)))] [(.int va), (.int ((0 : Int32) + va))]))
    refine Go.step (fun t k => XS.icmpNo X12.here hx rfl (hb hby at_147) rfl (teq (Int32.zero_add _ : ((0 : Int32) + va) = va)).2 k) ?_
    show Go _ _ _ _ _ _ _ (T12.setTop (mkF m 150 #[.val (.int pa), .val (.int pb), .val (.int pc_), .val (.int pl), .val (.int ps), .val (.int va), .val (.int oa), .val (.int vb), .val (.int ob), .val (.int vc), .val (.int oc), .val (.ref bb), .val (.ref ro), .val (.int ((ps &&& (2147483647 : Int32)) % (3 : Int32)))] []))
    refine Go.step (fun t k => XS.iconst X12.here hx rfl (hb hby at_150) k) ?_
    show Go _ _ _ _ _ _ _ (T12.setTop (mkF m 151 #[.val (.int pa), .val (.int pb), .val (.int pc_), .val (.int pl), .val (.int ps), .val (.int va), .val (.int oa), .val (.int vb), .val (.int ob), .val (.int vc), .val (.int oc), .val (.ref bb), .val (.ref ro), .val (.int ((ps &&& (2147483647 : Int32)) % (3 : Int32)))] [(.int (1 : Int32))]))
    refine Go.step (fun t k => XS.goto X12.here hx rfl (pc0 := 151) (pc' := 155) rfl (hb hby at_151) (by decide) (by decide) k) ?_
    show Go _ _ _ _ _ _ _ (T12.setTop (mkF m 155 #[.val (.int pa), .val (.int pb), .val (.int pc_), .val (.int pl), .val (.int ps), .val (.int va), .val (.int oa), .val (.int vb), .val (.int ob), .val (.int vc), .val (.int oc), .val (.ref bb), .val (.ref ro), .val (.int ((ps &&& (2147483647 : Int32)) % (3 : Int32)))] [(.int (1 : Int32))]))
    refine Go.retN X12 Bd.notSynchronized hx (t := .boolean) Bd.returns (by simp) (hb hby at_155) (by decide) (by decide) (1 : Int32) rfl ?_
    rw [K12q]
    exact ⟨rfl, N12⟩
  · refine Go.step (fun t k => XS.ifYes X10.here hx rfl (pc0 := 135) (pc' := 156) rfl (hb hby at_135) rfl ((if0 _ _).trans (feq hc135_11).2) (by decide) (by decide) k) ?_
    show Go _ _ _ _ _ _ _ (T10.setTop (mkF m 156 #[.val (.int pa), .val (.int pb), .val (.int pc_), .val (.int pl), .val (.int ps), .val (.int va), .val (.int oa), .val (.int vb), .val (.int ob), .val (.int vc), .val (.int oc), .val (.ref bb), .val (.ref ro), .val (.int ((ps &&& (2147483647 : Int32)) % (3 : Int32)))] []))
    refine Go.step (fun t k => XS.iload X10.here hx rfl (hb hby at_156) rfl k) ?_
    show Go _ _ _ _ _ _ _ (T10.setTop (mkF m 158 #[.val (.int pa), .val (.int pb), .val (.int pc_), .val (.int pl), .val (.int ps), .val (.int va), .val (.int oa), .val (.int vb), .val (.int ob), .val (.int vc), .val (.int oc), .val (.ref bb), .val (.ref ro), .val (.int ((ps &&& (2147483647 : Int32)) % (3 : Int32)))] [(.int ((ps &&& (2147483647 : Int32)) % (3 : Int32)))]))
    refine Go.step (fun t k => XS.iconst X10.here hx rfl (hb hby at_158) k) ?_
    show Go _ _ _ _ _ _ _ (T10.setTop (mkF m 159 #[.val (.int pa), .val (.int pb), .val (.int pc_), .val (.int pl), .val (.int ps), .val (.int va), .val (.int oa), .val (.int vb), .val (.int ob), .val (.int vc), .val (.int oc), .val (.ref bb), .val (.ref ro), .val (.int ((ps &&& (2147483647 : Int32)) % (3 : Int32)))] [(.int (1 : Int32)), (.int ((ps &&& (2147483647 : Int32)) % (3 : Int32)))]))
    by_cases hc159_13 : ((ps &&& (2147483647 : Int32)) % (3 : Int32)) = (1 : Int32)
    · refine Go.step (fun t k => XS.icmpNo X10.here hx rfl (hb hby at_159) rfl (teq hc159_13).2 k) ?_
      show Go _ _ _ _ _ _ _ (T10.setTop (mkF m 162 #[.val (.int pa), .val (.int pb), .val (.int pc_), .val (.int pl), .val (.int ps), .val (.int va), .val (.int oa), .val (.int vb), .val (.int ob), .val (.int vc), .val (.int oc), .val (.ref bb), .val (.ref ro), .val (.int ((ps &&& (2147483647 : Int32)) % (3 : Int32)))] []))
      refine Go.step (fun t k => XS.aload X10.here hx rfl (hb hby at_162) rfl rfl k) ?_
      show Go _ _ _ _ _ _ _ (T10.setTop (mkF m 164 #[.val (.int pa), .val (.int pb), .val (.int pc_), .val (.int pl), .val (.int ps), .val (.int va), .val (.int oa), .val (.int vb), .val (.int ob), .val (.int vc), .val (.int oc), .val (.ref bb), .val (.ref ro), .val (.int ((ps &&& (2147483647 : Int32)) % (3 : Int32)))] [(.ref ro)]))
      refine Go.step (fun t k => XS.iconst X10.here hx rfl (hb hby at_164) k) ?_
      show Go _ _ _ _ _ _ _ (T10.setTop (mkF m 165 #[.val (.int pa), .val (.int pb), .val (.int pc_), .val (.int pl), .val (.int ps), .val (.int va), .val (.int oa), .val (.int vb), .val (.int ob), .val (.int vc), .val (.int oc), .val (.ref bb), .val (.ref ro), .val (.int ((ps &&& (2147483647 : Int32)) % (3 : Int32)))] [(.int (0 : Int32)), (.ref ro)]))
      refine Go.step (fun t k => XS.iconst X10.here hx rfl (hb hby at_165) k) ?_
      show Go _ _ _ _ _ _ _ (T10.setTop (mkF m 166 #[.val (.int pa), .val (.int pb), .val (.int pc_), .val (.int pl), .val (.int ps), .val (.int va), .val (.int oa), .val (.int vb), .val (.int ob), .val (.int vc), .val (.int oc), .val (.ref bb), .val (.ref ro), .val (.int ((ps &&& (2147483647 : Int32)) % (3 : Int32)))] [(.int (1 : Int32)), (.int (0 : Int32)), (.ref ro)]))
      obtain ⟨cq14, kq14, q14a, q14b, q14c⟩ := isOf hZ rfl E_ro
      obtain ⟨_, _, ⟨T14, L14, k14, n14⟩, -, X14, ⟨Lc14, hQ14, l14, y14, z14⟩, st14⟩ := X10.virtualBack hx (y := (⟨"com/example/vestwright/vestwright/io/Records", "end", "(II)I"⟩ : MethodName)) (z := (⟨"com/example/vestwright/vestwright/io/Records", "end", "(II)I"⟩ : MethodName)) hown (mvT hZ (hw _ (List.mem_of_getElem? (i := 55) rfl))) (mvT hZ (hw _ (List.mem_of_getElem? (i := 56) rfl))) (notFace_of_selects (args := #[]) (mvT hZ (hw _ (List.mem_of_getElem? (i := 58) rfl)))) (mvT hZ (hw _ (List.mem_of_getElem? (i := 58) rfl))) (mvT hZ (hw _ (List.mem_of_getElem? (i := 57) rfl))) (by decide) (backOf (W := 0) (rm7 l Z a0 hw [] ro (0 : Int32) (1 : Int32) be bf (up (up (up (fun _ => (0 : Int32)) 0 ((0 : Int32) + va)) 1 (((0 : Int32) + va) + vb)) 2 ((((0 : Int32) + va) + vb) + vc)) (up (up (up (up (fun _ => (0 : Int32)) 0 (0 : Int32)) 1 (2 : Int32)) 1 (2 : Int32)) 2 (3 : Int32)) 0 1 T10.heap n0 Z10 F_ends_ro F_firstFields_ro A_be A_bf rfl (by decide) (by decide) (by decide)) hZ (hw _ (List.mem_of_getElem? (i := 59) rfl)) (hw _ (List.mem_of_getElem? (i := 3) rfl)) (by decide) (by decide)) q14a q14c (g := (mkF m 166 #[.val (.int pa), .val (.int pb), .val (.int pc_), .val (.int pl), .val (.int ps), .val (.int va), .val (.int oa), .val (.int vb), .val (.int ob), .val (.int vc), .val (.int oc), .val (.ref bb), .val (.ref ro), .val (.int ((ps &&& (2147483647 : Int32)) % (3 : Int32)))] [(.int (1 : Int32)), (.int (0 : Int32)), (.ref ro)])) rfl (by rw [hml]; rfl) (Steps.refl _) (argsL := [(.int (0 : Int32)), (.int (1 : Int32))]) (rest := []) (lenOf pd_0_3 rfl) rfl (by show 2 * 0 + _ ≤ _; exact Nat.le_of_eq rfl) (hb hby at_166) (fun _ _ => ⟨rfl, rfl, (by decide : 11 + 0 ≤ _), (by decide : 62155 + 0 ≤ _)⟩)
      dsimp only [Pt.U, Pt.locs, Pt.cells, Pt.slots] at X14 l14 y14 z14 st14 hQ14
      subst l14 y14 z14
      obtain ⟨rfl, N14q, K14q⟩ := hQ14
      have N14 := Fr.app N10 N14q
      refine Go.step (fun t k => st14.trans k) ?_
      show Go _ _ _ _ _ _ _ (T14.setTop (mkF m 169 #[.val (.int pa), .val (.int pb), .val (.int pc_), .val (.int pl), .val (.int ps), .val (.int va), .val (.int oa), .val (.int vb), .val (.int ob), .val (.int vc), .val (.int oc), .val (.ref bb), .val (.ref ro), .val (.int ((ps &&& (2147483647 : Int32)) % (3 : Int32)))] [(.int (((0 : Int32) + va) + vb))]))
      refine Go.step (fun t k => XS.iload X14.here hx rfl (hb hby at_169) rfl k) ?_
      show Go _ _ _ _ _ _ _ (T14.setTop (mkF m 171 #[.val (.int pa), .val (.int pb), .val (.int pc_), .val (.int pl), .val (.int ps), .val (.int va), .val (.int oa), .val (.int vb), .val (.int ob), .val (.int vc), .val (.int oc), .val (.ref bb), .val (.ref ro), .val (.int ((ps &&& (2147483647 : Int32)) % (3 : Int32)))] [(.int va), (.int (((0 : Int32) + va) + vb))]))
      refine Go.step (fun t k => XS.iload X14.here hx rfl (hb hby at_171) rfl k) ?_
      show Go _ _ _ _ _ _ _ (T14.setTop (mkF m 173 #[.val (.int pa), .val (.int pb), .val (.int pc_), .val (.int pl), .val (.int ps), .val (.int va), .val (.int oa), .val (.int vb), .val (.int ob), .val (.int vc), .val (.int oc), .val (.ref bb), .val (.ref ro), .val (.int ((ps &&& (2147483647 : Int32)) % (3 : Int32)))] [(.int vb), (.int va), (.int (((0 : Int32) + va) + vb))]))
      refine Go.step (fun t k => XS.iadd X14.here hx rfl (hb hby at_173) rfl k) ?_
      show Go _ _ _ _ _ _ _ (T14.setTop (mkF m 174 #[.val (.int pa), .val (.int pb), .val (.int pc_), .val (.int pl), .val (.int ps), .val (.int va), .val (.int oa), .val (.int vb), .val (.int ob), .val (.int vc), .val (.int oc), .val (.ref bb), .val (.ref ro), .val (.int ((ps &&& (2147483647 : Int32)) % (3 : Int32)))] [(.int (va + vb)), (.int (((0 : Int32) + va) + vb))]))
      refine Go.step (fun t k => XS.icmpNo X14.here hx rfl (hb hby at_174) rfl (teq ((by rw [Int32.zero_add]) : (((0 : Int32) + va) + vb) = (va + vb))).2 k) ?_
      show Go _ _ _ _ _ _ _ (T14.setTop (mkF m 177 #[.val (.int pa), .val (.int pb), .val (.int pc_), .val (.int pl), .val (.int ps), .val (.int va), .val (.int oa), .val (.int vb), .val (.int ob), .val (.int vc), .val (.int oc), .val (.ref bb), .val (.ref ro), .val (.int ((ps &&& (2147483647 : Int32)) % (3 : Int32)))] []))
      refine Go.step (fun t k => XS.iconst X14.here hx rfl (hb hby at_177) k) ?_
      show Go _ _ _ _ _ _ _ (T14.setTop (mkF m 178 #[.val (.int pa), .val (.int pb), .val (.int pc_), .val (.int pl), .val (.int ps), .val (.int va), .val (.int oa), .val (.int vb), .val (.int ob), .val (.int vc), .val (.int oc), .val (.ref bb), .val (.ref ro), .val (.int ((ps &&& (2147483647 : Int32)) % (3 : Int32)))] [(.int (1 : Int32))]))
      refine Go.step (fun t k => XS.goto X14.here hx rfl (pc0 := 178) (pc' := 182) rfl (hb hby at_178) (by decide) (by decide) k) ?_
      show Go _ _ _ _ _ _ _ (T14.setTop (mkF m 182 #[.val (.int pa), .val (.int pb), .val (.int pc_), .val (.int pl), .val (.int ps), .val (.int va), .val (.int oa), .val (.int vb), .val (.int ob), .val (.int vc), .val (.int oc), .val (.ref bb), .val (.ref ro), .val (.int ((ps &&& (2147483647 : Int32)) % (3 : Int32)))] [(.int (1 : Int32))]))
      refine Go.retN X14 Bd.notSynchronized hx (t := .boolean) Bd.returns (by simp) (hb hby at_182) (by decide) (by decide) (1 : Int32) rfl ?_
      rw [K14q]
      exact ⟨rfl, N14⟩
    · refine Go.step (fun t k => XS.icmpYes X10.here hx rfl (pc0 := 159) (pc' := 183) rfl (hb hby at_159) rfl (feq hc159_13).2 (by decide) (by decide) k) ?_
      show Go _ _ _ _ _ _ _ (T10.setTop (mkF m 183 #[.val (.int pa), .val (.int pb), .val (.int pc_), .val (.int pl), .val (.int ps), .val (.int va), .val (.int oa), .val (.int vb), .val (.int ob), .val (.int vc), .val (.int oc), .val (.ref bb), .val (.ref ro), .val (.int ((ps &&& (2147483647 : Int32)) % (3 : Int32)))] []))
      refine Go.step (fun t k => XS.aload X10.here hx rfl (hb hby at_183) rfl rfl k) ?_
      show Go _ _ _ _ _ _ _ (T10.setTop (mkF m 185 #[.val (.int pa), .val (.int pb), .val (.int pc_), .val (.int pl), .val (.int ps), .val (.int va), .val (.int oa), .val (.int vb), .val (.int ob), .val (.int vc), .val (.int oc), .val (.ref bb), .val (.ref ro), .val (.int ((ps &&& (2147483647 : Int32)) % (3 : Int32)))] [(.ref ro)]))
      refine Go.step (fun t k => XS.iconst X10.here hx rfl (hb hby at_185) k) ?_
      show Go _ _ _ _ _ _ _ (T10.setTop (mkF m 186 #[.val (.int pa), .val (.int pb), .val (.int pc_), .val (.int pl), .val (.int ps), .val (.int va), .val (.int oa), .val (.int vb), .val (.int ob), .val (.int vc), .val (.int oc), .val (.ref bb), .val (.ref ro), .val (.int ((ps &&& (2147483647 : Int32)) % (3 : Int32)))] [(.int (1 : Int32)), (.ref ro)]))
      refine Go.step (fun t k => XS.iconst X10.here hx rfl (hb hby at_186) k) ?_
      show Go _ _ _ _ _ _ _ (T10.setTop (mkF m 187 #[.val (.int pa), .val (.int pb), .val (.int pc_), .val (.int pl), .val (.int ps), .val (.int va), .val (.int oa), .val (.int vb), .val (.int ob), .val (.int vc), .val (.int oc), .val (.ref bb), .val (.ref ro), .val (.int ((ps &&& (2147483647 : Int32)) % (3 : Int32)))] [(.int (0 : Int32)), (.int (1 : Int32)), (.ref ro)]))
      obtain ⟨cq15, kq15, q15a, q15b, q15c⟩ := isOf hZ rfl E_ro
      obtain ⟨_, _, ⟨T15, L15, k15, n15⟩, -, X15, ⟨Lc15, hQ15, l15, y15, z15⟩, st15⟩ := X10.virtualBack hx (y := (⟨"com/example/vestwright/vestwright/io/Records", "end", "(II)I"⟩ : MethodName)) (z := (⟨"com/example/vestwright/vestwright/io/Records", "end", "(II)I"⟩ : MethodName)) hown (mvT hZ (hw _ (List.mem_of_getElem? (i := 55) rfl))) (mvT hZ (hw _ (List.mem_of_getElem? (i := 56) rfl))) (notFace_of_selects (args := #[]) (mvT hZ (hw _ (List.mem_of_getElem? (i := 58) rfl)))) (mvT hZ (hw _ (List.mem_of_getElem? (i := 58) rfl))) (mvT hZ (hw _ (List.mem_of_getElem? (i := 57) rfl))) (by decide) (backOf (W := 0) (rm7 l Z a0 hw [] ro (1 : Int32) (0 : Int32) be bf (up (up (up (fun _ => (0 : Int32)) 0 ((0 : Int32) + va)) 1 (((0 : Int32) + va) + vb)) 2 ((((0 : Int32) + va) + vb) + vc)) (up (up (up (up (fun _ => (0 : Int32)) 0 (0 : Int32)) 1 (2 : Int32)) 1 (2 : Int32)) 2 (3 : Int32)) 1 2 T10.heap n0 Z10 F_ends_ro F_firstFields_ro A_be A_bf rfl (by decide) (by decide) (by decide)) hZ (hw _ (List.mem_of_getElem? (i := 59) rfl)) (hw _ (List.mem_of_getElem? (i := 3) rfl)) (by decide) (by decide)) q15a q15c (g := (mkF m 187 #[.val (.int pa), .val (.int pb), .val (.int pc_), .val (.int pl), .val (.int ps), .val (.int va), .val (.int oa), .val (.int vb), .val (.int ob), .val (.int vc), .val (.int oc), .val (.ref bb), .val (.ref ro), .val (.int ((ps &&& (2147483647 : Int32)) % (3 : Int32)))] [(.int (0 : Int32)), (.int (1 : Int32)), (.ref ro)])) rfl (by rw [hml]; rfl) (Steps.refl _) (argsL := [(.int (1 : Int32)), (.int (0 : Int32))]) (rest := []) (lenOf pd_0_3 rfl) rfl (by show 2 * 0 + _ ≤ _; exact Nat.le_of_eq rfl) (hb hby at_187) (fun _ _ => ⟨rfl, rfl, (by decide : 11 + 0 ≤ _), (by decide : 62155 + 0 ≤ _)⟩)
      dsimp only [Pt.U, Pt.locs, Pt.cells, Pt.slots] at X15 l15 y15 z15 st15 hQ15
      subst l15 y15 z15
      obtain ⟨rfl, N15q, K15q⟩ := hQ15
      have N15 := Fr.app N10 N15q
      refine Go.step (fun t k => st15.trans k) ?_
      show Go _ _ _ _ _ _ _ (T15.setTop (mkF m 190 #[.val (.int pa), .val (.int pb), .val (.int pc_), .val (.int pl), .val (.int ps), .val (.int va), .val (.int oa), .val (.int vb), .val (.int ob), .val (.int vc), .val (.int oc), .val (.ref bb), .val (.ref ro), .val (.int ((ps &&& (2147483647 : Int32)) % (3 : Int32)))] [(.int ((((0 : Int32) + va) + vb) + vc))]))
      refine Go.step (fun t k => XS.iload X15.here hx rfl (hb hby at_190) rfl k) ?_
      show Go _ _ _ _ _ _ _ (T15.setTop (mkF m 192 #[.val (.int pa), .val (.int pb), .val (.int pc_), .val (.int pl), .val (.int ps), .val (.int va), .val (.int oa), .val (.int vb), .val (.int ob), .val (.int vc), .val (.int oc), .val (.ref bb), .val (.ref ro), .val (.int ((ps &&& (2147483647 : Int32)) % (3 : Int32)))] [(.int va), (.int ((((0 : Int32) + va) + vb) + vc))]))
      refine Go.step (fun t k => XS.iload X15.here hx rfl (hb hby at_192) rfl k) ?_
      show Go _ _ _ _ _ _ _ (T15.setTop (mkF m 194 #[.val (.int pa), .val (.int pb), .val (.int pc_), .val (.int pl), .val (.int ps), .val (.int va), .val (.int oa), .val (.int vb), .val (.int ob), .val (.int vc), .val (.int oc), .val (.ref bb), .val (.ref ro), .val (.int ((ps &&& (2147483647 : Int32)) % (3 : Int32)))] [(.int vb), (.int va), (.int ((((0 : Int32) + va) + vb) + vc))]))
      refine Go.step (fun t k => XS.iadd X15.here hx rfl (hb hby at_194) rfl k) ?_
      show Go _ _ _ _ _ _ _ (T15.setTop (mkF m 195 #[.val (.int pa), .val (.int pb), .val (.int pc_), .val (.int pl), .val (.int ps), .val (.int va), .val (.int oa), .val (.int vb), .val (.int ob), .val (.int vc), .val (.int oc), .val (.ref bb), .val (.ref ro), .val (.int ((ps &&& (2147483647 : Int32)) % (3 : Int32)))] [(.int (va + vb)), (.int ((((0 : Int32) + va) + vb) + vc))]))
      refine Go.step (fun t k => XS.iload X15.here hx rfl (hb hby at_195) rfl k) ?_
      show Go _ _ _ _ _ _ _ (T15.setTop (mkF m 197 #[.val (.int pa), .val (.int pb), .val (.int pc_), .val (.int pl), .val (.int ps), .val (.int va), .val (.int oa), .val (.int vb), .val (.int ob), .val (.int vc), .val (.int oc), .val (.ref bb), .val (.ref ro), .val (.int ((ps &&& (2147483647 : Int32)) % (3 : Int32)))] [(.int vc), (.int (va + vb)), (.int ((((0 : Int32) + va) + vb) + vc))]))
      refine Go.step (fun t k => XS.iadd X15.here hx rfl (hb hby at_197) rfl k) ?_
      show Go _ _ _ _ _ _ _ (T15.setTop (mkF m 198 #[.val (.int pa), .val (.int pb), .val (.int pc_), .val (.int pl), .val (.int ps), .val (.int va), .val (.int oa), .val (.int vb), .val (.int ob), .val (.int vc), .val (.int oc), .val (.ref bb), .val (.ref ro), .val (.int ((ps &&& (2147483647 : Int32)) % (3 : Int32)))] [(.int ((va + vb) + vc)), (.int ((((0 : Int32) + va) + vb) + vc))]))
      refine Go.step (fun t k => XS.icmpNo X15.here hx rfl (hb hby at_198) rfl (teq ((by rw [Int32.zero_add]) : ((((0 : Int32) + va) + vb) + vc) = ((va + vb) + vc))).2 k) ?_
      show Go _ _ _ _ _ _ _ (T15.setTop (mkF m 201 #[.val (.int pa), .val (.int pb), .val (.int pc_), .val (.int pl), .val (.int ps), .val (.int va), .val (.int oa), .val (.int vb), .val (.int ob), .val (.int vc), .val (.int oc), .val (.ref bb), .val (.ref ro), .val (.int ((ps &&& (2147483647 : Int32)) % (3 : Int32)))] []))
      refine Go.step (fun t k => XS.iconst X15.here hx rfl (hb hby at_201) k) ?_
      show Go _ _ _ _ _ _ _ (T15.setTop (mkF m 202 #[.val (.int pa), .val (.int pb), .val (.int pc_), .val (.int pl), .val (.int ps), .val (.int va), .val (.int oa), .val (.int vb), .val (.int ob), .val (.int vc), .val (.int oc), .val (.ref bb), .val (.ref ro), .val (.int ((ps &&& (2147483647 : Int32)) % (3 : Int32)))] [(.int (1 : Int32))]))
      refine Go.step (fun t k => XS.goto X15.here hx rfl (pc0 := 202) (pc' := 206) rfl (hb hby at_202) (by decide) (by decide) k) ?_
      show Go _ _ _ _ _ _ _ (T15.setTop (mkF m 206 #[.val (.int pa), .val (.int pb), .val (.int pc_), .val (.int pl), .val (.int ps), .val (.int va), .val (.int oa), .val (.int vb), .val (.int ob), .val (.int vc), .val (.int oc), .val (.ref bb), .val (.ref ro), .val (.int ((ps &&& (2147483647 : Int32)) % (3 : Int32)))] [(.int (1 : Int32))]))
      refine Go.retN X15 Bd.notSynchronized hx (t := .boolean) Bd.returns (by simp) (hb hby at_206) (by decide) (by decide) (1 : Int32) rfl ?_
      rw [K15q]
      exact ⟨rfl, N15⟩
set_option maxRecDepth 65536 in
set_option maxHeartbeats 40000000 in
theorem comes_1 {Post : Tables → Env → Array Value → State → Outcome → State → Prop} (hpost : ∀ tb e args s v u, (limb_1_1.after args s (.returned v) u = true ∧ limb_1_2.after args s (.returned v) u = true ∧ True) → FrameEnd s (.returned v) u (Jvm.fieldLocs frame_1_writes args s ++ Jvm.arrayLocs frame_1_arrays args s ++ Jvm.staticLocs frame_1_statics s) 32 75264 → Post tb e args s (.returned v) u) :
    ArmFor flags0 classFile x code maxLocals ret World_1 tables_1 room_1 Calls_1 rest_1 Pre_1 Post := by
  intro l hfl _ _ p e ha hc hk s m args below hf hA hF happ hP
  obtain ⟨hcalls, hrest, hpre⟩ := hP
  obtain ⟨-, -, -, hnamed, -, -, -, hat⟩ := (Spec.applies_iff hf).mp happ
  obtain ⟨hg, hn⟩ := and_e (Cond.before_iff.mp (show (Jvm.Cond.and given_1 narrow_1).before args s = true from hpre))
  obtain ⟨gv1, gv2⟩ := and_e hg
  obtain ⟨gv3, gv4⟩ := and_e gv2
  obtain ⟨gv5, gv6⟩ := and_e gv4
  obtain ⟨gv7, gv8⟩ := and_e gv6
  obtain ⟨gv9, gv10⟩ := and_e gv8
  obtain ⟨w0, w1, w2, w3, w4, rfl⟩ : ∃ w0 w1 w2 w3 w4 : Value, args = #[w0, w1, w2, w3, w4] := by
    have hs : args.size = 5 := by simpa [Cond.value, given_1] using gv1
    obtain ⟨L⟩ := args
    match L, hs with
    | [w0, w1, w2, w3, w4], _ => exact ⟨w0, w1, w2, w3, w4, rfl⟩
  have hw := fun d (hd : d ∈ tables_1) => atoms_spec (ws := Jvm.Cond.code x code maxLocals ret :: tables_1) hat d (List.mem_cons_of_mem _ hd)
  have hfit : Fit s := fun {y c} hc i hi => by
    obtain ⟨ha, rfl⟩ := Array.getElem?_eq_some_iff.mp hc
    have q := List.all_eq_true.mp ((Array.all_eq_true_iff_forall_mem.mp hF) _ (Array.getElem_mem ha)) i (List.mem_range.mpr hi)
    simpa [Array.getElem?_eq_getElem hi] using q
  obtain ⟨i0, ei0⟩ := is_v gv3
  obtain rfl : w0 = (.int i0) := Option.some.inj ei0
  obtain ⟨i1, ei1⟩ := is_v gv5
  obtain rfl : w1 = (.int i1) := Option.some.inj ei1
  obtain ⟨i2, ei2⟩ := is_v gv7
  obtain rfl : w2 = (.int i2) := Option.some.inj ei2
  obtain ⟨i3, ei3⟩ := is_v gv9
  obtain rfl : w3 = (.int i3) := Option.some.inj ei3
  obtain ⟨i4, ei4⟩ := is_v gv10
  obtain rfl : w4 = (.int i4) := Option.some.inj ei4
  obtain ⟨n, o, h1, h2, h3, _, L, rfl, ⟨rfl, N⟩, hq⟩ := rm0 l s _ hw tables_1 i0 i1 i2 i3 i4 s.heap s.heap.size (Nat.le_refl _) p e ha hc hk s m _ below hf ((Spec.applies_iff_loose hf).mp happ).1 ⟨rfl, State.Warmed39.refl s, rfl⟩ trivial
  refine ⟨n, _, h1, h2, h3, hpost _ _ _ _ _ _ ⟨Cond.after_iff.mpr rfl, Cond.after_iff.mpr (eq_i res_at (Term.int_eval (1)) rfl), trivial⟩ ⟨hq.1, hq.2.1, (hq.2.2.sift fun y hy => Or.inr (N y hy)).mono (by decide) (by decide)⟩⟩
theorem main_1_1 : Claimed_1_1 := comes_1 fun _ _ _ _ _ _ h hF => ⟨h.1, hF⟩
theorem main_1_2 : Claimed_1_2 := comes_1 fun _ _ _ _ _ _ h hF => ⟨h.2.1, hF⟩
end Jvm.Pilot.@@N@@
namespace Jvm.Pilot.@@N@@
open Jvm Jvm.ClassFile Sem Op Lib Jvm.Free Jvm.Stand Jvm.Pilot.@@N@@.Jvm.D
/-! MADE BY PROGRAM (witnessworld.py) out of the Statement's table words and the real class files: 19 classes; the members and pool entries that the words name. The judged class is class 1, her method 1. -/
namespace start1
open Jvm.ClassFile
def u (s : String) : CpInfo := .utf8 (stringToUtf16 s)
/-- a pool by its gaps: so many unusable entries, then the entry; so many at the end -/
def gap : Nat → List CpInfo → List CpInfo
  | 0, r => r
  | n + 1, r => .unusable :: gap n r
def poolList (es : List (Nat × CpInfo)) (last : Nat) : List CpInfo := es.foldr (fun e r => gap e.1 (e.2 :: r)) (gap last [])
def pool (es : List (Nat × CpInfo)) (last : Nat) : Array CpInfo := ⟨poolList es last⟩
def fileOf (pool : Array CpInfo) (this : Nat) (attrs : Array Attribute := #[]) (ms : Array MethodInfo := #[]) (fl : Nat := 33) (sup : Nat := 0) (ifs : Array Nat := #[]) (fds : Array FieldInfo := #[]) : ClassFile where
  minorVersion := 0
  majorVersion := 65
  constantPool := pool
  accessFlags := fl
  thisClass := this
  superClass := sup
  interfaces := ifs
  fields := fds
  methods := ms
  attributes := attrs
def plain (name : String) (sup : Option ClassId) : Class where
  name := name
  kind := .ordinary
  loader := none
  accessFlags := 33
  super := sup
  interfaces := #[]
  cf := none
  fields := #[]
  methods := #[]
  instanceTypes := #[]
  staticTypes := #[]
  resolved := #[]
  callSites := []
  init := .initialized
  statics := none
  mirror := none

def pool0 : Array CpInfo := pool [(5, u "<init>"), (0, u "()V"), (1, .class_ 10), (1, u "java/lang/Object")] 113

def k0c0 : Code := { maxStack := 0, maxLocals := 1, code := object_method_1_code, exceptionTable := #[], attributes := #[] }
def k0m0 : Method := { name := "<init>", desc := "()V", sig := { parameters := [], returnType := none }, accessFlags := 1, code := some k0c0 }
/-- java/lang/Object -/
def k0 : Class := { plain "java/lang/Object" none with
  accessFlags := 33
  interfaces := #[]
  cf := some (fileOf pool0 8 #[] #[{ accessFlags := 1, nameIndex := 5, descriptorIndex := 6, attributes := #[] }] 33 0 #[] #[])
  fields := #[]
  methods := #[k0m0]
  instanceTypes := #[]
  staticTypes := #[]
  resolved := Array.replicate 124 none
  statics := none }

def pool1 : Array CpInfo := pool [(2, .class_ 4), (0, .nameAndType 5 6), (0, u "java/lang/Object"), (0, u "<init>"), (0, u "()V"), (0, .class_ 8), (0, u "com/example/vestwright/vestwright/io/Records"), (0, .methodref 7 3), (0, .methodref 7 11), (0, .nameAndType 12 13), (0, u "startRecord"), (0, u "(I)V"), (0, .methodref 7 15), (0, .nameAndType 16 17), (0, u "addField"), (0, u "([CII)V"), (0, .methodref 7 19), (0, .nameAndType 20 6), (0, u "endRecord"), (0, .integer 2147483647), (0, .methodref 7 23), (0, .nameAndType 24 25), (0, u "end"), (0, u "(II)I"), (0, .class_ 27), (0, u "com/example/vestwright/vestwright/io/RecordsEndPinLaw"), (2, u "law"), (0, u "(IIIII)Z")] 5

def k1m0 : Method := { name := "<init>", desc := "()V", sig := { parameters := [], returnType := none }, accessFlags := 1, code := none }
def k1c1 : Code := { maxStack := 4, maxLocals := 14, code := code, exceptionTable := #[], attributes := #[] }
def k1m1 : Method := { name := "law", desc := "(IIIII)Z", sig := { parameters := [.int, .int, .int, .int, .int], returnType := some .boolean }, accessFlags := 9, code := some k1c1 }
/-- com/example/vestwright/vestwright/io/RecordsEndPinLaw -/
def k1 : Class := { plain "com/example/vestwright/vestwright/io/RecordsEndPinLaw" (some 0) with
  accessFlags := 49
  interfaces := #[]
  cf := some (fileOf pool1 26 #[] #[{ accessFlags := 1, nameIndex := 5, descriptorIndex := 6, attributes := #[] }, { accessFlags := 9, nameIndex := 30, descriptorIndex := 31, attributes := #[] }] 49 2 #[] #[])
  fields := #[]
  methods := #[k1m0, k1m1]
  instanceTypes := #[]
  staticTypes := #[]
  resolved := Array.replicate 37 none
  statics := none }

def pool2 : Array CpInfo := pool [(1, .methodref 2 3), (0, .class_ 4), (0, .nameAndType 5 6), (0, u "java/lang/Object"), (0, u "<init>"), (0, u "()V"), (0, .fieldref 8 9), (0, .class_ 10), (0, .nameAndType 11 12), (0, u "com/example/vestwright/vestwright/io/Records"), (0, u "text"), (0, u "[C"), (0, .fieldref 8 14), (0, .nameAndType 15 16), (0, u "starts"), (0, u "[I"), (0, .fieldref 8 18), (0, .nameAndType 19 16), (0, u "ends"), (0, .fieldref 8 21), (0, .nameAndType 22 16), (0, u "firstFields"), (0, .fieldref 8 24), (0, .nameAndType 25 16), (0, u "lines"), (0, .class_ 27), (0, u "com/example/vestwright/vestwright/io/CsvFormatException"), (0, .fieldref 8 29), (0, .nameAndType 30 31), (0, u "faults"), (0, u "[Lcom/example/vestwright/vestwright/io/CsvFormatException;"), (0, .fieldref 8 33), (0, .nameAndType 34 35), (0, u "textUsed"), (0, u "I"), (0, .fieldref 8 37), (0, .nameAndType 38 35), (0, u "fields"), (0, .fieldref 8 40), (0, .nameAndType 41 35), (0, u "records"), (2, u "failure"), (0, u "Ljava/lang/Throwable;"), (2, u "ended"), (0, u "Z"), (1, .class_ 53), (1, u "java/util/Arrays"), (4, u "copyOf"), (11, u "endRecord"), (0, .methodref 8 72), (0, .nameAndType 73 74), (0, u "reserve"), (0, u "(I)I"), (0, .methodref 76 77), (0, .class_ 78), (0, .nameAndType 79 80), (0, u "java/lang/System"), (0, u "arraycopy"), (0, u "(Ljava/lang/Object;ILjava/lang/Object;II)V"), (9, .methodref 91 92), (0, .class_ 93), (0, .nameAndType 94 95), (0, u "java/lang/Math"), (0, u "max"), (0, u "(II)I"), (0, .methodref 51 97), (0, .nameAndType 58 98), (0, u "([CI)[C"), (7, u "end"), (2, u "([CII)V"), (0, .class_ 111), (0, u "com/example/vestwright/vestwright/io/Records$Span"), (6, u "startRecord"), (0, u "(I)V"), (6, u "addField")] 18

def k2c0 : Code := { maxStack := 2, maxLocals := 1, code := prog_63_method_1_code, exceptionTable := #[], attributes := #[] }
def k2m0 : Method := { name := "<init>", desc := "()V", sig := { parameters := [], returnType := none }, accessFlags := 0, code := some k2c0 }
def k2c1 : Code := { maxStack := 4, maxLocals := 2, code := prog_63_method_3_code, exceptionTable := #[], attributes := #[] }
def k2m1 : Method := { name := "startRecord", desc := "(I)V", sig := { parameters := [.int], returnType := none }, accessFlags := 0, code := some k2c1 }
def k2c2 : Code := { maxStack := 3, maxLocals := 1, code := prog_63_method_4_code, exceptionTable := #[], attributes := #[] }
def k2m2 : Method := { name := "endRecord", desc := "()V", sig := { parameters := [], returnType := none }, accessFlags := 0, code := some k2c2 }
def k2c3 : Code := { maxStack := 5, maxLocals := 5, code := prog_63_method_9_code, exceptionTable := #[], attributes := #[] }
def k2m3 : Method := { name := "addField", desc := "([CII)V", sig := { parameters := [(.array .char), .int, .int], returnType := none }, accessFlags := 0, code := some k2c3 }
def k2c4 : Code := { maxStack := 5, maxLocals := 3, code := prog_63_method_11_code, exceptionTable := #[], attributes := #[] }
def k2m4 : Method := { name := "reserve", desc := "(I)I", sig := { parameters := [.int], returnType := some .int }, accessFlags := 2, code := some k2c4 }
def k2c5 : Code := { maxStack := 3, maxLocals := 3, code := prog_63_method_19_code, exceptionTable := #[], attributes := #[] }
def k2m5 : Method := { name := "end", desc := "(II)I", sig := { parameters := [.int, .int], returnType := some .int }, accessFlags := 0, code := some k2c5 }
/-- com/example/vestwright/vestwright/io/Records -/
def k2 : Class := { plain "com/example/vestwright/vestwright/io/Records" (some 0) with
  accessFlags := 48
  interfaces := #[]
  cf := some (fileOf pool2 8 #[.nestMembers #[110]] #[{ accessFlags := 0, nameIndex := 5, descriptorIndex := 6, attributes := #[] }, { accessFlags := 0, nameIndex := 118, descriptorIndex := 119, attributes := #[] }, { accessFlags := 0, nameIndex := 70, descriptorIndex := 6, attributes := #[] }, { accessFlags := 0, nameIndex := 126, descriptorIndex := 109, attributes := #[] }, { accessFlags := 2, nameIndex := 73, descriptorIndex := 74, attributes := #[] }, { accessFlags := 0, nameIndex := 106, descriptorIndex := 95, attributes := #[] }] 48 2 #[] #[{ accessFlags := 2, nameIndex := 11, descriptorIndex := 12, attributes := #[] }, { accessFlags := 2, nameIndex := 34, descriptorIndex := 35, attributes := #[] }, { accessFlags := 2, nameIndex := 15, descriptorIndex := 16, attributes := #[] }, { accessFlags := 2, nameIndex := 19, descriptorIndex := 16, attributes := #[] }, { accessFlags := 2, nameIndex := 38, descriptorIndex := 35, attributes := #[] }, { accessFlags := 2, nameIndex := 22, descriptorIndex := 16, attributes := #[] }, { accessFlags := 2, nameIndex := 25, descriptorIndex := 16, attributes := #[] }, { accessFlags := 2, nameIndex := 30, descriptorIndex := 31, attributes := #[] }, { accessFlags := 2, nameIndex := 41, descriptorIndex := 35, attributes := #[] }, { accessFlags := 2, nameIndex := 44, descriptorIndex := 45, attributes := #[] }, { accessFlags := 2, nameIndex := 48, descriptorIndex := 49, attributes := #[] }])
  fields := #[{ name := "text", type := (.array .char), accessFlags := 2, slot := 0, constantValue := 0 }, { name := "textUsed", type := .int, accessFlags := 2, slot := 1, constantValue := 0 }, { name := "starts", type := (.array .int), accessFlags := 2, slot := 2, constantValue := 0 }, { name := "ends", type := (.array .int), accessFlags := 2, slot := 3, constantValue := 0 }, { name := "fields", type := .int, accessFlags := 2, slot := 4, constantValue := 0 }, { name := "firstFields", type := (.array .int), accessFlags := 2, slot := 5, constantValue := 0 }, { name := "lines", type := (.array .int), accessFlags := 2, slot := 6, constantValue := 0 }, { name := "faults", type := (.array (.object "com/example/vestwright/vestwright/io/CsvFormatException")), accessFlags := 2, slot := 7, constantValue := 0 }, { name := "records", type := .int, accessFlags := 2, slot := 8, constantValue := 0 }, { name := "failure", type := (.object "java/lang/Throwable"), accessFlags := 2, slot := 9, constantValue := 0 }, { name := "ended", type := .boolean, accessFlags := 2, slot := 10, constantValue := 0 }]
  methods := #[k2m0, k2m1, k2m2, k2m3, k2m4, k2m5]
  instanceTypes := #[(.array .char), .int, (.array .int), (.array .int), .int, (.array .int), (.array .int), (.array (.object "com/example/vestwright/vestwright/io/CsvFormatException")), .int, (.object "java/lang/Throwable"), .boolean]
  staticTypes := #[]
  resolved := Array.replicate 145 none
  statics := none }

def pool3 : Array CpInfo := pool [(1, .class_ 2), (0, u "java/io/Serializable"), (0, .class_ 4), (0, u "java/lang/Object")] 2

/-- java/io/Serializable -/
def k3 : Class := { plain "java/io/Serializable" (some 0) with
  accessFlags := 1537
  interfaces := #[]
  cf := some (fileOf pool3 1 #[] #[] 1537 3 #[] #[])
  fields := #[]
  methods := #[]
  instanceTypes := #[]
  staticTypes := #[]
  resolved := Array.replicate 7 none
  statics := none }

def pool4 : Array CpInfo := pool [(2, .class_ 4), (1, u "java/lang/Object"), (0, u "<init>"), (0, u "()V"), (1, .class_ 10), (1, u "java/lang/Throwable"), (0, u "cause"), (0, u "Ljava/lang/Throwable;"), (2, u "UNASSIGNED_STACK"), (0, u "[Ljava/lang/StackTraceElement;"), (2, u "stackTrace"), (2, u "SUPPRESSED_SENTINEL"), (0, u "Ljava/util/List;"), (2, u "suppressedExceptions"), (6, u "detailMessage"), (0, u "Ljava/lang/String;"), (58, .class_ 94), (0, u "java/lang/Throwable$WrappedPrintStream"), (6, .class_ 103), (1, u "java/lang/Throwable$PrintStreamOrWriter"), (61, u "$assertionsDisabled"), (0, u "Z"), (26, .class_ 194), (0, u "java/lang/Throwable$WrappedPrintWriter"), (5, u "backtrace"), (0, u "Ljava/lang/Object;"), (9, u "depth"), (0, u "I"), (56, .class_ 271), (1, u "java/lang/Throwable$SentinelHolder"), (32, u "EMPTY_THROWABLE_ARRAY"), (0, u "[Ljava/lang/Throwable;"), (12, .class_ 319), (0, u "java/io/Serializable"), (0, u "serialVersionUID"), (0, u "J"), (5, u "NULL_CAUSE_MESSAGE"), (0, u "SELF_SUPPRESSION_MESSAGE"), (0, u "CAUSE_CAPTION"), (0, u "SUPPRESSED_CAPTION")] 73

def k4m0 : Method := { name := "<init>", desc := "()V", sig := { parameters := [], returnType := none }, accessFlags := 1, code := none }
/-- java/lang/Throwable -/
def k4 : Class := { plain "java/lang/Throwable" (some 0) with
  accessFlags := 33
  interfaces := #[3]
  cf := some (fileOf pool4 8 #[.nestMembers #[193, 93, 101, 269]] #[{ accessFlags := 1, nameIndex := 5, descriptorIndex := 6, attributes := #[] }] 33 2 #[318] #[{ accessFlags := 26, nameIndex := 320, descriptorIndex := 321, attributes := #[] }, { accessFlags := 130, nameIndex := 200, descriptorIndex := 201, attributes := #[] }, { accessFlags := 2, nameIndex := 33, descriptorIndex := 34, attributes := #[] }, { accessFlags := 26, nameIndex := 15, descriptorIndex := 16, attributes := #[] }, { accessFlags := 2, nameIndex := 11, descriptorIndex := 12, attributes := #[] }, { accessFlags := 2, nameIndex := 19, descriptorIndex := 16, attributes := #[] }, { accessFlags := 130, nameIndex := 211, descriptorIndex := 212, attributes := #[] }, { accessFlags := 26, nameIndex := 22, descriptorIndex := 23, attributes := #[] }, { accessFlags := 2, nameIndex := 26, descriptorIndex := 23, attributes := #[] }, { accessFlags := 26, nameIndex := 327, descriptorIndex := 34, attributes := #[] }, { accessFlags := 26, nameIndex := 328, descriptorIndex := 34, attributes := #[] }, { accessFlags := 26, nameIndex := 329, descriptorIndex := 34, attributes := #[] }, { accessFlags := 26, nameIndex := 330, descriptorIndex := 34, attributes := #[] }, { accessFlags := 26, nameIndex := 304, descriptorIndex := 305, attributes := #[] }, { accessFlags := 4120, nameIndex := 165, descriptorIndex := 166, attributes := #[] }])
  fields := #[{ name := "serialVersionUID", type := .long, accessFlags := 26, slot := 0, constantValue := 0 }, { name := "backtrace", type := (.object "java/lang/Object"), accessFlags := 130, slot := 0, constantValue := 0 }, { name := "detailMessage", type := (.object "java/lang/String"), accessFlags := 2, slot := 1, constantValue := 0 }, { name := "UNASSIGNED_STACK", type := (.array (.object "java/lang/StackTraceElement")), accessFlags := 26, slot := 1, constantValue := 0 }, { name := "cause", type := (.object "java/lang/Throwable"), accessFlags := 2, slot := 2, constantValue := 0 }, { name := "stackTrace", type := (.array (.object "java/lang/StackTraceElement")), accessFlags := 2, slot := 3, constantValue := 0 }, { name := "depth", type := .int, accessFlags := 130, slot := 4, constantValue := 0 }, { name := "SUPPRESSED_SENTINEL", type := (.object "java/util/List"), accessFlags := 26, slot := 2, constantValue := 0 }, { name := "suppressedExceptions", type := (.object "java/util/List"), accessFlags := 2, slot := 5, constantValue := 0 }, { name := "NULL_CAUSE_MESSAGE", type := (.object "java/lang/String"), accessFlags := 26, slot := 3, constantValue := 0 }, { name := "SELF_SUPPRESSION_MESSAGE", type := (.object "java/lang/String"), accessFlags := 26, slot := 4, constantValue := 0 }, { name := "CAUSE_CAPTION", type := (.object "java/lang/String"), accessFlags := 26, slot := 5, constantValue := 0 }, { name := "SUPPRESSED_CAPTION", type := (.object "java/lang/String"), accessFlags := 26, slot := 6, constantValue := 0 }, { name := "EMPTY_THROWABLE_ARRAY", type := (.array (.object "java/lang/Throwable")), accessFlags := 26, slot := 7, constantValue := 0 }, { name := "$assertionsDisabled", type := .boolean, accessFlags := 4120, slot := 8, constantValue := 0 }]
  methods := #[k4m0]
  instanceTypes := #[(.object "java/lang/Object"), (.object "java/lang/String"), (.object "java/lang/Throwable"), (.array (.object "java/lang/StackTraceElement")), .int, (.object "java/util/List")]
  staticTypes := #[.long, (.array (.object "java/lang/StackTraceElement")), (.object "java/util/List"), (.object "java/lang/String"), (.object "java/lang/String"), (.object "java/lang/String"), (.object "java/lang/String"), (.array (.object "java/lang/Throwable")), .boolean]
  resolved := Array.replicate 404 none
  statics := none }

def pool5 : Array CpInfo := pool [(2, .class_ 4), (1, u "java/lang/Throwable"), (0, u "<init>"), (0, u "()V"), (12, .class_ 20), (0, u "java/lang/Exception"), (0, u "serialVersionUID"), (0, u "J")] 17

def k5m0 : Method := { name := "<init>", desc := "()V", sig := { parameters := [], returnType := none }, accessFlags := 1, code := none }
/-- java/lang/Exception -/
def k5 : Class := { plain "java/lang/Exception" (some 4) with
  accessFlags := 33
  interfaces := #[]
  cf := some (fileOf pool5 19 #[] #[{ accessFlags := 1, nameIndex := 5, descriptorIndex := 6, attributes := #[] }] 33 2 #[] #[{ accessFlags := 24, nameIndex := 21, descriptorIndex := 22, attributes := #[] }])
  fields := #[{ name := "serialVersionUID", type := .long, accessFlags := 24, slot := 0, constantValue := 0 }]
  methods := #[k5m0]
  instanceTypes := #[(.object "java/lang/Object"), (.object "java/lang/String"), (.object "java/lang/Throwable"), (.array (.object "java/lang/StackTraceElement")), .int, (.object "java/util/List")]
  staticTypes := #[.long]
  resolved := Array.replicate 40 none
  statics := none }

def pool6 : Array CpInfo := pool [(2, .class_ 4), (1, u "java/lang/Exception"), (0, u "<init>"), (0, u "()V"), (9, .class_ 17), (0, u "java/io/IOException"), (0, u "serialVersionUID"), (0, u "J")] 14

def k6m0 : Method := { name := "<init>", desc := "()V", sig := { parameters := [], returnType := none }, accessFlags := 1, code := none }
/-- java/io/IOException -/
def k6 : Class := { plain "java/io/IOException" (some 5) with
  accessFlags := 33
  interfaces := #[]
  cf := some (fileOf pool6 16 #[] #[{ accessFlags := 1, nameIndex := 5, descriptorIndex := 6, attributes := #[] }] 33 2 #[] #[{ accessFlags := 24, nameIndex := 18, descriptorIndex := 19, attributes := #[] }])
  fields := #[{ name := "serialVersionUID", type := .long, accessFlags := 24, slot := 0, constantValue := 0 }]
  methods := #[k6m0]
  instanceTypes := #[(.object "java/lang/Object"), (.object "java/lang/String"), (.object "java/lang/Throwable"), (.array (.object "java/lang/StackTraceElement")), .int, (.object "java/util/List")]
  staticTypes := #[.long]
  resolved := Array.replicate 34 none
  statics := none }

def pool7 : Array CpInfo := pool [(2, .class_ 4), (1, u "java/io/IOException"), (3, .class_ 10), (1, u "com/example/vestwright/vestwright/io/CsvFormatException"), (0, u "line"), (0, u "I"), (2, u "field"), (0, u "serialVersionUID"), (0, u "J")] 9

/-- com/example/vestwright/vestwright/io/CsvFormatException -/
def k7 : Class := { plain "com/example/vestwright/vestwright/io/CsvFormatException" (some 6) with
  accessFlags := 49
  interfaces := #[]
  cf := some (fileOf pool7 8 #[] #[] 49 2 #[] #[{ accessFlags := 26, nameIndex := 16, descriptorIndex := 17, attributes := #[] }, { accessFlags := 18, nameIndex := 11, descriptorIndex := 12, attributes := #[] }, { accessFlags := 18, nameIndex := 15, descriptorIndex := 12, attributes := #[] }])
  fields := #[{ name := "serialVersionUID", type := .long, accessFlags := 26, slot := 0, constantValue := 0 }, { name := "line", type := .int, accessFlags := 18, slot := 6, constantValue := 0 }, { name := "field", type := .int, accessFlags := 18, slot := 7, constantValue := 0 }]
  methods := #[]
  instanceTypes := #[(.object "java/lang/Object"), (.object "java/lang/String"), (.object "java/lang/Throwable"), (.array (.object "java/lang/StackTraceElement")), .int, (.object "java/util/List"), .int, .int]
  staticTypes := #[.long]
  resolved := Array.replicate 27 none
  statics := none }

def pool8 : Array CpInfo := pool [(2, .class_ 4), (1, u "java/lang/Object"), (0, u "<init>"), (0, u "()V"), (1, .class_ 10), (1, u "java/lang/System"), (0, u "allowSecurityManager"), (0, u "I"), (16, u "cons"), (0, u "Ljava/io/Console;"), (77, .class_ 110), (1, u "java/lang/System$CallersHolder"), (43, u "initialErrStream"), (0, u "Ljava/io/PrintStream;"), (19, u "security"), (0, u "Ljava/lang/SecurityManager;"), (31, .class_ 209), (0, u "java/lang/System$1"), (7, u "props"), (0, u "Ljava/util/Properties;"), (2, u "lineSeparator"), (0, u "Ljava/lang/String;"), (96, .class_ 321), (1, u "java/lang/System$LoggerFinder"), (5, .class_ 328), (0, u "java/lang/System$Logger"), (67, u "err"), (2, u "out"), (91, u "notSupportedJnuEncoding"), (15, u "in"), (17, u "initialIn"), (0, u "Ljava/io/InputStream;"), (35, u "bootLayer"), (0, u "Ljava/lang/ModuleLayer;"), (99, .class_ 664), (0, u "java/lang/System$2"), (9, u "NEVER"), (2, u "MAYBE"), (49, u "arraycopy"), (0, u "(Ljava/lang/Object;ILjava/lang/Object;II)V"), (72, .class_ 802), (0, u "java/lang/System$Logger$Level")] 31

def k8m0 : Method := { name := "<init>", desc := "()V", sig := { parameters := [], returnType := none }, accessFlags := 2, code := none }
def k8m1 : Method := { name := "arraycopy", desc := "(Ljava/lang/Object;ILjava/lang/Object;II)V", sig := { parameters := [(.object "java/lang/Object"), .int, (.object "java/lang/Object"), .int, .int], returnType := none }, accessFlags := 265, code := none }
/-- java/lang/System -/
def k8 : Class := { plain "java/lang/System" (some 0) with
  accessFlags := 49
  interfaces := #[]
  cf := some (fileOf pool8 8 #[.nestMembers #[319, 327, 801, 108, 663, 208]] #[{ accessFlags := 2, nameIndex := 5, descriptorIndex := 6, attributes := #[] }, { accessFlags := 265, nameIndex := 727, descriptorIndex := 728, attributes := #[] }] 49 2 #[] #[{ accessFlags := 25, nameIndex := 507, descriptorIndex := 526, attributes := #[] }, { accessFlags := 25, nameIndex := 399, descriptorIndex := 155, attributes := #[] }, { accessFlags := 25, nameIndex := 396, descriptorIndex := 155, attributes := #[] }, { accessFlags := 10, nameIndex := 525, descriptorIndex := 526, attributes := #[] }, { accessFlags := 26, nameIndex := 674, descriptorIndex := 12, attributes := #[] }, { accessFlags := 26, nameIndex := 677, descriptorIndex := 12, attributes := #[] }, { accessFlags := 10, nameIndex := 11, descriptorIndex := 12, attributes := #[] }, { accessFlags := 74, nameIndex := 175, descriptorIndex := 176, attributes := #[] }, { accessFlags := 10, nameIndex := 491, descriptorIndex := 222, attributes := #[] }, { accessFlags := 74, nameIndex := 29, descriptorIndex := 30, attributes := #[] }, { accessFlags := 74, nameIndex := 154, descriptorIndex := 155, attributes := #[] }, { accessFlags := 10, nameIndex := 217, descriptorIndex := 218, attributes := #[] }, { accessFlags := 10, nameIndex := 221, descriptorIndex := 222, attributes := #[] }, { accessFlags := 8, nameIndex := 562, descriptorIndex := 563, attributes := #[] }])
  fields := #[{ name := "in", type := (.object "java/io/InputStream"), accessFlags := 25, slot := 0, constantValue := 0 }, { name := "out", type := (.object "java/io/PrintStream"), accessFlags := 25, slot := 1, constantValue := 0 }, { name := "err", type := (.object "java/io/PrintStream"), accessFlags := 25, slot := 2, constantValue := 0 }, { name := "initialIn", type := (.object "java/io/InputStream"), accessFlags := 10, slot := 3, constantValue := 0 }, { name := "NEVER", type := .int, accessFlags := 26, slot := 4, constantValue := 0 }, { name := "MAYBE", type := .int, accessFlags := 26, slot := 5, constantValue := 0 }, { name := "allowSecurityManager", type := .int, accessFlags := 10, slot := 6, constantValue := 0 }, { name := "security", type := (.object "java/lang/SecurityManager"), accessFlags := 74, slot := 7, constantValue := 0 }, { name := "notSupportedJnuEncoding", type := (.object "java/lang/String"), accessFlags := 10, slot := 8, constantValue := 0 }, { name := "cons", type := (.object "java/io/Console"), accessFlags := 74, slot := 9, constantValue := 0 }, { name := "initialErrStream", type := (.object "java/io/PrintStream"), accessFlags := 74, slot := 10, constantValue := 0 }, { name := "props", type := (.object "java/util/Properties"), accessFlags := 10, slot := 11, constantValue := 0 }, { name := "lineSeparator", type := (.object "java/lang/String"), accessFlags := 10, slot := 12, constantValue := 0 }, { name := "bootLayer", type := (.object "java/lang/ModuleLayer"), accessFlags := 8, slot := 13, constantValue := 0 }]
  methods := #[k8m0, k8m1]
  instanceTypes := #[]
  staticTypes := #[(.object "java/io/InputStream"), (.object "java/io/PrintStream"), (.object "java/io/PrintStream"), (.object "java/io/InputStream"), .int, .int, .int, (.object "java/lang/SecurityManager"), (.object "java/lang/String"), (.object "java/io/Console"), (.object "java/io/PrintStream"), (.object "java/util/Properties"), (.object "java/lang/String"), (.object "java/lang/ModuleLayer")]
  resolved := Array.replicate 834 none
  statics := none }

def pool9 : Array CpInfo := pool [(1, .class_ 2), (0, u "java/lang/Math"), (1, .class_ 6), (1, u "java/lang/Object"), (0, u "<init>"), (0, u "()V"), (89, .class_ 100), (1, u "java/lang/Math$RandomNumberGeneratorHolder"), (71, u "negativeZeroFloatBits"), (0, u "J"), (2, u "negativeZeroDoubleBits"), (21, u "max"), (2, u "min"), (43, u "$assertionsDisabled"), (0, u "Z"), (88, u "(II)I"), (2, u "twoToTheDoubleScaleDown"), (0, u "D"), (4, u "twoToTheDoubleScaleUp"), (9, u "E"), (3, u "PI"), (2, u "TAU"), (2, u "DEGREES_TO_RADIANS"), (0, u "RADIANS_TO_DEGREES")] 94

def k9m0 : Method := { name := "<init>", desc := "()V", sig := { parameters := [], returnType := none }, accessFlags := 2, code := none }
def k9c1 : Code := { maxStack := 2, maxLocals := 2, code := jdk_29_method_65_code, exceptionTable := #[], attributes := #[] }
def k9m1 : Method := { name := "max", desc := "(II)I", sig := { parameters := [.int, .int], returnType := some .int }, accessFlags := 9, code := some k9c1 }
def k9c2 : Code := { maxStack := 2, maxLocals := 2, code := jdk_29_method_69_code, exceptionTable := #[], attributes := #[] }
def k9m2 : Method := { name := "min", desc := "(II)I", sig := { parameters := [.int, .int], returnType := some .int }, accessFlags := 9, code := some k9c2 }
/-- java/lang/Math -/
def k9 : Class := { plain "java/lang/Math" (some 0) with
  accessFlags := 49
  interfaces := #[]
  cf := some (fileOf pool9 1 #[.nestMembers #[98]] #[{ accessFlags := 2, nameIndex := 7, descriptorIndex := 8, attributes := #[] }, { accessFlags := 9, nameIndex := 198, descriptorIndex := 335, attributes := #[] }, { accessFlags := 9, nameIndex := 201, descriptorIndex := 335, attributes := #[] }] 49 4 #[] #[{ accessFlags := 25, nameIndex := 354, descriptorIndex := 339, attributes := #[] }, { accessFlags := 25, nameIndex := 358, descriptorIndex := 339, attributes := #[] }, { accessFlags := 25, nameIndex := 361, descriptorIndex := 339, attributes := #[] }, { accessFlags := 26, nameIndex := 364, descriptorIndex := 339, attributes := #[] }, { accessFlags := 26, nameIndex := 365, descriptorIndex := 339, attributes := #[] }, { accessFlags := 26, nameIndex := 172, descriptorIndex := 173, attributes := #[] }, { accessFlags := 26, nameIndex := 176, descriptorIndex := 173, attributes := #[] }, { accessFlags := 8, nameIndex := 344, descriptorIndex := 339, attributes := #[] }, { accessFlags := 8, nameIndex := 338, descriptorIndex := 339, attributes := #[] }, { accessFlags := 4120, nameIndex := 245, descriptorIndex := 246, attributes := #[] }])
  fields := #[{ name := "E", type := .double, accessFlags := 25, slot := 0, constantValue := 0 }, { name := "PI", type := .double, accessFlags := 25, slot := 1, constantValue := 0 }, { name := "TAU", type := .double, accessFlags := 25, slot := 2, constantValue := 0 }, { name := "DEGREES_TO_RADIANS", type := .double, accessFlags := 26, slot := 3, constantValue := 0 }, { name := "RADIANS_TO_DEGREES", type := .double, accessFlags := 26, slot := 4, constantValue := 0 }, { name := "negativeZeroFloatBits", type := .long, accessFlags := 26, slot := 5, constantValue := 0 }, { name := "negativeZeroDoubleBits", type := .long, accessFlags := 26, slot := 6, constantValue := 0 }, { name := "twoToTheDoubleScaleUp", type := .double, accessFlags := 8, slot := 7, constantValue := 0 }, { name := "twoToTheDoubleScaleDown", type := .double, accessFlags := 8, slot := 8, constantValue := 0 }, { name := "$assertionsDisabled", type := .boolean, accessFlags := 4120, slot := 9, constantValue := 0 }]
  methods := #[k9m0, k9m1, k9m2]
  instanceTypes := #[]
  staticTypes := #[.double, .double, .double, .double, .double, .long, .long, .double, .double, .boolean]
  resolved := Array.replicate 460 none
  statics := none }

def pool10 : Array CpInfo := pool [(2, .class_ 4), (1, u "java/lang/Object"), (0, u "<init>"), (0, u "()V"), (7, .class_ 16), (1, u "java/util/Arrays"), (57, .class_ 76), (1, u "java/util/Arrays$NaturalOrder"), (36, .class_ 115), (1, u "java/util/Arrays$LegacyMergeSort"), (1, u "Z"), (32, .methodref 151 152), (0, .class_ 153), (0, .nameAndType 154 155), (0, u "java/lang/System"), (0, u "arraycopy"), (0, u "(Ljava/lang/Object;ILjava/lang/Object;II)V"), (146, u "copyOf"), (1, .methodref 305 306), (0, .class_ 307), (0, .nameAndType 308 309), (0, u "java/lang/Math"), (0, u "min"), (0, u "(II)I"), (65, .class_ 376), (0, u "java/util/Arrays$ArrayList"), (68, u "$assertionsDisabled"), (269, u "MIN_ARRAY_SORT_GRAN"), (0, u "I"), (2, u "INSERTIONSORT_THRESHOLD"), (153, u "([CI)[C"), (101, .class_ 976), (0, u "java/util/Arrays$ArrayItr")] 52

def k10m0 : Method := { name := "<init>", desc := "()V", sig := { parameters := [], returnType := none }, accessFlags := 2, code := none }
def k10c1 : Code := { maxStack := 6, maxLocals := 3, code := jdk_65_method_125_code, exceptionTable := #[], attributes := #[] }
def k10m1 : Method := { name := "copyOf", desc := "([CI)[C", sig := { parameters := [(.array .char), .int], returnType := some (.array .char) }, accessFlags := 9, code := some k10c1 }
/-- java/util/Arrays -/
def k10 : Class := { plain "java/util/Arrays" (some 0) with
  accessFlags := 49
  interfaces := #[]
  cf := some (fileOf pool10 14 #[.nestMembers #[975, 375, 113, 74]] #[{ accessFlags := 2, nameIndex := 5, descriptorIndex := 6, attributes := #[] }, { accessFlags := 9, nameIndex := 302, descriptorIndex := 873, attributes := #[] }] 49 2 #[] #[{ accessFlags := 26, nameIndex := 715, descriptorIndex := 716, attributes := #[] }, { accessFlags := 26, nameIndex := 719, descriptorIndex := 716, attributes := #[] }, { accessFlags := 4120, nameIndex := 445, descriptorIndex := 117, attributes := #[] }])
  fields := #[{ name := "MIN_ARRAY_SORT_GRAN", type := .int, accessFlags := 26, slot := 0, constantValue := 0 }, { name := "INSERTIONSORT_THRESHOLD", type := .int, accessFlags := 26, slot := 1, constantValue := 0 }, { name := "$assertionsDisabled", type := .boolean, accessFlags := 4120, slot := 2, constantValue := 0 }]
  methods := #[k10m0, k10m1]
  instanceTypes := #[]
  staticTypes := #[.int, .int, .boolean]
  resolved := Array.replicate 1029 none
  statics := none }

def pool11 : Array CpInfo := pool [(1, u "java/lang/Cloneable"), (0, .class_ 1), (0, u "java/lang/Object"), (0, .class_ 3)] 3

/-- java/lang/Cloneable -/
def k11 : Class := { plain "java/lang/Cloneable" (some 0) with
  accessFlags := 1537
  interfaces := #[]
  cf := some (fileOf pool11 2 #[] #[] 1537 4 #[] #[])
  fields := #[]
  methods := #[]
  instanceTypes := #[]
  staticTypes := #[]
  resolved := Array.replicate 8 none
  statics := none }

/-- the primitive byte -/
def k12 : Class := { plain "byte" none with kind := .primitive 'B', accessFlags := 0x411 }
/-- [B -/
def k13 : Class := { plain "[B" (some 0) with kind := .array 12 .byte, interfaces := #[11, 3], accessFlags := 1041 }

/-- the primitive char -/
def k14 : Class := { plain "char" none with kind := .primitive 'C', accessFlags := 0x411 }
/-- [C -/
def k15 : Class := { plain "[C" (some 0) with kind := .array 14 .char, interfaces := #[11, 3], accessFlags := 1041 }

/-- the primitive int -/
def k16 : Class := { plain "int" none with kind := .primitive 'I', accessFlags := 0x411 }
/-- [I -/
def k17 : Class := { plain "[I" (some 0) with kind := .array 16 .int, interfaces := #[11, 3], accessFlags := 1041 }

/-- [Lcom/example/vestwright/vestwright/io/CsvFormatException; -/
def k18 : Class := { plain "[Lcom/example/vestwright/vestwright/io/CsvFormatException;" (some 0) with kind := .array 7 (.object "com/example/vestwright/vestwright/io/CsvFormatException"), interfaces := #[11, 3], accessFlags := 1041 }

def heap : Heap := #[]
def classes : Array Class := #[k0, k1, k2, k3, k4, k5, k6, k7, k8, k9, k10, k11, k12, k13, k14, k15, k16, k17, k18]
def interned : List (Array UInt16 × Addr) := []
def slotsUsed : Nat := 0
def theMethod : MethodId := ⟨1, 1⟩
def args0 : Array Value := #[.int 5, .int 7, .int 8, .int 9, .int 10]
def aboutOver (below : List Frame) : State where
  vm := { classes := classes, interned := interned.toArray }
  heap := heap
  slotsUsed := slotsUsed
  threads := #[{ frames := .invoking theMethod args0 :: below }]
def below0 : List Frame := [.native { method := ⟨0, 0⟩, args := #[] }]
def about1 : State := aboutOver below0
def p0 : Program := .bare "" "" ""
def e0 : Env := launch0.env 0 0 0
theorem w_frames : about1.frames = Frame.invoking theMethod args0 :: below0 := rfl
set_option maxRecDepth 65536 in
theorem w_args : argsFit about1.vm theMethod args0 = true := by decide +kernel
set_option maxRecDepth 65536 in
theorem w_heap : heapFits about1 = true := by decide +kernel
set_option maxRecDepth 65536 in
theorem w_runnable : about1.curStatus? = some .runnable := by decide +kernel
set_option maxRecDepth 65536 in
theorem w_alone : about1.alone = true := by decide +kernel
set_option maxRecDepth 65536 in
theorem w_named : about1.methodNamed? x = some theMethod := by decide +kernel
set_option maxRecDepth 65536 in
theorem w_hears : about1.hears theMethod below0 = true := by decide +kernel
set_option maxRecDepth 65536 in
theorem w_ripe : about1.ripe theMethod args0 below0 = true := by decide +kernel
theorem w_running : about1.status = .running := rfl
set_option maxRecDepth 65536 in
theorem w_room : about1.hasRoom e0.platform room_1 = true :=
  launch0.hasRoom_least _ room_1 (by decide +kernel) (by decide +kernel) (by decide +kernel) (by decide +kernel) (by decide +kernel) (by decide +kernel)
theorem allAtoms_all (ts : List Jvm.Cond) (a : Array Jvm.Value) (st : Jvm.State) : (allAtoms ts).before a st = ts.all (fun c => c.before a st) := by
  induction ts with
  | nil => rfl
  | cons c t ih =>
    show (Jvm.Cond.and c (allAtoms t)).before a st = _
    rw [Jvm.Cond.before_and, ih, List.all_cons]
def words1 : List Jvm.Cond := Jvm.Cond.code x code maxLocals ret :: tables_1
/-- a 'code' word, met by the world's own term for the bytes: nothing is compared byte by byte -/
theorem code_word {y : MethodName} {bytes : ByteArray} {mx : Nat} {rt : Option FieldType} {a : Array Value} {s : State} {m : MethodId} {meth : Method} {c : Code} (h1 : s.methodNamed? y = some m) (h2 : s.vm.method? m = some meth) (h3 : meth.code = some c) (h4 : c.code = bytes)
    (h5 : (c.maxLocals == mx && c.exceptionTable.isEmpty && decide (c.maxStack ≤ mostOperands) && decide (meth.sig.returnType = rt) && !meth.locks && decide (parseMethodDescriptor y.desc = some meth.sig)) = true) : (Jvm.Cond.code y bytes mx rt).before a s = true := by
  simp only [Bool.and_eq_true, beq_iff_eq, Bool.not_eq_true', decide_eq_true_eq] at h5
  obtain ⟨⟨⟨⟨⟨g1, g2⟩, g3⟩, g4⟩, g5⟩, g6⟩ := h5
  simp [Cond.before, Cond.holds, Cond.value, h1, h2, h3, h4, g1, g2, g3, g4, g5, g6]
def isCode : Jvm.Cond → Bool
  | .code _ _ _ _ => true
  | _ => false
theorem all_split {L : List Jvm.Cond} {P : Jvm.Cond → Bool} (h1 : L.all (fun c => isCode c || P c) = true) (h2 : ∀ c ∈ L.filter isCode, P c = true) : L.all P = true := by
  refine List.all_eq_true.mpr fun c hc => ?_
  have h := List.all_eq_true.mp h1 c hc
  rcases Bool.eq_false_or_eq_true (isCode c) with hi | hi
  · exact h2 c (List.mem_filter.mpr ⟨hc, hi⟩)
  · simpa [hi] using h
set_option maxRecDepth 65536 in
theorem w_c0 : (Jvm.Cond.code x code maxLocals ret).before args0 about1 = true := code_word (m := ⟨1, 1⟩) (meth := k1m1) (c := k1c1) (by decide +kernel) rfl rfl rfl (by decide +kernel)
set_option maxRecDepth 65536 in
theorem w_c1 : (Jvm.Cond.code ({ cls := "com/example/vestwright/vestwright/io/Records", name := "<init>", desc := "()V" } : Jvm.MethodName) prog_63_method_1_code (1 : Nat) (Option.none : Option Jvm.ClassFile.FieldType)).before args0 about1 = true := code_word (m := ⟨2, 0⟩) (meth := k2m0) (c := k2c0) (by decide +kernel) rfl rfl rfl (by decide +kernel)
set_option maxRecDepth 65536 in
theorem w_c2 : (Jvm.Cond.code ({ cls := "java/lang/Object", name := "<init>", desc := "()V" } : Jvm.MethodName) object_method_1_code (1 : Nat) (Option.none : Option Jvm.ClassFile.FieldType)).before args0 about1 = true := code_word (m := ⟨0, 0⟩) (meth := k0m0) (c := k0c0) (by decide +kernel) rfl rfl rfl (by decide +kernel)
set_option maxRecDepth 65536 in
theorem w_c3 : (Jvm.Cond.code ({ cls := "com/example/vestwright/vestwright/io/Records", name := "startRecord", desc := "(I)V" } : Jvm.MethodName) prog_63_method_3_code (2 : Nat) (Option.none : Option Jvm.ClassFile.FieldType)).before args0 about1 = true := code_word (m := ⟨2, 1⟩) (meth := k2m1) (c := k2c1) (by decide +kernel) rfl rfl rfl (by decide +kernel)
set_option maxRecDepth 65536 in
theorem w_c4 : (Jvm.Cond.code ({ cls := "com/example/vestwright/vestwright/io/Records", name := "addField", desc := "([CII)V" } : Jvm.MethodName) prog_63_method_9_code (5 : Nat) (Option.none : Option Jvm.ClassFile.FieldType)).before args0 about1 = true := code_word (m := ⟨2, 3⟩) (meth := k2m3) (c := k2c3) (by decide +kernel) rfl rfl rfl (by decide +kernel)
set_option maxRecDepth 65536 in
theorem w_c5 : (Jvm.Cond.code ({ cls := "com/example/vestwright/vestwright/io/Records", name := "reserve", desc := "(I)I" } : Jvm.MethodName) prog_63_method_11_code (3 : Nat) (Option.some Jvm.ClassFile.FieldType.int)).before args0 about1 = true := code_word (m := ⟨2, 4⟩) (meth := k2m4) (c := k2c4) (by decide +kernel) rfl rfl rfl (by decide +kernel)
set_option maxRecDepth 65536 in
theorem w_c6 : (Jvm.Cond.code ({ cls := "com/example/vestwright/vestwright/io/Records", name := "endRecord", desc := "()V" } : Jvm.MethodName) prog_63_method_4_code (1 : Nat) (Option.none : Option Jvm.ClassFile.FieldType)).before args0 about1 = true := code_word (m := ⟨2, 2⟩) (meth := k2m2) (c := k2c2) (by decide +kernel) rfl rfl rfl (by decide +kernel)
set_option maxRecDepth 65536 in
theorem w_c7 : (Jvm.Cond.code ({ cls := "com/example/vestwright/vestwright/io/Records", name := "end", desc := "(II)I" } : Jvm.MethodName) prog_63_method_19_code (3 : Nat) (Option.some Jvm.ClassFile.FieldType.int)).before args0 about1 = true := code_word (m := ⟨2, 5⟩) (meth := k2m5) (c := k2c5) (by decide +kernel) rfl rfl rfl (by decide +kernel)
set_option maxRecDepth 65536 in
theorem w_c8 : (Jvm.Cond.code ({ cls := "java/lang/Math", name := "max", desc := "(II)I" } : Jvm.MethodName) jdk_29_method_65_code (2 : Nat) (Option.some Jvm.ClassFile.FieldType.int)).before args0 about1 = true := code_word (m := ⟨9, 1⟩) (meth := k9m1) (c := k9c1) (by decide +kernel) rfl rfl rfl (by decide +kernel)
set_option maxRecDepth 65536 in
theorem w_c9 : (Jvm.Cond.code ({ cls := "java/util/Arrays", name := "copyOf", desc := "([CI)[C" } : Jvm.MethodName) jdk_65_method_125_code (3 : Nat) (Option.some (Jvm.ClassFile.FieldType.array Jvm.ClassFile.FieldType.char))).before args0 about1 = true := code_word (m := ⟨10, 1⟩) (meth := k10m1) (c := k10c1) (by decide +kernel) rfl rfl rfl (by decide +kernel)
set_option maxRecDepth 65536 in
theorem w_c10 : (Jvm.Cond.code ({ cls := "java/lang/Math", name := "min", desc := "(II)I" } : Jvm.MethodName) jdk_29_method_69_code (2 : Nat) (Option.some Jvm.ClassFile.FieldType.int)).before args0 about1 = true := code_word (m := ⟨9, 2⟩) (meth := k9m2) (c := k9c2) (by decide +kernel) rfl rfl rfl (by decide +kernel)
def codes1 : List Jvm.Cond := [Jvm.Cond.code x code maxLocals ret, Jvm.Cond.code ({ cls := "com/example/vestwright/vestwright/io/Records", name := "<init>", desc := "()V" } : Jvm.MethodName) prog_63_method_1_code (1 : Nat) (Option.none : Option Jvm.ClassFile.FieldType), Jvm.Cond.code ({ cls := "java/lang/Object", name := "<init>", desc := "()V" } : Jvm.MethodName) object_method_1_code (1 : Nat) (Option.none : Option Jvm.ClassFile.FieldType), Jvm.Cond.code ({ cls := "com/example/vestwright/vestwright/io/Records", name := "startRecord", desc := "(I)V" } : Jvm.MethodName) prog_63_method_3_code (2 : Nat) (Option.none : Option Jvm.ClassFile.FieldType), Jvm.Cond.code ({ cls := "com/example/vestwright/vestwright/io/Records", name := "addField", desc := "([CII)V" } : Jvm.MethodName) prog_63_method_9_code (5 : Nat) (Option.none : Option Jvm.ClassFile.FieldType), Jvm.Cond.code ({ cls := "com/example/vestwright/vestwright/io/Records", name := "reserve", desc := "(I)I" } : Jvm.MethodName) prog_63_method_11_code (3 : Nat) (Option.some Jvm.ClassFile.FieldType.int), Jvm.Cond.code ({ cls := "com/example/vestwright/vestwright/io/Records", name := "endRecord", desc := "()V" } : Jvm.MethodName) prog_63_method_4_code (1 : Nat) (Option.none : Option Jvm.ClassFile.FieldType), Jvm.Cond.code ({ cls := "com/example/vestwright/vestwright/io/Records", name := "end", desc := "(II)I" } : Jvm.MethodName) prog_63_method_19_code (3 : Nat) (Option.some Jvm.ClassFile.FieldType.int), Jvm.Cond.code ({ cls := "java/lang/Math", name := "max", desc := "(II)I" } : Jvm.MethodName) jdk_29_method_65_code (2 : Nat) (Option.some Jvm.ClassFile.FieldType.int), Jvm.Cond.code ({ cls := "java/util/Arrays", name := "copyOf", desc := "([CI)[C" } : Jvm.MethodName) jdk_65_method_125_code (3 : Nat) (Option.some (Jvm.ClassFile.FieldType.array Jvm.ClassFile.FieldType.char)), Jvm.Cond.code ({ cls := "java/lang/Math", name := "min", desc := "(II)I" } : Jvm.MethodName) jdk_29_method_69_code (2 : Nat) (Option.some Jvm.ClassFile.FieldType.int)]
set_option maxRecDepth 65536 in
theorem codes_eq : words1.filter isCode = codes1 := rfl
theorem w_codes : ∀ c ∈ words1.filter isCode, c.before args0 about1 = true := by
  rw [codes_eq]
  intro c hc
  simp only [codes1, List.mem_cons, List.not_mem_nil, or_false] at hc
  rcases hc with rfl | rfl | rfl | rfl | rfl | rfl | rfl | rfl | rfl | rfl | rfl
  · exact w_c0
  · exact w_c1
  · exact w_c2
  · exact w_c3
  · exact w_c4
  · exact w_c5
  · exact w_c6
  · exact w_c7
  · exact w_c8
  · exact w_c9
  · exact w_c10
set_option maxRecDepth 65536 in
theorem w_t1 : (words1.take 24).all (fun c => isCode c || c.before args0 about1) = true := by decide +kernel
set_option maxRecDepth 65536 in
theorem w_t2 : ((words1.drop 24).take 24).all (fun c => isCode c || c.before args0 about1) = true := by decide +kernel
set_option maxRecDepth 65536 in
theorem w_t3 : (((words1.drop 24).drop 24).take 24).all (fun c => isCode c || c.before args0 about1) = true := by decide +kernel
set_option maxRecDepth 65536 in
theorem w_t4 : (((words1.drop 24).drop 24).drop 24).all (fun c => isCode c || c.before args0 about1) = true := by decide +kernel
theorem w_tables : (allAtoms (Jvm.Cond.code x code maxLocals ret :: tables_1)).before args0 about1 = true := by
  rw [allAtoms_all]
  show words1.all (fun c => c.before args0 about1) = true
  refine all_split ?_ w_codes
  rw [← List.take_append_drop 24 words1, List.all_append, w_t1, ← List.take_append_drop 24 (words1.drop 24), List.all_append, w_t2, ← List.take_append_drop 24 ((words1.drop 24).drop 24), List.all_append, w_t3, w_t4]
  rfl
set_option maxRecDepth 65536 in
theorem w_case : (Jvm.Cond.and given_1 narrow_1).before args0 about1 = true := by decide +kernel
theorem w_applies : (headSpec (Jvm.Cond.code x code maxLocals ret :: tables_1) room_1).applies x e0.platform about1 = true :=
  (Spec.applies_iff w_frames).mpr ⟨w_running, w_runnable, w_alone, w_named, w_hears, w_ripe, w_room, w_tables⟩
theorem atStart : AtStart classFile x code maxLocals ret World_1 tables_1 room_1 Calls_1 rest_1 Pre_1 launch0 p0 e0 about1 theMethod args0 below0 :=
  ⟨lists_1, trivial, launch0.admits_env _ _ _, launch0.least_env, fairChoices_fair.cas, fairChoices_fair.clock, w_frames, w_args, w_heap, w_applies, trivial, trivial, w_case⟩
end start1
theorem witness_1 : WitnessClaimed_1 := ⟨start1.p0, start1.e0, start1.about1, start1.theMethod, start1.args0, start1.below0, start1.atStart⟩
end Jvm.Pilot.@@N@@
