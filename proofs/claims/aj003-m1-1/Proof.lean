import JvmDerived
import JvmDerived.Pilot.@@N@@Statement
import JvmDerived.Pilot.@@N@@Code
set_option linter.unusedVariables false
set_option linter.unusedSimpArgs false
@@BLOCK:NumsL.lean.txt@@
namespace Jvm.Pilot.@@N@@
open Jvm Jvm.ClassFile Sem Op Lib Jvm.Free Jvm.Stand Jvm.LawKit Jvm.RoadKit Bundle Jvm.Pilot.@@N@@.Jvm.D

/-! the walk's own small kit: from the frame g over the state T the body comes to its end, with Φ -/
def own_Go (p : Program) (e : Env) (below : List Frame) (T : State) (g : JFrame) (Φ : Outcome → State → Prop) : Prop :=
  ∃ s₂ o, Steps p.tables e below (T.setTop g) s₂ ∧ s₂.status = .running ∧ Ended s₂ below o ∧ Φ o s₂
def own_Fin (s : State) (Q : Option Value → Heap → List Loc → Prop) (k j : Nat) (o : Outcome) (U' : State) : Prop :=
  ∃ v L, o = .returned v ∧ Q v U'.heap L ∧ FrameEnd s o U' L k j
theorem own_by {p : Program} {e : Env} {below : List Frame} {T T' : State} {g g' : JFrame} {Φ : Outcome → State → Prop}
    (h : ∀ t, Steps p.tables e below (T'.setTop g') t → Steps p.tables e below (T.setTop g) t) (k : own_Go p e below T' g' Φ) : own_Go p e below T g Φ := by
  obtain ⟨s₂, o, h1, h2⟩ := k
  exact ⟨s₂, o, h _ h1, h2⟩
theorem own_start {p : Program} {e : Env} {below : List Frame} {s T : State} {g g' : JFrame} {Q : Option Value → Heap → List Loc → Prop} {k j : Nat} (hg : g = g')
    (h : own_Go p e below T g' (own_Fin s Q k j)) : ∃ s₂ o, Steps p.tables e below (T.setTop g) s₂ ∧ s₂.status = .running ∧ Ended s₂ below o ∧ ∃ v L, o = .returned v ∧ Q v s₂.heap L ∧ FrameEnd s o s₂ L k j := by
  subst hg
  exact h
section OwnRet
variable {p : Program} {l : Launch} {e : Env} {R : Room} {s : State} {m : MethodId} {args : Array Value} {below : List Frame} {meth : Method} {c : Code} {T : State} {locs : List Loc} {cells slots : Nat} {Q : Option Value → Heap → List Loc → Prop} {k j pc : Nat} {Ls : Array Slot} {rest : List Value}
theorem own_retN {t : FieldType} (ht : t = .boolean ∨ t = .byte ∨ t = .char ∨ t = .short) (X : Stand p l e R s m args below meth c T locs cells slots) (hx : p.tables.exec = Jvm.exec) (hret : meth.sig.returnType = some t) (hlk : meth.locks = false) {z : Int32} (hd : decode c.code pc = .ok (.ireturn, 1))
    (hz : nar t z = z) (hk : cells ≤ k) (hj : slots ≤ j) (q : Q (some (.int z)) T.heap locs) : own_Go p e below T (mkF m pc Ls (.int z :: rest)) (own_Fin s Q k j) := by
  obtain ⟨fs, hr, hrun, hended, hW, hsame⟩ := X.leave (v := some (.int z)) (fun h => by rw [hret] at h; cases h)
  exact ⟨_, _, retN X hx hret ht hd (by rw [hz]; exact hr), hrun, hended, _, _, rfl, q, ⟨_, rfl⟩, hW, hsame.mono hk hj⟩
theorem own_retZ (X : Stand p l e R s m args below meth c T locs cells slots) (hx : p.tables.exec = Jvm.exec) (hret : meth.sig.returnType = some .boolean) (hlk : meth.locks = false) {z : Int32} (hd : decode c.code pc = .ok (.ireturn, 1))
    (hz : nar .boolean z = z) (hk : cells ≤ k) (hj : slots ≤ j) (q : Q (some (.int z)) T.heap locs) : own_Go p e below T (mkF m pc Ls (.int z :: rest)) (own_Fin s Q k j) := own_retN (Or.inl rfl) X hx hret hlk hd hz hk hj q
theorem own_retI (X : Stand p l e R s m args below meth c T locs cells slots) (hx : p.tables.exec = Jvm.exec) (hret : meth.sig.returnType = some .int) (hlk : meth.locks = false) {z : Int32} (hd : decode c.code pc = .ok (.ireturn, 1))
    (hk : cells ≤ k) (hj : slots ≤ j) (q : Q (some (.int z)) T.heap locs) : own_Go p e below T (mkF m pc Ls (.int z :: rest)) (own_Fin s Q k j) := by
  obtain ⟨fs, hr, hrun, hended, hW, hsame⟩ := X.leave (v := some (.int z)) (fun h => by rw [hret] at h; cases h)
  exact ⟨_, _, retOut X hx hret rfl (Or.inl ⟨rfl, Or.inl rfl, z, rfl⟩) hd hr, hrun, hended, _, _, rfl, q, ⟨_, rfl⟩, hW, hsame.mono hk hj⟩
theorem own_retJ (X : Stand p l e R s m args below meth c T locs cells slots) (hx : p.tables.exec = Jvm.exec) (hret : meth.sig.returnType = some .long) (hlk : meth.locks = false) {z : Int64} (hd : decode c.code pc = .ok (.lreturn, 1))
    (hk : cells ≤ k) (hj : slots ≤ j) (q : Q (some (.long z)) T.heap locs) : own_Go p e below T (mkF m pc Ls (.long z :: rest)) (own_Fin s Q k j) := by
  obtain ⟨fs, hr, hrun, hended, hW, hsame⟩ := X.leave (v := some (.long z)) (fun h => by rw [hret] at h; cases h)
  exact ⟨_, _, retOut X hx hret rfl (Or.inr (Or.inl ⟨rfl, rfl, z, rfl⟩)) hd hr, hrun, hended, _, _, rfl, q, ⟨_, rfl⟩, hW, hsame.mono hk hj⟩
theorem own_retA {t : FieldType} (X : Stand p l e R s m args below meth c T locs cells slots) (hx : p.tables.exec = Jvm.exec) (hret : meth.sig.returnType = some t) (hlk : meth.locks = false) {z : Value} (hd : decode c.code pc = .ok (.areturn, 1))
    (ht : t.isReference = true) (hz : z.isRef = true) (hn : narrow t z = z) (hk : cells ≤ k) (hj : slots ≤ j) (q : Q (some z) T.heap locs) : own_Go p e below T (mkF m pc Ls (z :: rest)) (own_Fin s Q k j) := by
  obtain ⟨fs, hr, hrun, hended, hW, hsame⟩ := X.leave (v := some z) (fun h => by rw [hret] at h; cases h)
  exact ⟨_, _, retOut X hx hret hn (Or.inr (Or.inr (Or.inr (Or.inr ⟨rfl, ht, hz⟩)))) hd hr, hrun, hended, _, _, rfl, q, ⟨_, rfl⟩, hW, hsame.mono hk hj⟩
theorem own_retV (X : Stand p l e R s m args below meth c T locs cells slots) (hx : p.tables.exec = Jvm.exec) (hret : meth.sig.returnType = none) (hlk : meth.locks = false) (hd : decode c.code pc = .ok (.return_, 1))
    (hk : cells ≤ k) (hj : slots ≤ j) (q : Q none T.heap locs) : own_Go p e below T (mkF m pc Ls []) (own_Fin s Q k j) := by
  obtain ⟨fs, hr, hrun, hended, hW, hsame⟩ := X.leave (v := none) (fun _ => rfl)
  exact ⟨_, _, X.returnOut hx hret hd hr, hrun, hended, _, _, rfl, q, ⟨_, rfl⟩, hW, hsame.mono hk hj⟩
theorem own_lrem_eq (x y : Int64) : x - x / y * y = x % y := Int64.toInt_inj.mp (by rw [Jvm.Kit.i64_rem, Int64.toInt_mod])
theorem own_lrem {g : JFrame} {target : State} (X : Stand p l e R s m args below meth c T locs cells slots) (hx : p.tables.exec = Jvm.exec) (hg : g.method = m) {x y : Int64} {rest : List Value} (hd : decode c.code g.pc = .ok (.lrem, 1)) (hs : g.stack = .long y :: .long x :: rest) (hy : y ≠ 0)
    (hr : Steps p.tables e below (T.setTop { g with pc := g.pc + 1, stack := .long (x % y) :: rest }) target) : Steps p.tables e below (T.setTop g) target :=
  XS.lrem X.here hx hg hd hs hy (by rw [own_lrem_eq x y]; exact hr)
end OwnRet
/-! an array: its length, and what each place holds -/
abbrev own_At (j : Int32) (k : Nat) : Prop := ¬ j < 0 ∧ j.toNatClampNeg = k
def own_upd (f : Nat → Value) (k : Nat) (v : Value) : Nat → Value := fun i => if i = k then v else f i
theorem own_upd_hit {f : Nat → Value} {k i : Nat} {v : Value} (h : i = k) : own_upd f k v i = v := if_pos h
theorem own_upd_miss {f : Nat → Value} {k i : Nat} {v : Value} (h : ¬ i = k) : own_upd f k v i = f i := if_neg h
def own_Av (Z : State) (h : Heap) (a : Addr) (ty : FieldType) (n : Nat) (f : Nat → Value) : Prop := ∃ c : Cell, Arr Z h a c ty ∧ c.slots.size = n ∧ ∀ i, i < n → c.slots[i]? = some (f i)
section OwnArr
variable {Z : State} {h h' : Heap} {a b : Addr} {ty : FieldType} {n k sl : Nat} {f : Nat → Value} {v : Value} {ws : List Addr}
theorem own_Av.ext (F : own_Av Z h a ty n f) (E : Ext h h') : own_Av Z h' a ty n f := by obtain ⟨c, A, r⟩ := F; exact ⟨c, A.ext E, r⟩
theorem own_Av.other (F : own_Av Z h b ty n f) (W : Wr h h' a sl v) (q : b ≠ a) : own_Av Z h' b ty n f := by obtain ⟨c, A, r⟩ := F; exact ⟨c, A.other W q, r⟩
theorem own_Av.keep (F : own_Av Z h a ty n f) (K : Keep h h' ws) (q : a ∉ ws) : own_Av Z h' a ty n f := by obtain ⟨c, A, r⟩ := F; exact ⟨c, ⟨K.2.1 a c A.1 q, A.2⟩, r⟩
theorem own_Av.lt (F : own_Av Z h a ty n f) : a < h.size := by obtain ⟨c, A, -⟩ := F; exact A.lt
theorem own_Av.ofnew {z : Int32} {kc : ClassId} {d : Value} (A : Arr Z h a (newA kc ty z) ty) (hn : z.toNatClampNeg = n) (hd : defaultValue ty = d) : own_Av Z h a ty n (fun _ => d) := by
  subst hn hd
  exact ⟨_, A, sz_new _ _ _, fun i hi => by simp [newA, hi]⟩
theorem own_Av.set (F : own_Av Z h a ty n f) (W : Wr h h' a k v) : own_Av Z h' a ty n (own_upd f k v) := by
  obtain ⟨c, A, S, H⟩ := F
  refine ⟨_, A.same W, by rw [sz_set]; exact S, fun i hi => ?_⟩
  by_cases q : i = k
  · subst q
    rw [own_upd_hit rfl]
    simp [Cell.setSlot, S, hi]
  · rw [own_upd_miss q, ← H i hi]
    exact Array.getElem?_setIfInBounds_ne fun u => q u.symm
theorem own_Av.cong {g : Nat → Value} {n' : Nat} (F : own_Av Z h a ty n f) (hn : n = n') (q : ∀ i, i < n → f i = g i) : own_Av Z h a ty n' g := by
  subst hn
  obtain ⟨c, A, S, H⟩ := F
  exact ⟨c, A, S, fun i hi => by rw [← q i hi]; exact H i hi⟩
theorem own_in {j : Int32} (hj : own_At j k) (hk : k < n) {c : Cell} (S : c.slots.size = n) : ¬ (j < 0 ∨ c.slots.size ≤ j.toNatClampNeg) := by
  intro q
  rcases q with q | q
  · exact hj.1 q
  · rw [hj.2, S] at q; omega
variable {p : Program} {l : Launch} {e : Env} {R : Room} {s : State} {m : MethodId} {args : Array Value} {below : List Frame} {meth : Method} {c : Code} {T : State} {locs : List Loc} {cells slots : Nat}
theorem own_ldI (X : Stand p l e R s m args below meth c T locs cells slots) (hx : p.tables.exec = Jvm.exec) (hZ : Z.Warmed39 s.vm) (eT : T.heap = h) (F : own_Av Z h a .int n f) {j : Int32} (hj : own_At j k) (hk : k < n) (hv : f k = v)
    {g : JFrame} (hg : g.method = m) {rest : List Value} (hs : g.stack = .int j :: .ref a :: rest) (hd : decode c.code g.pc = .ok (.iaload, 1)) (t : State)
    (hr : Steps p.tables e below (T.setTop { g with pc := g.pc + 1, stack := v :: rest }) t) : Steps p.tables e below (T.setTop g) t := by
  obtain ⟨cl, A, S, H⟩ := F
  exact X.iaload hx (by rw [eT]; exact A.1) (State.isArrayOf_alike hZ.alike A.2.1) A.2.2 (own_in hj hk S) (by rw [hj.2, H k hk, hv]) hg hs hd t hr
theorem own_ldJ (X : Stand p l e R s m args below meth c T locs cells slots) (hx : p.tables.exec = Jvm.exec) (hZ : Z.Warmed39 s.vm) (eT : T.heap = h) (F : own_Av Z h a .long n f) {j : Int32} (hj : own_At j k) (hk : k < n) (hv : f k = v)
    {g : JFrame} (hg : g.method = m) {rest : List Value} (hs : g.stack = .int j :: .ref a :: rest) (hd : decode c.code g.pc = .ok (.laload, 1)) (t : State)
    (hr : Steps p.tables e below (T.setTop { g with pc := g.pc + 1, stack := v :: rest }) t) : Steps p.tables e below (T.setTop g) t := by
  obtain ⟨cl, A, S, H⟩ := F
  exact X.laload hx (by rw [eT]; exact A.1) (State.isArrayOf_alike hZ.alike A.2.1) A.2.2 (own_in hj hk S) (by rw [hj.2, H k hk, hv]) hg hs hd t hr
theorem own_ldS (X : Stand p l e R s m args below meth c T locs cells slots) (hx : p.tables.exec = Jvm.exec) (hZ : Z.Warmed39 s.vm) (eT : T.heap = h) (F : own_Av Z h a .short n f) {j : Int32} (hj : own_At j k) (hk : k < n) (hv : f k = v)
    {g : JFrame} (hg : g.method = m) {rest : List Value} (hs : g.stack = .int j :: .ref a :: rest) (hd : decode c.code g.pc = .ok (.saload, 1)) (t : State)
    (hr : Steps p.tables e below (T.setTop { g with pc := g.pc + 1, stack := v :: rest }) t) : Steps p.tables e below (T.setTop g) t := by
  obtain ⟨cl, A, S, H⟩ := F
  exact X.saload hx (by rw [eT]; exact A.1) (State.isArrayOf_alike hZ.alike A.2.1) A.2.2 (own_in hj hk S) (by rw [hj.2, H k hk, hv]) hg hs hd t hr
theorem own_ldC (X : Stand p l e R s m args below meth c T locs cells slots) (hx : p.tables.exec = Jvm.exec) (hZ : Z.Warmed39 s.vm) (eT : T.heap = h) (F : own_Av Z h a .char n f) {j : Int32} (hj : own_At j k) (hk : k < n) (hv : f k = v)
    {g : JFrame} (hg : g.method = m) {rest : List Value} (hs : g.stack = .int j :: .ref a :: rest) (hd : decode c.code g.pc = .ok (.caload, 1)) (t : State)
    (hr : Steps p.tables e below (T.setTop { g with pc := g.pc + 1, stack := v :: rest }) t) : Steps p.tables e below (T.setTop g) t := by
  obtain ⟨cl, A, S, H⟩ := F
  exact X.caload hx (by rw [eT]; exact A.1) (State.isArrayOf_alike hZ.alike A.2.1) A.2.2 (own_in hj hk S) (by rw [hj.2, H k hk, hv]) hg hs hd t hr
theorem own_ldB (X : Stand p l e R s m args below meth c T locs cells slots) (hx : p.tables.exec = Jvm.exec) (hZ : Z.Warmed39 s.vm) (eT : T.heap = h) (F : own_Av Z h a .byte n f) {j : Int32} (hj : own_At j k) (hk : k < n) (hv : f k = v)
    {g : JFrame} (hg : g.method = m) {rest : List Value} (hs : g.stack = .int j :: .ref a :: rest) (hd : decode c.code g.pc = .ok (.baload, 1)) (t : State)
    (hr : Steps p.tables e below (T.setTop { g with pc := g.pc + 1, stack := v :: rest }) t) : Steps p.tables e below (T.setTop g) t := by
  obtain ⟨cl, A, S, H⟩ := F
  exact X.baloadBytes hx (by rw [eT]; exact A.1) (State.isArrayOf_alike hZ.alike A.2.1) A.2.2 (own_in hj hk S) (by rw [hj.2, H k hk, hv]) hg hs hd t hr
theorem own_ldZ (X : Stand p l e R s m args below meth c T locs cells slots) (hx : p.tables.exec = Jvm.exec) (hZ : Z.Warmed39 s.vm) (eT : T.heap = h) (F : own_Av Z h a .boolean n f) {j : Int32} (hj : own_At j k) (hk : k < n) (hv : f k = v)
    {g : JFrame} (hg : g.method = m) {rest : List Value} (hs : g.stack = .int j :: .ref a :: rest) (hd : decode c.code g.pc = .ok (.baload, 1)) (t : State)
    (hr : Steps p.tables e below (T.setTop { g with pc := g.pc + 1, stack := v :: rest }) t) : Steps p.tables e below (T.setTop g) t := by
  obtain ⟨cl, A, S, H⟩ := F
  exact X.baloadBooleans hx (by rw [eT]; exact A.1) (State.isArrayOf_alike hZ.alike A.2.1) A.2.2 (own_in hj hk S) (by rw [hj.2, H k hk, hv]) hg hs hd t hr
theorem own_len (X : Stand p l e R s m args below meth c T locs cells slots) (hx : p.tables.exec = Jvm.exec) (hZ : Z.Warmed39 s.vm) (eT : T.heap = h) (F : own_Av Z h a ty n f) {z : Int32} (hz : n.toInt32 = z)
    {g : JFrame} (hg : g.method = m) {rest : List Value} (hs : g.stack = .ref a :: rest) (hd : decode c.code g.pc = .ok (.arraylength, 1)) (t : State)
    (hr : Steps p.tables e below (T.setTop { g with pc := g.pc + 1, stack := .int z :: rest }) t) : Steps p.tables e below (T.setTop g) t := by
  obtain ⟨cl, A, S, H⟩ := F
  exact X.arraylength hx (by rw [eT]; exact A.1) (State.isArrayOf_alike hZ.alike A.2.1) hg hs hd t (by rw [S, hz]; exact hr)
theorem own_stI (X : Stand p l e R s m args below meth c T locs cells slots) (hx : p.tables.exec = Jvm.exec) (hZ : Z.Warmed39 s.vm) (eT : T.heap = h) (F : own_Av Z h a .int n f) {j x : Int32} (hj : own_At j k) (hk : k < n)
    {g : JFrame} (hg : g.method = m) {rest : List Value} (hs : g.stack = .int x :: .int j :: .ref a :: rest) (hd : decode c.code g.pc = .ok (.iastore, 1)) :
    ∃ T' h', Stand p l e R s m args below meth c T' (locs ++ [⟨a, k⟩]) cells slots ∧ T'.heap = h' ∧ Wr h h' a k (.int x) ∧ own_Av Z h' a .int n (own_upd f k (.int x)) ∧ ∀ target, Steps p.tables e below (T'.setTop { g with pc := g.pc + 1, stack := rest }) target → Steps p.tables e below (T.setTop g) target := by
  obtain ⟨cl, A, S, H⟩ := id F
  obtain ⟨T', h', X', e', W', st⟩ := stI X hx hZ eT A (own_in hj hk S) hg hs hd
  rw [hj.2] at X' W'
  exact ⟨T', h', X', e', W', F.set W', st⟩
theorem own_stJ (X : Stand p l e R s m args below meth c T locs cells slots) (hx : p.tables.exec = Jvm.exec) (hZ : Z.Warmed39 s.vm) (eT : T.heap = h) (F : own_Av Z h a .long n f) {j : Int32} {x : Int64} (hj : own_At j k) (hk : k < n)
    {g : JFrame} (hg : g.method = m) {rest : List Value} (hs : g.stack = .long x :: .int j :: .ref a :: rest) (hd : decode c.code g.pc = .ok (.lastore, 1)) :
    ∃ T' h', Stand p l e R s m args below meth c T' (locs ++ [⟨a, k⟩]) cells slots ∧ T'.heap = h' ∧ Wr h h' a k (.long x) ∧ own_Av Z h' a .long n (own_upd f k (.long x)) ∧ ∀ target, Steps p.tables e below (T'.setTop { g with pc := g.pc + 1, stack := rest }) target → Steps p.tables e below (T.setTop g) target := by
  obtain ⟨cl, A, S, H⟩ := id F
  obtain ⟨T', h', X', e', W', st⟩ := stJ X hx hZ eT A (own_in hj hk S) hg hs hd
  rw [hj.2] at X' W'
  exact ⟨T', h', X', e', W', F.set W', st⟩
theorem own_stB (X : Stand p l e R s m args below meth c T locs cells slots) (hx : p.tables.exec = Jvm.exec) (hZ : Z.Warmed39 s.vm) (eT : T.heap = h) (F : own_Av Z h a .byte n f) {j x : Int32} (hj : own_At j k) (hk : k < n)
    {g : JFrame} (hg : g.method = m) {rest : List Value} (hs : g.stack = .int x :: .int j :: .ref a :: rest) (hd : decode c.code g.pc = .ok (.bastore, 1)) :
    ∃ T' h', Stand p l e R s m args below meth c T' (locs ++ [⟨a, k⟩]) cells slots ∧ T'.heap = h' ∧ Wr h h' a k (.int x.toInt8.toInt32) ∧ own_Av Z h' a .byte n (own_upd f k (.int x.toInt8.toInt32)) ∧ ∀ target, Steps p.tables e below (T'.setTop { g with pc := g.pc + 1, stack := rest }) target → Steps p.tables e below (T.setTop g) target := by
  obtain ⟨cl, A, S, H⟩ := id F
  obtain ⟨T', h', X', e', W', st⟩ := stB X hx hZ eT A (own_in hj hk S) hg hs hd
  rw [hj.2] at X' W'
  exact ⟨T', h', X', e', W', F.set W', st⟩
theorem own_stZ (X : Stand p l e R s m args below meth c T locs cells slots) (hx : p.tables.exec = Jvm.exec) (hZ : Z.Warmed39 s.vm) (eT : T.heap = h) (F : own_Av Z h a .boolean n f) {j x : Int32} (hj : own_At j k) (hk : k < n)
    {g : JFrame} (hg : g.method = m) {rest : List Value} (hs : g.stack = .int x :: .int j :: .ref a :: rest) (hd : decode c.code g.pc = .ok (.bastore, 1)) :
    ∃ T' h', Stand p l e R s m args below meth c T' (locs ++ [⟨a, k⟩]) cells slots ∧ T'.heap = h' ∧ Wr h h' a k (.int (x &&& 1)) ∧ own_Av Z h' a .boolean n (own_upd f k (.int (x &&& 1))) ∧ ∀ target, Steps p.tables e below (T'.setTop { g with pc := g.pc + 1, stack := rest }) target → Steps p.tables e below (T.setTop g) target := by
  obtain ⟨cl, A, S, H⟩ := id F
  obtain ⟨T', h', X', e', W', st⟩ := stZ X hx hZ eT A (own_in hj hk S) hg hs hd
  rw [hj.2] at X' W'
  exact ⟨T', h', X', e', W', F.set W', st⟩
theorem own_stC (X : Stand p l e R s m args below meth c T locs cells slots) (hx : p.tables.exec = Jvm.exec) (hZ : Z.Warmed39 s.vm) (eT : T.heap = h) (F : own_Av Z h a .char n f) {j x : Int32} (hj : own_At j k) (hk : k < n)
    {g : JFrame} (hg : g.method = m) {rest : List Value} (hs : g.stack = .int x :: .int j :: .ref a :: rest) (hd : decode c.code g.pc = .ok (.castore, 1)) :
    ∃ T' h', Stand p l e R s m args below meth c T' (locs ++ [⟨a, k⟩]) cells slots ∧ T'.heap = h' ∧ Wr h h' a k (.int (nar .char x)) ∧ own_Av Z h' a .char n (own_upd f k (.int (nar .char x))) ∧ ∀ target, Steps p.tables e below (T'.setTop { g with pc := g.pc + 1, stack := rest }) target → Steps p.tables e below (T.setTop g) target := by
  obtain ⟨cl, A, S, H⟩ := id F
  obtain ⟨T', h', X', e', W', st⟩ := stC X hx hZ eT A (own_in hj hk S) hg hs hd
  rw [hj.2] at X' W'
  exact ⟨T', h', X', e', W', F.set W', st⟩
theorem own_stS (X : Stand p l e R s m args below meth c T locs cells slots) (hx : p.tables.exec = Jvm.exec) (hZ : Z.Warmed39 s.vm) (eT : T.heap = h) (F : own_Av Z h a .short n f) {j x : Int32} (hj : own_At j k) (hk : k < n)
    {g : JFrame} (hg : g.method = m) {rest : List Value} (hs : g.stack = .int x :: .int j :: .ref a :: rest) (hd : decode c.code g.pc = .ok (.sastore, 1)) :
    ∃ T' h', Stand p l e R s m args below meth c T' (locs ++ [⟨a, k⟩]) cells slots ∧ T'.heap = h' ∧ Wr h h' a k (.int (nar .short x)) ∧ own_Av Z h' a .short n (own_upd f k (.int (nar .short x))) ∧ ∀ target, Steps p.tables e below (T'.setTop { g with pc := g.pc + 1, stack := rest }) target → Steps p.tables e below (T.setTop g) target := by
  obtain ⟨cl, A, S, H⟩ := id F
  obtain ⟨T', h', X', e', W', st⟩ := stS X hx hZ eT A (own_in hj hk S) hg hs hd
  rw [hj.2] at X' W'
  exact ⟨T', h', X', e', W', F.set W', st⟩
end OwnArr
theorem own_selP {Z s : State} {a0 args : Array Value} {y : MethodName} {n : Nat} (hZ : Z.Warmed39 s.vm) (wi : (Cond.instantiable y.cls n).before a0 Z = true) (wp : (Cond.privateMethod y).before a0 Z = true) (wm : (Cond.instanceMethod y).before a0 Z = true)
    (hy : y.cls ≠ "java/lang/invoke/MethodHandle" ∧ y.cls ≠ "java/lang/invoke/VarHandle") : (Cond.selects y.cls y y).before args s = true := by
  have w : (Cond.instantiable y.cls n).before args s = true := mvT hZ wi
  obtain ⟨c, k, h1, h2, -, h4, -⟩ := Cond.instantiable_spec w
  exact Jvm.Stand.selects_self_of_private h1 h2 (Bool.or_eq_false_iff.mp h4).1 (Cond.privateMethod_at (mvP hZ wp (args := args))) (mvT hZ wm) hy
theorem own_narZ {x : Int32} (h : x &&& 1 = x) : narrow .boolean (.int x) = .int x := by
  show Value.int (x &&& 1) = _
  rw [h]
theorem own_fitZ {x : Int32} (h : x &&& 1 = x) : fits .boolean (.int x) = true := by
  have q := fits_nar_bool x
  rw [show nar .boolean x = x from h] at q
  exact q
theorem own_mono {p : Program} {e : Env} {below : List Frame} {s T : State} {g : JFrame} {Q Q' : Option Value → Heap → List Loc → Prop} {k j : Nat} (h : ∀ v h L, Q v h L → Q' v h L) (G : own_Go p e below T g (own_Fin s Q k j)) : own_Go p e below T g (own_Fin s Q' k j) := by
  obtain ⟨s₂, o, h1, h2, h3, v, L, h4, h5, h6⟩ := G
  exact ⟨s₂, o, h1, h2, h3, v, L, h4, h _ _ _ h5, h6⟩
theorem own_ofs (i : Nat) : Int32.ofNat i + (1 : Int32) = Int32.ofNat (i + 1) := (Int32.ofNat_add i 1).symm
theorem own_toI {i : Nat} (h : i < 2147483648) : (Int32.ofNat i).toInt = i := Int32.toInt_ofNat_small h
theorem own_ix {i : Nat} (h : i < 2147483648) : own_At (Int32.ofNat i) i := by
  have e := own_toI h
  refine ⟨?_, ?_⟩
  · rw [Int32.lt_iff_toInt_lt, e, show (0 : Int32).toInt = 0 from by decide]; omega
  · simp only [Int32.toNatClampNeg, e]; omega
theorem own_oflt {i n : Nat} (hi : i < 2147483648) (hn : n < 2147483648) : Int32.ofNat i < Int32.ofNat n ↔ i < n := by
  rw [Int32.lt_iff_toInt_lt, own_toI hi, own_toI hn]; omega
theorem own_ofeq {i n : Nat} (hi : i < 2147483648) (hn : n < 2147483648) : Int32.ofNat i = Int32.ofNat n ↔ i = n := by
  rw [← Int32.toInt_inj, own_toI hi, own_toI hn]; omega
def own_fl (F : Nat → Int32) (i : Nat) (g : Nat → Value) (j : Nat) : Value := if j < i then .int (F j) else g j
theorem own_fl_up (F : Nat → Int32) (i : Nat) (g : Nat → Value) : ∀ j, own_upd (own_fl F i g) i (.int (F i)) j = own_fl F (i + 1) g j := fun j => by
  unfold own_fl
  by_cases q : j = i
  · subst q; rw [own_upd_hit rfl, if_pos (by omega)]
  · rw [own_upd_miss q]
    by_cases q2 : j < i
    · rw [if_pos q2, if_pos (by omega)]
    · rw [if_neg q2, if_neg (by omega)]
theorem own_fl0 (F : Nat → Int32) (g : Nat → Value) : ∀ j, g j = own_fl F 0 g j := fun j => by unfold own_fl; rw [if_neg (by omega)]
theorem own_fl_in {F : Nat → Int32} {i j : Nat} {g : Nat → Value} (h : j < i) : own_fl F i g j = .int (F j) := if_pos h
theorem own_fl_out {F : Nat → Int32} {i j : Nat} {g : Nat → Value} (h : ¬ j < i) : own_fl F i g j = g j := if_neg h

/-! single steps over own_Go -/
theorem own_s_iadd {p : Program} {e : Env} {below : List Frame} {T : State} {m : MethodId} {c : Code} {Φ : Outcome → State → Prop} {pc : Nat} {L : Array Slot} {S : List Value} (h : At T m c below) (hx : p.tables.exec = Jvm.exec) {x y : Int32} (hd : decode c.code pc = .ok (.iadd, 1)) (G : own_Go p e below T (mkF m (pc + 1) L (.int (x + y) :: S)) Φ) : own_Go p e below T (mkF m pc L (.int y :: .int x :: S)) Φ := own_by (fun t k => XS.iadd h hx rfl hd rfl k) G
theorem own_s_isub {p : Program} {e : Env} {below : List Frame} {T : State} {m : MethodId} {c : Code} {Φ : Outcome → State → Prop} {pc : Nat} {L : Array Slot} {S : List Value} (h : At T m c below) (hx : p.tables.exec = Jvm.exec) {x y : Int32} (hd : decode c.code pc = .ok (.isub, 1)) (G : own_Go p e below T (mkF m (pc + 1) L (.int (x - y) :: S)) Φ) : own_Go p e below T (mkF m pc L (.int y :: .int x :: S)) Φ := own_by (fun t k => XS.isub h hx rfl hd rfl k) G
theorem own_s_imul {p : Program} {e : Env} {below : List Frame} {T : State} {m : MethodId} {c : Code} {Φ : Outcome → State → Prop} {pc : Nat} {L : Array Slot} {S : List Value} (h : At T m c below) (hx : p.tables.exec = Jvm.exec) {x y : Int32} (hd : decode c.code pc = .ok (.imul, 1)) (G : own_Go p e below T (mkF m (pc + 1) L (.int (x * y) :: S)) Φ) : own_Go p e below T (mkF m pc L (.int y :: .int x :: S)) Φ := own_by (fun t k => XS.imul h hx rfl hd rfl k) G
theorem own_s_iand {p : Program} {e : Env} {below : List Frame} {T : State} {m : MethodId} {c : Code} {Φ : Outcome → State → Prop} {pc : Nat} {L : Array Slot} {S : List Value} (h : At T m c below) (hx : p.tables.exec = Jvm.exec) {x y : Int32} (hd : decode c.code pc = .ok (.iand, 1)) (G : own_Go p e below T (mkF m (pc + 1) L (.int (x &&& y) :: S)) Φ) : own_Go p e below T (mkF m pc L (.int y :: .int x :: S)) Φ := own_by (fun t k => XS.iand h hx rfl hd rfl k) G
theorem own_s_ior {p : Program} {e : Env} {below : List Frame} {T : State} {m : MethodId} {c : Code} {Φ : Outcome → State → Prop} {pc : Nat} {L : Array Slot} {S : List Value} (h : At T m c below) (hx : p.tables.exec = Jvm.exec) {x y : Int32} (hd : decode c.code pc = .ok (.ior, 1)) (G : own_Go p e below T (mkF m (pc + 1) L (.int (x ||| y) :: S)) Φ) : own_Go p e below T (mkF m pc L (.int y :: .int x :: S)) Φ := own_by (fun t k => XS.ior h hx rfl hd rfl k) G
theorem own_s_ixor {p : Program} {e : Env} {below : List Frame} {T : State} {m : MethodId} {c : Code} {Φ : Outcome → State → Prop} {pc : Nat} {L : Array Slot} {S : List Value} (h : At T m c below) (hx : p.tables.exec = Jvm.exec) {x y : Int32} (hd : decode c.code pc = .ok (.ixor, 1)) (G : own_Go p e below T (mkF m (pc + 1) L (.int (x ^^^ y) :: S)) Φ) : own_Go p e below T (mkF m pc L (.int y :: .int x :: S)) Φ := own_by (fun t k => XS.ixor h hx rfl hd rfl k) G
theorem own_s_ladd {p : Program} {e : Env} {below : List Frame} {T : State} {m : MethodId} {c : Code} {Φ : Outcome → State → Prop} {pc : Nat} {L : Array Slot} {S : List Value} (h : At T m c below) (hx : p.tables.exec = Jvm.exec) {x y : Int64} (hd : decode c.code pc = .ok (.ladd, 1)) (G : own_Go p e below T (mkF m (pc + 1) L (.long (x + y) :: S)) Φ) : own_Go p e below T (mkF m pc L (.long y :: .long x :: S)) Φ := own_by (fun t k => XS.ladd h hx rfl hd rfl k) G
theorem own_s_lsub {p : Program} {e : Env} {below : List Frame} {T : State} {m : MethodId} {c : Code} {Φ : Outcome → State → Prop} {pc : Nat} {L : Array Slot} {S : List Value} (h : At T m c below) (hx : p.tables.exec = Jvm.exec) {x y : Int64} (hd : decode c.code pc = .ok (.lsub, 1)) (G : own_Go p e below T (mkF m (pc + 1) L (.long (x - y) :: S)) Φ) : own_Go p e below T (mkF m pc L (.long y :: .long x :: S)) Φ := own_by (fun t k => XS.lsub h hx rfl hd rfl k) G
theorem own_s_lmul {p : Program} {e : Env} {below : List Frame} {T : State} {m : MethodId} {c : Code} {Φ : Outcome → State → Prop} {pc : Nat} {L : Array Slot} {S : List Value} (h : At T m c below) (hx : p.tables.exec = Jvm.exec) {x y : Int64} (hd : decode c.code pc = .ok (.lmul, 1)) (G : own_Go p e below T (mkF m (pc + 1) L (.long (x * y) :: S)) Φ) : own_Go p e below T (mkF m pc L (.long y :: .long x :: S)) Φ := own_by (fun t k => XS.lmul h hx rfl hd rfl k) G
theorem own_s_land {p : Program} {e : Env} {below : List Frame} {T : State} {m : MethodId} {c : Code} {Φ : Outcome → State → Prop} {pc : Nat} {L : Array Slot} {S : List Value} (h : At T m c below) (hx : p.tables.exec = Jvm.exec) {x y : Int64} (hd : decode c.code pc = .ok (.land, 1)) (G : own_Go p e below T (mkF m (pc + 1) L (.long (x &&& y) :: S)) Φ) : own_Go p e below T (mkF m pc L (.long y :: .long x :: S)) Φ := own_by (fun t k => XS.land h hx rfl hd rfl k) G
theorem own_s_lor {p : Program} {e : Env} {below : List Frame} {T : State} {m : MethodId} {c : Code} {Φ : Outcome → State → Prop} {pc : Nat} {L : Array Slot} {S : List Value} (h : At T m c below) (hx : p.tables.exec = Jvm.exec) {x y : Int64} (hd : decode c.code pc = .ok (.lor, 1)) (G : own_Go p e below T (mkF m (pc + 1) L (.long (x ||| y) :: S)) Φ) : own_Go p e below T (mkF m pc L (.long y :: .long x :: S)) Φ := own_by (fun t k => XS.lor h hx rfl hd rfl k) G
theorem own_s_lxor {p : Program} {e : Env} {below : List Frame} {T : State} {m : MethodId} {c : Code} {Φ : Outcome → State → Prop} {pc : Nat} {L : Array Slot} {S : List Value} (h : At T m c below) (hx : p.tables.exec = Jvm.exec) {x y : Int64} (hd : decode c.code pc = .ok (.lxor, 1)) (G : own_Go p e below T (mkF m (pc + 1) L (.long (x ^^^ y) :: S)) Φ) : own_Go p e below T (mkF m pc L (.long y :: .long x :: S)) Φ := own_by (fun t k => XS.lxor h hx rfl hd rfl k) G
theorem own_s_ishl {p : Program} {e : Env} {below : List Frame} {T : State} {m : MethodId} {c : Code} {Φ : Outcome → State → Prop} {pc : Nat} {L : Array Slot} {S : List Value} (h : At T m c below) (hx : p.tables.exec = Jvm.exec) {x y : Int32} (hd : decode c.code pc = .ok (.ishl, 1)) (G : own_Go p e below T (mkF m (pc + 1) L (.int (x <<< (y &&& 31)) :: S)) Φ) : own_Go p e below T (mkF m pc L (.int y :: .int x :: S)) Φ := own_by (fun t k => XS.ishl h hx rfl hd rfl k) G
theorem own_s_ishr {p : Program} {e : Env} {below : List Frame} {T : State} {m : MethodId} {c : Code} {Φ : Outcome → State → Prop} {pc : Nat} {L : Array Slot} {S : List Value} (h : At T m c below) (hx : p.tables.exec = Jvm.exec) {x y : Int32} (hd : decode c.code pc = .ok (.ishr, 1)) (G : own_Go p e below T (mkF m (pc + 1) L (.int (x >>> (y &&& 31)) :: S)) Φ) : own_Go p e below T (mkF m pc L (.int y :: .int x :: S)) Φ := own_by (fun t k => XS.ishr h hx rfl hd rfl k) G
theorem own_s_iushr {p : Program} {e : Env} {below : List Frame} {T : State} {m : MethodId} {c : Code} {Φ : Outcome → State → Prop} {pc : Nat} {L : Array Slot} {S : List Value} (h : At T m c below) (hx : p.tables.exec = Jvm.exec) {x y : Int32} (hd : decode c.code pc = .ok (.iushr, 1)) (G : own_Go p e below T (mkF m (pc + 1) L (.int ((x.toUInt32 >>> (y &&& 31).toUInt32).toInt32) :: S)) Φ) : own_Go p e below T (mkF m pc L (.int y :: .int x :: S)) Φ := own_by (fun t k => XS.iushr h hx rfl hd rfl k) G
theorem own_s_lshl {p : Program} {e : Env} {below : List Frame} {T : State} {m : MethodId} {c : Code} {Φ : Outcome → State → Prop} {pc : Nat} {L : Array Slot} {S : List Value} (h : At T m c below) (hx : p.tables.exec = Jvm.exec) {x : Int64} {y : Int32} (hd : decode c.code pc = .ok (.lshl, 1)) (G : own_Go p e below T (mkF m (pc + 1) L (.long (x <<< (y &&& 0x3f).toInt64) :: S)) Φ) : own_Go p e below T (mkF m pc L (.int y :: .long x :: S)) Φ := own_by (fun t k => XS.lshl h hx rfl hd rfl k) G
theorem own_s_lshr {p : Program} {e : Env} {below : List Frame} {T : State} {m : MethodId} {c : Code} {Φ : Outcome → State → Prop} {pc : Nat} {L : Array Slot} {S : List Value} (h : At T m c below) (hx : p.tables.exec = Jvm.exec) {x : Int64} {y : Int32} (hd : decode c.code pc = .ok (.lshr, 1)) (G : own_Go p e below T (mkF m (pc + 1) L (.long (x >>> (y &&& 0x3f).toInt64) :: S)) Φ) : own_Go p e below T (mkF m pc L (.int y :: .long x :: S)) Φ := own_by (fun t k => XS.lshr h hx rfl hd rfl k) G
theorem own_s_lushr {p : Program} {e : Env} {below : List Frame} {T : State} {m : MethodId} {c : Code} {Φ : Outcome → State → Prop} {pc : Nat} {L : Array Slot} {S : List Value} (h : At T m c below) (hx : p.tables.exec = Jvm.exec) {x : Int64} {y : Int32} (hd : decode c.code pc = .ok (.lushr, 1)) (G : own_Go p e below T (mkF m (pc + 1) L (.long ((x.toUInt64 >>> (y &&& 0x3f).toInt64.toUInt64).toInt64) :: S)) Φ) : own_Go p e below T (mkF m pc L (.int y :: .long x :: S)) Φ := own_by (fun t k => XS.lushr h hx rfl hd rfl k) G
theorem own_s_ineg {p : Program} {e : Env} {below : List Frame} {T : State} {m : MethodId} {c : Code} {Φ : Outcome → State → Prop} {pc : Nat} {L : Array Slot} {S : List Value} (h : At T m c below) (hx : p.tables.exec = Jvm.exec) {x : Int32} (hd : decode c.code pc = .ok (.ineg, 1)) (G : own_Go p e below T (mkF m (pc + 1) L (.int (-x) :: S)) Φ) : own_Go p e below T (mkF m pc L (.int x :: S)) Φ := own_by (fun t k => XS.ineg h hx rfl hd rfl k) G
theorem own_s_lneg {p : Program} {e : Env} {below : List Frame} {T : State} {m : MethodId} {c : Code} {Φ : Outcome → State → Prop} {pc : Nat} {L : Array Slot} {S : List Value} (h : At T m c below) (hx : p.tables.exec = Jvm.exec) {x : Int64} (hd : decode c.code pc = .ok (.lneg, 1)) (G : own_Go p e below T (mkF m (pc + 1) L (.long (-x) :: S)) Φ) : own_Go p e below T (mkF m pc L (.long x :: S)) Φ := own_by (fun t k => XS.lneg h hx rfl hd rfl k) G
theorem own_s_i2l {p : Program} {e : Env} {below : List Frame} {T : State} {m : MethodId} {c : Code} {Φ : Outcome → State → Prop} {pc : Nat} {L : Array Slot} {S : List Value} (h : At T m c below) (hx : p.tables.exec = Jvm.exec) {x : Int32} (hd : decode c.code pc = .ok (.i2l, 1)) (G : own_Go p e below T (mkF m (pc + 1) L (.long (x.toInt64) :: S)) Φ) : own_Go p e below T (mkF m pc L (.int x :: S)) Φ := own_by (fun t k => XS.i2l h hx rfl hd rfl k) G
theorem own_s_l2i {p : Program} {e : Env} {below : List Frame} {T : State} {m : MethodId} {c : Code} {Φ : Outcome → State → Prop} {pc : Nat} {L : Array Slot} {S : List Value} (h : At T m c below) (hx : p.tables.exec = Jvm.exec) {x : Int64} (hd : decode c.code pc = .ok (.l2i, 1)) (G : own_Go p e below T (mkF m (pc + 1) L (.int (x.toInt32) :: S)) Φ) : own_Go p e below T (mkF m pc L (.long x :: S)) Φ := own_by (fun t k => XS.l2i h hx rfl hd rfl k) G
theorem own_s_i2b {p : Program} {e : Env} {below : List Frame} {T : State} {m : MethodId} {c : Code} {Φ : Outcome → State → Prop} {pc : Nat} {L : Array Slot} {S : List Value} (h : At T m c below) (hx : p.tables.exec = Jvm.exec) {x : Int32} (hd : decode c.code pc = .ok (.i2b, 1)) (G : own_Go p e below T (mkF m (pc + 1) L (.int (x.toInt8.toInt32) :: S)) Φ) : own_Go p e below T (mkF m pc L (.int x :: S)) Φ := own_by (fun t k => XS.i2b h hx rfl hd rfl k) G
theorem own_s_i2s {p : Program} {e : Env} {below : List Frame} {T : State} {m : MethodId} {c : Code} {Φ : Outcome → State → Prop} {pc : Nat} {L : Array Slot} {S : List Value} (h : At T m c below) (hx : p.tables.exec = Jvm.exec) {x : Int32} (hd : decode c.code pc = .ok (.i2s, 1)) (G : own_Go p e below T (mkF m (pc + 1) L (.int (x.toInt16.toInt32) :: S)) Φ) : own_Go p e below T (mkF m pc L (.int x :: S)) Φ := own_by (fun t k => XS.i2s h hx rfl hd rfl k) G
theorem own_s_i2c {p : Program} {e : Env} {below : List Frame} {T : State} {m : MethodId} {c : Code} {Φ : Outcome → State → Prop} {pc : Nat} {L : Array Slot} {S : List Value} (h : At T m c below) (hx : p.tables.exec = Jvm.exec) {x : Int32} (hd : decode c.code pc = .ok (.i2c, 1)) (G : own_Go p e below T (mkF m (pc + 1) L (.int (x.toUInt32.toUInt16.toUInt32.toInt32) :: S)) Φ) : own_Go p e below T (mkF m pc L (.int x :: S)) Φ := own_by (fun t k => XS.i2c h hx rfl hd rfl k) G
theorem own_s_iloadN {p : Program} {e : Env} {below : List Frame} {T : State} {m : MethodId} {c : Code} {Φ : Outcome → State → Prop} {pc : Nat} {L : Array Slot} {S : List Value} (h : At T m c below) (hx : p.tables.exec = Jvm.exec) {i : Fin 4} {v : Int32} (hd : decode c.code pc = .ok (.iload_n i, 1)) (hl : L[i.val]? = some (.val (.int v))) (G : own_Go p e below T (mkF m (pc + 1) L (.int v :: S)) Φ) : own_Go p e below T (mkF m pc L S) Φ := own_by (fun t k => XS.iloadN h hx rfl hd hl k) G
theorem own_s_iload {p : Program} {e : Env} {below : List Frame} {T : State} {m : MethodId} {c : Code} {Φ : Outcome → State → Prop} {pc : Nat} {L : Array Slot} {S : List Value} (h : At T m c below) (hx : p.tables.exec = Jvm.exec) {i : Nat} {v : Int32} (hd : decode c.code pc = .ok (.iload i, 2)) (hl : L[i]? = some (.val (.int v))) (G : own_Go p e below T (mkF m (pc + 2) L (.int v :: S)) Φ) : own_Go p e below T (mkF m pc L S) Φ := own_by (fun t k => XS.iload h hx rfl hd hl k) G
theorem own_s_lloadN {p : Program} {e : Env} {below : List Frame} {T : State} {m : MethodId} {c : Code} {Φ : Outcome → State → Prop} {pc : Nat} {L : Array Slot} {S : List Value} (h : At T m c below) (hx : p.tables.exec = Jvm.exec) {i : Fin 4} {v : Int64} (hd : decode c.code pc = .ok (.lload_n i, 1)) (hl : L[i.val]? = some (.val (.long v))) (G : own_Go p e below T (mkF m (pc + 1) L (.long v :: S)) Φ) : own_Go p e below T (mkF m pc L S) Φ := own_by (fun t k => XS.lloadN h hx rfl hd hl k) G
theorem own_s_lload {p : Program} {e : Env} {below : List Frame} {T : State} {m : MethodId} {c : Code} {Φ : Outcome → State → Prop} {pc : Nat} {L : Array Slot} {S : List Value} (h : At T m c below) (hx : p.tables.exec = Jvm.exec) {i : Nat} {v : Int64} (hd : decode c.code pc = .ok (.lload i, 2)) (hl : L[i]? = some (.val (.long v))) (G : own_Go p e below T (mkF m (pc + 2) L (.long v :: S)) Φ) : own_Go p e below T (mkF m pc L S) Φ := own_by (fun t k => XS.lload h hx rfl hd hl k) G
theorem own_s_aloadN {p : Program} {e : Env} {below : List Frame} {T : State} {m : MethodId} {c : Code} {Φ : Outcome → State → Prop} {pc : Nat} {L : Array Slot} {S : List Value} (h : At T m c below) (hx : p.tables.exec = Jvm.exec) {i : Fin 4} {v : Value} (hd : decode c.code pc = .ok (.aload_n i, 1)) (hl : L[i.val]? = some (.val v)) (hv : v.isRef = true) (G : own_Go p e below T (mkF m (pc + 1) L (v :: S)) Φ) : own_Go p e below T (mkF m pc L S) Φ := own_by (fun t k => XS.aloadN h hx rfl hd hl hv k) G
theorem own_s_aload {p : Program} {e : Env} {below : List Frame} {T : State} {m : MethodId} {c : Code} {Φ : Outcome → State → Prop} {pc : Nat} {L : Array Slot} {S : List Value} (h : At T m c below) (hx : p.tables.exec = Jvm.exec) {i : Nat} {v : Value} (hd : decode c.code pc = .ok (.aload i, 2)) (hl : L[i]? = some (.val v)) (hv : v.isRef = true) (G : own_Go p e below T (mkF m (pc + 2) L (v :: S)) Φ) : own_Go p e below T (mkF m pc L S) Φ := own_by (fun t k => XS.aload h hx rfl hd hl hv k) G
theorem own_s_istoreN {p : Program} {e : Env} {below : List Frame} {T : State} {m : MethodId} {c : Code} {Φ : Outcome → State → Prop} {pc : Nat} {L : Array Slot} {S : List Value} (h : At T m c below) (hx : p.tables.exec = Jvm.exec) {i : Fin 4} {v : Int32} (L' : Array Slot) (hd : decode c.code pc = .ok (.istore_n i, 1)) (hl : storeLocals L i.val (.int v) = some L') (G : own_Go p e below T (mkF m (pc + 1) L' S) Φ) : own_Go p e below T (mkF m pc L (.int v :: S)) Φ := own_by (fun t k => XS.istoreN h hx rfl hd rfl hl k) G
theorem own_s_istore {p : Program} {e : Env} {below : List Frame} {T : State} {m : MethodId} {c : Code} {Φ : Outcome → State → Prop} {pc : Nat} {L : Array Slot} {S : List Value} (h : At T m c below) (hx : p.tables.exec = Jvm.exec) {i : Nat} {v : Int32} (L' : Array Slot) (hd : decode c.code pc = .ok (.istore i, 2)) (hl : storeLocals L i (.int v) = some L') (G : own_Go p e below T (mkF m (pc + 2) L' S) Φ) : own_Go p e below T (mkF m pc L (.int v :: S)) Φ := own_by (fun t k => XS.istore h hx rfl hd rfl hl k) G
theorem own_s_lstoreN {p : Program} {e : Env} {below : List Frame} {T : State} {m : MethodId} {c : Code} {Φ : Outcome → State → Prop} {pc : Nat} {L : Array Slot} {S : List Value} (h : At T m c below) (hx : p.tables.exec = Jvm.exec) {i : Fin 4} {v : Int64} (L' : Array Slot) (hd : decode c.code pc = .ok (.lstore_n i, 1)) (hl : storeLocals L i.val (.long v) = some L') (G : own_Go p e below T (mkF m (pc + 1) L' S) Φ) : own_Go p e below T (mkF m pc L (.long v :: S)) Φ := own_by (fun t k => XS.lstoreN h hx rfl hd rfl hl k) G
theorem own_s_lstore {p : Program} {e : Env} {below : List Frame} {T : State} {m : MethodId} {c : Code} {Φ : Outcome → State → Prop} {pc : Nat} {L : Array Slot} {S : List Value} (h : At T m c below) (hx : p.tables.exec = Jvm.exec) {i : Nat} {v : Int64} (L' : Array Slot) (hd : decode c.code pc = .ok (.lstore i, 2)) (hl : storeLocals L i (.long v) = some L') (G : own_Go p e below T (mkF m (pc + 2) L' S) Φ) : own_Go p e below T (mkF m pc L (.long v :: S)) Φ := own_by (fun t k => XS.lstore h hx rfl hd rfl hl k) G
theorem own_s_astoreN {p : Program} {e : Env} {below : List Frame} {T : State} {m : MethodId} {c : Code} {Φ : Outcome → State → Prop} {pc : Nat} {L : Array Slot} {S : List Value} (h : At T m c below) (hx : p.tables.exec = Jvm.exec) {i : Fin 4} {v : Value} (L' : Array Slot) (hd : decode c.code pc = .ok (.astore_n i, 1)) (hv : v.isRef = true) (hl : storeLocals L i.val v = some L') (G : own_Go p e below T (mkF m (pc + 1) L' S) Φ) : own_Go p e below T (mkF m pc L (v :: S)) Φ := own_by (fun t k => XS.astoreN h hx rfl hd rfl hv hl k) G
theorem own_s_astore {p : Program} {e : Env} {below : List Frame} {T : State} {m : MethodId} {c : Code} {Φ : Outcome → State → Prop} {pc : Nat} {L : Array Slot} {S : List Value} (h : At T m c below) (hx : p.tables.exec = Jvm.exec) {i : Nat} {v : Value} (L' : Array Slot) (hd : decode c.code pc = .ok (.astore i, 2)) (hv : v.isRef = true) (hl : storeLocals L i v = some L') (G : own_Go p e below T (mkF m (pc + 2) L' S) Φ) : own_Go p e below T (mkF m pc L (v :: S)) Φ := own_by (fun t k => XS.astore h hx rfl hd rfl hv hl k) G
theorem own_s_iconst {p : Program} {e : Env} {below : List Frame} {T : State} {m : MethodId} {c : Code} {Φ : Outcome → State → Prop} {pc : Nat} {L : Array Slot} {S : List Value} (h : At T m c below) (hx : p.tables.exec = Jvm.exec) {i : Int} (v : Int32) (hd : decode c.code pc = .ok (.iconst i, 1)) (hv : Int32.ofInt i = v) (G : own_Go p e below T (mkF m (pc + 1) L (.int v :: S)) Φ) : own_Go p e below T (mkF m pc L S) Φ := own_by (fun t k => XS.iconst h hx rfl hd (by rw [hv]; exact k)) G
theorem own_s_bipush {p : Program} {e : Env} {below : List Frame} {T : State} {m : MethodId} {c : Code} {Φ : Outcome → State → Prop} {pc : Nat} {L : Array Slot} {S : List Value} (h : At T m c below) (hx : p.tables.exec = Jvm.exec) {i : Int} (v : Int32) (hd : decode c.code pc = .ok (.bipush i, 2)) (hv : (Int8.ofInt i).toInt32 = v) (G : own_Go p e below T (mkF m (pc + 2) L (.int v :: S)) Φ) : own_Go p e below T (mkF m pc L S) Φ := own_by (fun t k => XS.bipush h hx rfl hd (by rw [hv]; exact k)) G
theorem own_s_sipush {p : Program} {e : Env} {below : List Frame} {T : State} {m : MethodId} {c : Code} {Φ : Outcome → State → Prop} {pc : Nat} {L : Array Slot} {S : List Value} (h : At T m c below) (hx : p.tables.exec = Jvm.exec) {i : Int} (v : Int32) (hd : decode c.code pc = .ok (.sipush i, 3)) (hv : (Int16.ofInt i).toInt32 = v) (G : own_Go p e below T (mkF m (pc + 3) L (.int v :: S)) Φ) : own_Go p e below T (mkF m pc L S) Φ := own_by (fun t k => XS.sipush h hx rfl hd (by rw [hv]; exact k)) G
theorem own_s_lconst {p : Program} {e : Env} {below : List Frame} {T : State} {m : MethodId} {c : Code} {Φ : Outcome → State → Prop} {pc : Nat} {L : Array Slot} {S : List Value} (h : At T m c below) (hx : p.tables.exec = Jvm.exec) {i : Fin 2} (v : Int64) (hd : decode c.code pc = .ok (.lconst i, 1)) (hv : Int64.ofNat i = v) (G : own_Go p e below T (mkF m (pc + 1) L (.long v :: S)) Φ) : own_Go p e below T (mkF m pc L S) Φ := own_by (fun t k => XS.lconst h hx rfl hd (by rw [hv]; exact k)) G
theorem own_s_goto {p : Program} {e : Env} {below : List Frame} {T : State} {m : MethodId} {c : Code} {Φ : Outcome → State → Prop} {pc : Nat} {L : Array Slot} {S : List Value} (h : At T m c below) (hx : p.tables.exec = Jvm.exec) {o : Int} (pc' : Nat) (hd : decode c.code pc = .ok (.goto o, 3)) (ho : 0 ≤ (pc : Int) + o) (hp : ((pc : Int) + o).toNat = pc') (G : own_Go p e below T (mkF m pc' L S) Φ) : own_Go p e below T (mkF m pc L S) Φ := own_by (fun t k => XS.goto h hx rfl rfl hd ho hp k) G
theorem own_s_ifYes {p : Program} {e : Env} {below : List Frame} {T : State} {m : MethodId} {c : Code} {Φ : Outcome → State → Prop} {pc : Nat} {L : Array Slot} {S : List Value} (h : At T m c below) (hx : p.tables.exec = Jvm.exec) {cd : ClassFile.Cond} {x : Int32} {o : Int} (pc' : Nat) (hd : decode c.code pc = .ok (.ifCond cd o, 3)) (hc : ifCond.holds cd x = true) (ho : 0 ≤ (pc : Int) + o) (hp : ((pc : Int) + o).toNat = pc') (G : own_Go p e below T (mkF m pc' L S) Φ) : own_Go p e below T (mkF m pc L (.int x :: S)) Φ := own_by (fun t k => XS.ifYes h hx rfl rfl hd rfl hc ho hp k) G
theorem own_s_ifNo {p : Program} {e : Env} {below : List Frame} {T : State} {m : MethodId} {c : Code} {Φ : Outcome → State → Prop} {pc : Nat} {L : Array Slot} {S : List Value} (h : At T m c below) (hx : p.tables.exec = Jvm.exec) {cd : ClassFile.Cond} {x : Int32} {o : Int} (hd : decode c.code pc = .ok (.ifCond cd o, 3)) (hc : ifCond.holds cd x = false) (G : own_Go p e below T (mkF m (pc + 3) L S) Φ) : own_Go p e below T (mkF m pc L (.int x :: S)) Φ := own_by (fun t k => XS.ifNo h hx rfl hd rfl hc k) G
theorem own_s_icmpYes {p : Program} {e : Env} {below : List Frame} {T : State} {m : MethodId} {c : Code} {Φ : Outcome → State → Prop} {pc : Nat} {L : Array Slot} {S : List Value} (h : At T m c below) (hx : p.tables.exec = Jvm.exec) {cd : ClassFile.Cond} {x y : Int32} {o : Int} (pc' : Nat) (hd : decode c.code pc = .ok (.if_icmp cd o, 3)) (hc : if_icmp.holds cd x y = true) (ho : 0 ≤ (pc : Int) + o) (hp : ((pc : Int) + o).toNat = pc') (G : own_Go p e below T (mkF m pc' L S) Φ) : own_Go p e below T (mkF m pc L (.int y :: .int x :: S)) Φ := own_by (fun t k => XS.icmpYes h hx rfl rfl hd rfl hc ho hp k) G
theorem own_s_icmpNo {p : Program} {e : Env} {below : List Frame} {T : State} {m : MethodId} {c : Code} {Φ : Outcome → State → Prop} {pc : Nat} {L : Array Slot} {S : List Value} (h : At T m c below) (hx : p.tables.exec = Jvm.exec) {cd : ClassFile.Cond} {x y : Int32} {o : Int} (hd : decode c.code pc = .ok (.if_icmp cd o, 3)) (hc : if_icmp.holds cd x y = false) (G : own_Go p e below T (mkF m (pc + 3) L S) Φ) : own_Go p e below T (mkF m pc L (.int y :: .int x :: S)) Φ := own_by (fun t k => XS.icmpNo h hx rfl hd rfl hc k) G
theorem own_s_lcmp {p : Program} {e : Env} {below : List Frame} {T : State} {m : MethodId} {c : Code} {Φ : Outcome → State → Prop} {pc : Nat} {L : Array Slot} {S : List Value} (h : At T m c below) (hx : p.tables.exec = Jvm.exec) {x y : Int64} (hd : decode c.code pc = .ok (.lcmp, 1)) (G : own_Go p e below T (mkF m (pc + 1) L (.int (Jvm.Free.XT.cmpL x y) :: S)) Φ) : own_Go p e below T (mkF m pc L (.long y :: .long x :: S)) Φ := own_by (fun t k => Jvm.Free.XT.lcmp h hx rfl hd rfl k) G
theorem own_s_dup {p : Program} {e : Env} {below : List Frame} {T : State} {m : MethodId} {c : Code} {Φ : Outcome → State → Prop} {pc : Nat} {L : Array Slot} {S : List Value} (h : At T m c below) (hx : p.tables.exec = Jvm.exec) {x : Value} (hd : decode c.code pc = .ok (.dup, 1)) (hc : x.category = 1) (G : own_Go p e below T (mkF m (pc + 1) L (x :: x :: S)) Φ) : own_Go p e below T (mkF m pc L (x :: S)) Φ := own_by (fun t k => XS.dup h hx rfl hd rfl hc k) G
theorem own_s_pop {p : Program} {e : Env} {below : List Frame} {T : State} {m : MethodId} {c : Code} {Φ : Outcome → State → Prop} {pc : Nat} {L : Array Slot} {S : List Value} (h : At T m c below) (hx : p.tables.exec = Jvm.exec) {x : Value} (hd : decode c.code pc = .ok (.pop, 1)) (hc : x.category = 1) (G : own_Go p e below T (mkF m (pc + 1) L S) Φ) : own_Go p e below T (mkF m pc L (x :: S)) Φ := own_by (fun t k => XS.pop h hx rfl hd rfl hc k) G

theorem own_d3_0 : decode jdk_65_method_103_code 0 = .ok (.iconst 0, 1) := by decide +kernel
theorem own_d3_1 : decode jdk_65_method_103_code 1 = .ok (.istore_n 2, 1) := by decide +kernel
theorem own_d3_2 : decode jdk_65_method_103_code 2 = .ok (.aload_n 0, 1) := by decide +kernel
theorem own_d3_3 : decode jdk_65_method_103_code 3 = .ok (.arraylength, 1) := by decide +kernel
theorem own_d3_4 : decode jdk_65_method_103_code 4 = .ok (.istore_n 3, 1) := by decide +kernel
theorem own_d3_5 : decode jdk_65_method_103_code 5 = .ok (.iload_n 2, 1) := by decide +kernel
theorem own_d3_6 : decode jdk_65_method_103_code 6 = .ok (.iload_n 3, 1) := by decide +kernel
theorem own_d3_7 : decode jdk_65_method_103_code 7 = .ok (.if_icmp .ge 13, 3) := by decide +kernel
theorem own_d3_10 : decode jdk_65_method_103_code 10 = .ok (.aload_n 0, 1) := by decide +kernel
theorem own_d3_11 : decode jdk_65_method_103_code 11 = .ok (.iload_n 2, 1) := by decide +kernel
theorem own_d3_12 : decode jdk_65_method_103_code 12 = .ok (.iload_n 1, 1) := by decide +kernel
theorem own_d3_13 : decode jdk_65_method_103_code 13 = .ok (.iastore, 1) := by decide +kernel
theorem own_d3_14 : decode jdk_65_method_103_code 14 = .ok (.iinc 2 1, 3) := by decide +kernel
theorem own_d3_17 : decode jdk_65_method_103_code 17 = .ok (.goto (-12), 3) := by decide +kernel
theorem own_d3_20 : decode jdk_65_method_103_code 20 = .ok (.return_, 1) := by decide +kernel
theorem own_pn_Arrays : plainName "java/util/Arrays" = true := by first | (simp [plainName, overriddenIn]; done) | decide +kernel
set_option maxRecDepth 65536 in
set_option maxHeartbeats 40000000 in
theorem own_fil_x {p : Program} {l : Launch} {e : Env} {s : State} {m : MethodId} {args : Array Value} {below : List Frame} {meth : Method} {c : Code} {Z : State} {a0 : Array Value} {n0 : Nat} (hx : p.tables.exec = Jvm.exec) (hZ : Z.Warmed39 s.vm) (hw : ∀ d ∈ tables_1, d.before a0 Z = true) (hby : c.code = jdk_65_method_103_code) (hml : c.maxLocals = 4) (hown : s.vm.findClass "java/util/Arrays" = some m.cls) (hnm : meth.name = "fill") (hret : meth.sig.returnType = none) (hlk : meth.locks = false) (hs : Heap) (i : Nat) (a_ : Addr) (v_ : Int32) (n : Nat) (g_ : Nat → Value) {T0 : State} {locs : List Loc} {h0 : Heap} (X0 : Stand p l e ({ frames := 0, cells := 0, slots := 0, locals := 0 } : Room) s m args below meth c T0 locs 0 0) (e0 : T0.heap = h0) (N0 : Fr n0 locs) (Z0 : n0 ≤ h0.size) (hn : n < 2147483648) (ge_a : n0 ≤ a_) (hin : i = n) (F0 : own_Av Z h0 a_ .int n (own_fl (fun _ => v_) i g_)) (F1 : Keep hs h0 [a_]) :
    own_Go p e below T0 (mkF m 5 #[.val (.ref a_), .val (.int v_), .val (.int (Int32.ofNat i)), .val (.int (Int32.ofNat n))] []) (own_Fin s (fun (v : Option Value) (h : Heap) (L : List Loc) => v = none ∧ Fr n0 L ∧ Keep hs h [a_] ∧ own_Av Z h a_ .int n (fun _ => .int v_)) 0 0) := by
  show own_Go p e below T0 (mkF m 5 #[.val (.ref a_), .val (.int v_), .val (.int (Int32.ofNat i)), .val (.int (Int32.ofNat n))] []) _
  refine own_s_iloadN X0.here hx (hb hby own_d3_5) rfl ?_
  refine own_s_iloadN X0.here hx (hb hby own_d3_6) rfl ?_
  show own_Go p e below T0 (mkF m 7 #[.val (.ref a_), .val (.int v_), .val (.int (Int32.ofNat i)), .val (.int (Int32.ofNat n))] [(.int (Int32.ofNat n)), (.int (Int32.ofNat i))]) _
  refine own_s_icmpYes X0.here hx 20 (hb hby own_d3_7) (Jvm.Free.XT.ii_ge_t ((fun q => absurd ((own_oflt (by omega) (by omega)).mp q) (by omega)))) (by decide) (by decide) ?_
  refine own_retV X0 hx hret hlk (hb hby own_d3_20) (by decide) (by decide) ?_
  rw [e0]
  exact ⟨rfl, N0, F1, F0.cong rfl (fun j hj => own_fl_in (by omega))⟩
set_option maxRecDepth 65536 in
set_option maxHeartbeats 40000000 in
theorem own_fil_t {p : Program} {l : Launch} {e : Env} {s : State} {m : MethodId} {args : Array Value} {below : List Frame} {meth : Method} {c : Code} {Z : State} {a0 : Array Value} {n0 : Nat} (hx : p.tables.exec = Jvm.exec) (hZ : Z.Warmed39 s.vm) (hw : ∀ d ∈ tables_1, d.before a0 Z = true) (hby : c.code = jdk_65_method_103_code) (hml : c.maxLocals = 4) (hown : s.vm.findClass "java/util/Arrays" = some m.cls) (hnm : meth.name = "fill") (hret : meth.sig.returnType = none) (hlk : meth.locks = false) (hs : Heap) (i : Nat) (a_ : Addr) (v_ : Int32) (n : Nat) (g_ : Nat → Value) {T0 : State} {locs : List Loc} {h0 : Heap} (X0 : Stand p l e ({ frames := 0, cells := 0, slots := 0, locals := 0 } : Room) s m args below meth c T0 locs 0 0) (e0 : T0.heap = h0) (N0 : Fr n0 locs) (Z0 : n0 ≤ h0.size) (hn : n < 2147483648) (ge_a : n0 ≤ a_) (hin : i < n) (F0 : own_Av Z h0 a_ .int n (own_fl (fun _ => v_) i g_)) (F1 : Keep hs h0 [a_]) (hnext : ∀ (T1 : State) (locs1 : List Loc) (h1 : Heap), Stand p l e ({ frames := 0, cells := 0, slots := 0, locals := 0 } : Room) s m args below meth c T1 locs1 0 0 → T1.heap = h1 → Fr n0 locs1 → n0 ≤ h1.size → own_Av Z h1 a_ .int n (own_fl (fun _ => v_) (i + 1) g_) → Keep hs h1 [a_] → own_Go p e below T1 (mkF m 5 #[.val (.ref a_), .val (.int v_), .val (.int (Int32.ofNat (i + 1))), .val (.int (Int32.ofNat n))] []) (own_Fin s (fun (v : Option Value) (h : Heap) (L : List Loc) => v = none ∧ Fr n0 L ∧ Keep hs h [a_] ∧ own_Av Z h a_ .int n (fun _ => .int v_)) 0 0)) :
    own_Go p e below T0 (mkF m 5 #[.val (.ref a_), .val (.int v_), .val (.int (Int32.ofNat i)), .val (.int (Int32.ofNat n))] []) (own_Fin s (fun (v : Option Value) (h : Heap) (L : List Loc) => v = none ∧ Fr n0 L ∧ Keep hs h [a_] ∧ own_Av Z h a_ .int n (fun _ => .int v_)) 0 0) := by
  show own_Go p e below T0 (mkF m 5 #[.val (.ref a_), .val (.int v_), .val (.int (Int32.ofNat i)), .val (.int (Int32.ofNat n))] []) _
  refine own_s_iloadN X0.here hx (hb hby own_d3_5) rfl ?_
  refine own_s_iloadN X0.here hx (hb hby own_d3_6) rfl ?_
  refine own_s_icmpNo X0.here hx (hb hby own_d3_7) (Jvm.Free.XT.ii_ge_f (((own_oflt (by omega) (by omega)).mpr hin))) ?_
  refine own_s_aloadN X0.here hx (hb hby own_d3_10) rfl rfl ?_
  refine own_s_iloadN X0.here hx (hb hby own_d3_11) rfl ?_
  refine own_s_iloadN X0.here hx (hb hby own_d3_12) rfl ?_
  obtain ⟨T1, h1, X1, e1, W1, fa1, st1⟩ := own_stI X0 hx hZ e0 F0 (k := i) (own_ix (by omega)) hin (g := (mkF m 13 #[.val (.ref a_), .val (.int v_), .val (.int (Int32.ofNat i)), .val (.int (Int32.ofNat n))] [(.int v_), (.int (Int32.ofNat i)), (.ref a_)])) rfl rfl (hb hby own_d3_13)
  have N1 := Fr.snoc X1 N0 ge_a
  have SZ1 : n0 ≤ h1.size := by rw [W1.size]; exact Z0
  have K1 := F1.wr W1 (Or.inl (List.mem_of_getElem? (i := 0) rfl))
  refine own_by st1 ?_
  show own_Go p e below T1 (mkF m 14 #[.val (.ref a_), .val (.int v_), .val (.int (Int32.ofNat i)), .val (.int (Int32.ofNat n))] []) _
  refine own_by (fun tq_ kq_ => XS.iinc X1.here hx rfl (hb hby own_d3_14) rfl (l' := #[.val (.ref a_), .val (.int v_), .val (.int ((Int32.ofNat i) + (1 : Int32))), .val (.int (Int32.ofNat n))]) rfl kq_) ?_
  show own_Go p e below T1 (mkF m 17 #[.val (.ref a_), .val (.int v_), .val (.int ((Int32.ofNat i) + (1 : Int32))), .val (.int (Int32.ofNat n))] []) _
  refine own_s_goto X1.here hx 5 (hb hby own_d3_17) (by decide) (by decide) ?_
  rw [own_ofs]
  exact hnext _ _ _ X1 e1 N1 SZ1 (fa1.cong rfl (fun j _ => own_fl_up (fun _ => v_) i g_ j)) K1
set_option maxRecDepth 65536 in
set_option maxHeartbeats 40000000 in
theorem own_fil {p : Program} {l : Launch} {e : Env} {s : State} {m : MethodId} {args : Array Value} {below : List Frame} {meth : Method} {c : Code} {Z : State} {a0 : Array Value} {n0 : Nat} (hx : p.tables.exec = Jvm.exec) (hZ : Z.Warmed39 s.vm) (hw : ∀ d ∈ tables_1, d.before a0 Z = true) (hby : c.code = jdk_65_method_103_code) (hml : c.maxLocals = 4) (hown : s.vm.findClass "java/util/Arrays" = some m.cls) (hnm : meth.name = "fill") (hret : meth.sig.returnType = none) (hlk : meth.locks = false) (hs : Heap) (a_ : Addr) (v_ : Int32) (n : Nat) (g_ : Nat → Value) (hn : n < 2147483648) (ge_a : n0 ≤ a_) : ∀ (r i : Nat) (hin : i + r = n) {T0 : State} {locs : List Loc} {h0 : Heap} (X0 : Stand p l e ({ frames := 0, cells := 0, slots := 0, locals := 0 } : Room) s m args below meth c T0 locs 0 0) (e0 : T0.heap = h0) (N0 : Fr n0 locs) (Z0 : n0 ≤ h0.size) (F0 : own_Av Z h0 a_ .int n (own_fl (fun _ => v_) i g_)) (F1 : Keep hs h0 [a_]),
    own_Go p e below T0 (mkF m 5 #[.val (.ref a_), .val (.int v_), .val (.int (Int32.ofNat i)), .val (.int (Int32.ofNat n))] []) (own_Fin s (fun (v : Option Value) (h : Heap) (L : List Loc) => v = none ∧ Fr n0 L ∧ Keep hs h [a_] ∧ own_Av Z h a_ .int n (fun _ => .int v_)) 0 0) := by
  intro r
  induction r with
  | zero =>
    intro i hin T0 locs h0 X0 e0 N0 Z0 F0 F1
    exact own_fil_x hx hZ hw hby hml hown hnm hret hlk hs i a_ v_ n g_ X0 e0 N0 Z0 hn ge_a (by omega) F0 F1
  | succ r ih =>
    intro i hin T0 locs h0 X0 e0 N0 Z0 F0 F1
    exact own_fil_t hx hZ hw hby hml hown hnm hret hlk hs i a_ v_ n g_ X0 e0 N0 Z0 hn ge_a (by omega) F0 F1 (fun T1 locs1 h1 X1 e1 N1 Z1 G0 G1 => ih (i + 1) (by omega) X1 e1 N1 Z1 G0 G1)
theorem own_ef3 (m : MethodId) (a_ : Addr) (v_ : Int32) : entryFrame m #[(.ref a_), (.int v_)] 4 = mkF m 0 #[.val (.ref a_), .val (.int v_), .unset, .unset] [] := by first | (simp [entryFrame, mkF, argsToLocals, Value.category]; done) | rfl
def own_q_own_r3 (Z : State) (a_ : Addr) (v_ : Int32) (n : Nat) (f : Nat → Value) (h0 : Heap) (n0 : Nat) (v : Option Value) (h : Heap) (L : List Loc) : Prop := v = none ∧ Fr n0 L ∧ Keep h0 h [a_] ∧ own_Av Z h a_ .int n (fun _ => .int v_)
set_option maxRecDepth 65536 in
set_option maxHeartbeats 40000000 in
theorem own_r3 (l : Launch) (Z : State) (a0 : Array Value) (hw : ∀ d ∈ tables_1, d.before a0 Z = true) (ws : List Jvm.Cond) (a_ : Addr) (v_ : Int32) (n : Nat) (f : Nat → Value) (h0 : Heap) (n0 : Nat) (Z0 : n0 ≤ h0.size) (hn : n < 2147483648) (A_a_ : own_Av Z h0 a_ .int n f) (ge_a_ : n0 ≤ a_) :
    MetFree l (⟨"java/util/Arrays", "fill", "([II)V"⟩ : MethodName) (head1 (Jvm.Cond.code (⟨"java/util/Arrays", "fill", "([II)V"⟩ : MethodName) jdk_65_method_103_code 4 none :: ws) ({ frames := 0, cells := 0, slots := 0, locals := 0 } : Room)) (fun aq Uq => aq = #[(.ref a_), (.int v_)] ∧ Z.Warmed39 Uq.vm ∧ Uq.heap = h0) (fun _ _ _ _ _ => True) (fun _ Uq oq Uq' => ∃ vq Lq, oq = .returned vq ∧ own_q_own_r3 Z a_ v_ n f h0 n0 vq Uq'.heap Lq ∧ FrameEnd Uq oq Uq' Lq ({ frames := 0, cells := 0, slots := 0, locals := 0 } : Room).cells ({ frames := 0, cells := 0, slots := 0, locals := 0 } : Room).slots) := by
  refine MetFree.of_bodySF (plainFor_of_name own_pn_Arrays) hisR ?_
  intro p e s m args below meth c T0 Bd hml0 hP hK
  obtain ⟨rfl, hZ, hh⟩ := hP
  have hx := Bd.exec
  have hby := Bd.bytes
  have hml : c.maxLocals = 4 := hml0
  have hown : s.vm.findClass "java/util/Arrays" = some m.cls := findClass_of_methodNamed Bd.named
  have hnm := (name_of_methodNamed Bd.named Bd.method).1
  have hret : meth.sig.returnType = none := Bd.returns
  have hlk : meth.locks = false := BodyLoose.notSynchronized Bd
  have X0 : Stand p l e ({ frames := 0, cells := 0, slots := 0, locals := 0 } : Room) s m #[(.ref a_), (.int v_)] below meth c T0 [] 0 0 := Stand.of_body Bd
  have e0 : T0.heap = h0 := by rw [← hh, Bd.state]; rfl
  have N0 := Fr.nil n0
  refine own_start (own_ef3 m a_ v_) (Q := fun (v : Option Value) (h : Heap) (L : List Loc) => v = none ∧ Fr n0 L ∧ Keep h0 h [a_] ∧ own_Av Z h a_ .int n (fun _ => .int v_)) (k := 0) (j := 0) ?_
  show own_Go p e below T0 (mkF m 0 #[.val (.ref a_), .val (.int v_), .unset, .unset] []) _
  have K0 := Keep.refl h0 [a_]
  refine own_s_iconst X0.here hx (0 : Int32) (hb hby own_d3_0) rfl ?_
  refine own_s_istoreN X0.here hx #[.val (.ref a_), .val (.int v_), .val (.int (0 : Int32)), .unset] (hb hby own_d3_1) rfl ?_
  refine own_s_aloadN X0.here hx (hb hby own_d3_2) rfl rfl ?_
  refine own_by (fun tq_ kq_ => own_len X0 hx hZ e0 A_a_ (z := (Int32.ofNat n)) rfl (g := (mkF m 3 #[.val (.ref a_), .val (.int v_), .val (.int (0 : Int32)), .unset] [(.ref a_)])) rfl rfl (hb hby own_d3_3) tq_ kq_) ?_
  show own_Go p e below T0 (mkF m 4 #[.val (.ref a_), .val (.int v_), .val (.int (0 : Int32)), .unset] [(.int (Int32.ofNat n))]) _
  refine own_s_istoreN X0.here hx #[.val (.ref a_), .val (.int v_), .val (.int (0 : Int32)), .val (.int (Int32.ofNat n))] (hb hby own_d3_4) rfl ?_
  show own_Go p e below T0 (mkF m 5 #[.val (.ref a_), .val (.int v_), .val (.int (Int32.ofNat 0)), .val (.int (Int32.ofNat n))] []) _
  exact own_fil hx hZ hw hby hml hown hnm hret hlk h0 a_ v_ n f hn ge_a_ n 0 (by omega) X0 e0 N0 Z0 (A_a_.cong rfl (fun j _ => own_fl0 (fun _ => v_) f j)) K0
theorem own_d2_0 : decode prog_21_method_10_code 0 = .ok (.iload_n 0, 1) := by decide +kernel
theorem own_d2_1 : decode prog_21_method_10_code 1 = .ok (.newarray .int, 2) := by decide +kernel
theorem own_d2_3 : decode prog_21_method_10_code 3 = .ok (.astore_n 1, 1) := by decide +kernel
theorem own_d2_4 : decode prog_21_method_10_code 4 = .ok (.aload_n 1, 1) := by decide +kernel
theorem own_d2_5 : decode prog_21_method_10_code 5 = .ok (.iconst 1, 1) := by decide +kernel
theorem own_d2_6 : decode prog_21_method_10_code 6 = .ok (.invokestatic 51, 3) := by decide +kernel
theorem own_d2_9 : decode prog_21_method_10_code 9 = .ok (.aload_n 1, 1) := by decide +kernel
theorem own_d2_10 : decode prog_21_method_10_code 10 = .ok (.areturn, 1) := by decide +kernel
theorem own_pn_MarkingCode : plainName "com/example/lapse/lapse/MarkingCode" = true := by first | (simp [plainName, overriddenIn]; done) | decide +kernel
theorem own_ef2 (m : MethodId) (z_ : Int32) : entryFrame m #[(.int z_)] 2 = mkF m 0 #[.val (.int z_), .unset] [] := by first | (simp [entryFrame, mkF, argsToLocals, Value.category]; done) | rfl
theorem own_pd_2 : parseMethodDescriptor "([II)V" = some ⟨[(.array .int), .int], none⟩ := by decide +kernel
def own_q_own_r2 (Z : State) (z_ : Int32) (n : Nat) (h0 : Heap) (n0 : Nat) (v : Option Value) (h : Heap) (L : List Loc) : Prop := ∃ b : Addr, v = some (.ref b) ∧ Fr n0 L ∧ n0 ≤ b ∧ h0.size ≤ b ∧ Keep h0 h [] ∧ own_Av Z h b .int n (fun _ => .int (1 : Int32))
set_option maxRecDepth 65536 in
set_option maxHeartbeats 40000000 in
theorem own_r2 (l : Launch) (Z : State) (a0 : Array Value) (hw : ∀ d ∈ tables_1, d.before a0 Z = true) (ws : List Jvm.Cond) (z_ : Int32) (n : Nat) (h0 : Heap) (n0 : Nat) (Z0 : n0 ≤ h0.size) (hz : z_.toNatClampNeg = n) (hneg : ¬ z_ < 0) (hle : n ≤ 192) :
    MetFree l (⟨"com/example/lapse/lapse/MarkingCode", "ones", "(I)[I"⟩ : MethodName) (head1 (Jvm.Cond.code (⟨"com/example/lapse/lapse/MarkingCode", "ones", "(I)[I"⟩ : MethodName) prog_21_method_10_code 2 (some (.array .int)) :: ws) ({ frames := 1, cells := 1, slots := 192, locals := 15 } : Room)) (fun aq Uq => aq = #[(.int z_)] ∧ Z.Warmed39 Uq.vm ∧ Uq.heap = h0) (fun _ _ _ _ _ => True) (fun _ Uq oq Uq' => ∃ vq Lq, oq = .returned vq ∧ own_q_own_r2 Z z_ n h0 n0 vq Uq'.heap Lq ∧ FrameEnd Uq oq Uq' Lq ({ frames := 1, cells := 1, slots := 192, locals := 15 } : Room).cells ({ frames := 1, cells := 1, slots := 192, locals := 15 } : Room).slots) := by
  refine MetFree.of_bodySF (plainFor_of_name own_pn_MarkingCode) hisR ?_
  intro p e s m args below meth c T0 Bd hml0 hP hK
  obtain ⟨rfl, hZ, hh⟩ := hP
  have hx := Bd.exec
  have hby := Bd.bytes
  have hml : c.maxLocals = 2 := hml0
  have hown : s.vm.findClass "com/example/lapse/lapse/MarkingCode" = some m.cls := findClass_of_methodNamed Bd.named
  have hnm := (name_of_methodNamed Bd.named Bd.method).1
  have hret : meth.sig.returnType = (some (.array .int)) := Bd.returns
  have hlk : meth.locks = false := BodyLoose.notSynchronized Bd
  have X0 : Stand p l e ({ frames := 1, cells := 1, slots := 192, locals := 15 } : Room) s m #[(.int z_)] below meth c T0 [] 0 0 := Stand.of_body Bd
  have e0 : T0.heap = h0 := by rw [← hh, Bd.state]; rfl
  have N0 := Fr.nil n0
  refine own_start (own_ef2 m z_) (Q := fun (v : Option Value) (h : Heap) (L : List Loc) => ∃ b : Addr, v = some (.ref b) ∧ Fr n0 L ∧ n0 ≤ b ∧ h0.size ≤ b ∧ Keep h0 h [] ∧ own_Av Z h b .int n (fun _ => .int (1 : Int32))) (k := 1) (j := 192) ?_
  show own_Go p e below T0 (mkF m 0 #[.val (.int z_), .unset] []) _
  have K0 := Keep.refl h0 []
  refine own_s_iloadN X0.here hx (hb hby own_d2_0) rfl ?_
  obtain ⟨T2, h2, k2, X2, e2, E2, A2, st2⟩ := newP X0 hx hZ (hw _ (List.mem_of_getElem? (i := 2) rfl)) e0 (g := (mkF m 1 #[.val (.int z_), .unset] [(.int z_)])) rfl (hb hby own_d2_1) rfl hneg (cap := 192) (by rw [hz]; exact hle) (by decide) (by decide) (by decide)
  obtain ⟨b2, g2⟩ : ∃ z, z = h0.size := ⟨_, rfl⟩
  rw [← g2] at A2 st2
  have ge_b2 : n0 ≤ b2 := Nat.le_trans Z0 (Nat.le_of_eq g2.symm)
  have sz_b2 : h0.size ≤ b2 := Nat.le_trans K0.1 (Nat.le_of_eq g2.symm)
  have SZ2 : n0 ≤ h2.size := Nat.le_trans Z0 E2.1
  have K2 := K0.ext E2
  have f3 : own_Av Z h2 b2 .int n (fun _ => (.int (0 : Int32))) := own_Av.ofnew A2 hz rfl
  refine own_by st2 ?_
  show own_Go p e below T2 (mkF m 3 #[.val (.int z_), .unset] [(.ref b2)]) _
  refine own_s_astoreN X2.here hx #[.val (.int z_), .val (.ref b2)] (hb hby own_d2_3) rfl rfl ?_
  refine own_s_aloadN X2.here hx (hb hby own_d2_4) rfl rfl ?_
  refine own_s_iconst X2.here hx (1 : Int32) (hb hby own_d2_5) rfl ?_
  obtain ⟨_, _, ⟨T4, L4, k4, n4⟩, -, X4, ⟨Lc4, hQ4, l4, y4, z4⟩, st4⟩ := Jvm.LawKit.callS X2 hx (y := (⟨"java/util/Arrays", "fill", "([II)V"⟩ : MethodName)) hown (mvT hZ (hw _ (List.mem_of_getElem? (i := 12) rfl))) (mvT hZ (hw _ (List.mem_of_getElem? (i := 13) rfl))) (mvT hZ (hw _ (List.mem_of_getElem? (i := 14) rfl))) (mvT hZ (hw _ (List.mem_of_getElem? (i := 15) rfl))) (by decide) (backOf (W := 0) (own_r3 l Z a0 hw [] b2 (1 : Int32) n (fun _ => (.int (0 : Int32))) h2 n0 SZ2 (by omega) f3 ge_b2) hZ (hw _ (List.mem_of_getElem? (i := 15) rfl)) (hw _ (List.mem_of_getElem? (i := 14) rfl)) (by decide) (by decide)) (g := (mkF m 6 #[.val (.int z_), .val (.ref b2)] [(.int (1 : Int32)), (.ref b2)])) rfl (by rw [hml]; rfl) (argsL := [(.ref b2), (.int (1 : Int32))]) (rest := []) (lenOf own_pd_2 rfl) rfl (by show 2 * 0 + _ ≤ _; exact Nat.le_of_eq rfl) (hb hby own_d2_6) (fun _ _ => ⟨rfl, e2, (by decide : 1 + 0 ≤ _), (by decide : 192 + 0 ≤ _)⟩)
  dsimp only [Pt.U, Pt.locs, Pt.cells, Pt.slots] at X4 l4 y4 z4 st4 hQ4
  subst l4 y4 z4
  obtain ⟨rfl, N4q, K4, fa4⟩ := hQ4
  have N4 := Fr.app N0 N4q
  have SZ4 : n0 ≤ T4.heap.size := Nat.le_trans SZ2 K4.1
  have KC4 := K2.trans K4 (allS (Or.inr sz_b2) all0)
  refine own_by st4 ?_
  show own_Go p e below T4 (mkF m 9 #[.val (.int z_), .val (.ref b2)] []) _
  refine own_s_aloadN X4.here hx (hb hby own_d2_9) rfl rfl ?_
  refine own_retA X4 hx hret hlk (hb hby own_d2_10) rfl rfl rfl (by decide) (by decide) ?_
  exact ⟨b2, rfl, N4, ge_b2, sz_b2, KC4, fa4⟩
def own_mo (x : Int32) : Int32 := ((((1 : Int64) <<< (x &&& 0x3f).toInt64) - (1 : Int64)).toInt32)
def own_U (wd : Nat → Int32) : Nat → Int32
  | 0 => 0
  | i + 1 => (if (64 : Int32) < (own_U wd i + wd i) then (0 : Int32) else own_U wd i) + wd i
def own_S (wd : Nat → Int32) (i : Nat) : Int32 := if (64 : Int32) < (own_U wd i + wd i) then (0 : Int32) else own_U wd i
def own_W (wd : Nat → Int32) : Nat → Int32
  | 0 => 0
  | i + 1 => if (64 : Int32) < (own_U wd i + wd i) then (own_W wd i + (1 : Int32)) else own_W wd i
theorem own_U1 (wd : Nat → Int32) (i : Nat) : own_U wd (i + 1) = own_S wd i + wd i := rfl
theorem own_d4_0 : decode prog_21_method_2_code 0 = .ok (.aload_n 0, 1) := by decide +kernel
theorem own_d4_1 : decode prog_21_method_2_code 1 = .ok (.invokespecial 11, 3) := by decide +kernel
theorem own_d4_4 : decode prog_21_method_2_code 4 = .ok (.aload_n 1, 1) := by decide +kernel
theorem own_d4_5 : decode prog_21_method_2_code 5 = .ok (.arraylength, 1) := by decide +kernel
theorem own_d4_6 : decode prog_21_method_2_code 6 = .ok (.istore_n 2, 1) := by decide +kernel
theorem own_d4_7 : decode prog_21_method_2_code 7 = .ok (.aload_n 0, 1) := by decide +kernel
theorem own_d4_8 : decode prog_21_method_2_code 8 = .ok (.iload_n 2, 1) := by decide +kernel
theorem own_d4_9 : decode prog_21_method_2_code 9 = .ok (.newarray .int, 2) := by decide +kernel
theorem own_d4_11 : decode prog_21_method_2_code 11 = .ok (.putfield 16, 3) := by decide +kernel
theorem own_d4_14 : decode prog_21_method_2_code 14 = .ok (.aload_n 0, 1) := by decide +kernel
theorem own_d4_15 : decode prog_21_method_2_code 15 = .ok (.iload_n 2, 1) := by decide +kernel
theorem own_d4_16 : decode prog_21_method_2_code 16 = .ok (.newarray .int, 2) := by decide +kernel
theorem own_d4_18 : decode prog_21_method_2_code 18 = .ok (.putfield 20, 3) := by decide +kernel
theorem own_d4_21 : decode prog_21_method_2_code 21 = .ok (.aload_n 0, 1) := by decide +kernel
theorem own_d4_22 : decode prog_21_method_2_code 22 = .ok (.iload_n 2, 1) := by decide +kernel
theorem own_d4_23 : decode prog_21_method_2_code 23 = .ok (.newarray .int, 2) := by decide +kernel
theorem own_d4_25 : decode prog_21_method_2_code 25 = .ok (.putfield 23, 3) := by decide +kernel
theorem own_d4_28 : decode prog_21_method_2_code 28 = .ok (.iconst 0, 1) := by decide +kernel
theorem own_d4_29 : decode prog_21_method_2_code 29 = .ok (.istore_n 3, 1) := by decide +kernel
theorem own_d4_30 : decode prog_21_method_2_code 30 = .ok (.iconst 0, 1) := by decide +kernel
theorem own_d4_31 : decode prog_21_method_2_code 31 = .ok (.istore 4, 2) := by decide +kernel
theorem own_d4_33 : decode prog_21_method_2_code 33 = .ok (.iconst 0, 1) := by decide +kernel
theorem own_d4_34 : decode prog_21_method_2_code 34 = .ok (.istore 5, 2) := by decide +kernel
theorem own_d4_36 : decode prog_21_method_2_code 36 = .ok (.iload 5, 2) := by decide +kernel
theorem own_d4_38 : decode prog_21_method_2_code 38 = .ok (.iload_n 2, 1) := by decide +kernel
theorem own_d4_39 : decode prog_21_method_2_code 39 = .ok (.if_icmp .ge 69, 3) := by decide +kernel
theorem own_d4_42 : decode prog_21_method_2_code 42 = .ok (.iload 4, 2) := by decide +kernel
theorem own_d4_44 : decode prog_21_method_2_code 44 = .ok (.aload_n 1, 1) := by decide +kernel
theorem own_d4_45 : decode prog_21_method_2_code 45 = .ok (.iload 5, 2) := by decide +kernel
theorem own_d4_47 : decode prog_21_method_2_code 47 = .ok (.iaload, 1) := by decide +kernel
theorem own_d4_48 : decode prog_21_method_2_code 48 = .ok (.iadd, 1) := by decide +kernel
theorem own_d4_49 : decode prog_21_method_2_code 49 = .ok (.bipush 64, 2) := by decide +kernel
theorem own_d4_51 : decode prog_21_method_2_code 51 = .ok (.if_icmp .le 9, 3) := by decide +kernel
theorem own_d4_54 : decode prog_21_method_2_code 54 = .ok (.iinc 3 1, 3) := by decide +kernel
theorem own_d4_57 : decode prog_21_method_2_code 57 = .ok (.iconst 0, 1) := by decide +kernel
theorem own_d4_58 : decode prog_21_method_2_code 58 = .ok (.istore 4, 2) := by decide +kernel
theorem own_d4_60 : decode prog_21_method_2_code 60 = .ok (.aload_n 0, 1) := by decide +kernel
theorem own_d4_61 : decode prog_21_method_2_code 61 = .ok (.getfield 16, 3) := by decide +kernel
theorem own_d4_64 : decode prog_21_method_2_code 64 = .ok (.iload 5, 2) := by decide +kernel
theorem own_d4_66 : decode prog_21_method_2_code 66 = .ok (.lconst 1, 1) := by decide +kernel
theorem own_d4_67 : decode prog_21_method_2_code 67 = .ok (.aload_n 1, 1) := by decide +kernel
theorem own_d4_68 : decode prog_21_method_2_code 68 = .ok (.iload 5, 2) := by decide +kernel
theorem own_d4_70 : decode prog_21_method_2_code 70 = .ok (.iaload, 1) := by decide +kernel
theorem own_d4_71 : decode prog_21_method_2_code 71 = .ok (.lshl, 1) := by decide +kernel
theorem own_d4_72 : decode prog_21_method_2_code 72 = .ok (.lconst 1, 1) := by decide +kernel
theorem own_d4_73 : decode prog_21_method_2_code 73 = .ok (.lsub, 1) := by decide +kernel
theorem own_d4_74 : decode prog_21_method_2_code 74 = .ok (.l2i, 1) := by decide +kernel
theorem own_d4_75 : decode prog_21_method_2_code 75 = .ok (.iastore, 1) := by decide +kernel
theorem own_d4_76 : decode prog_21_method_2_code 76 = .ok (.aload_n 0, 1) := by decide +kernel
theorem own_d4_77 : decode prog_21_method_2_code 77 = .ok (.getfield 20, 3) := by decide +kernel
theorem own_d4_80 : decode prog_21_method_2_code 80 = .ok (.iload 5, 2) := by decide +kernel
theorem own_d4_82 : decode prog_21_method_2_code 82 = .ok (.iload_n 3, 1) := by decide +kernel
theorem own_d4_83 : decode prog_21_method_2_code 83 = .ok (.iastore, 1) := by decide +kernel
theorem own_d4_84 : decode prog_21_method_2_code 84 = .ok (.aload_n 0, 1) := by decide +kernel
theorem own_d4_85 : decode prog_21_method_2_code 85 = .ok (.getfield 23, 3) := by decide +kernel
theorem own_d4_88 : decode prog_21_method_2_code 88 = .ok (.iload 5, 2) := by decide +kernel
theorem own_d4_90 : decode prog_21_method_2_code 90 = .ok (.iload 4, 2) := by decide +kernel
theorem own_d4_92 : decode prog_21_method_2_code 92 = .ok (.iastore, 1) := by decide +kernel
theorem own_d4_93 : decode prog_21_method_2_code 93 = .ok (.iload 4, 2) := by decide +kernel
theorem own_d4_95 : decode prog_21_method_2_code 95 = .ok (.aload_n 1, 1) := by decide +kernel
theorem own_d4_96 : decode prog_21_method_2_code 96 = .ok (.iload 5, 2) := by decide +kernel
theorem own_d4_98 : decode prog_21_method_2_code 98 = .ok (.iaload, 1) := by decide +kernel
theorem own_d4_99 : decode prog_21_method_2_code 99 = .ok (.iadd, 1) := by decide +kernel
theorem own_d4_100 : decode prog_21_method_2_code 100 = .ok (.istore 4, 2) := by decide +kernel
theorem own_d4_102 : decode prog_21_method_2_code 102 = .ok (.iinc 5 1, 3) := by decide +kernel
theorem own_d4_105 : decode prog_21_method_2_code 105 = .ok (.goto (-69), 3) := by decide +kernel
theorem own_d4_108 : decode prog_21_method_2_code 108 = .ok (.aload_n 0, 1) := by decide +kernel
theorem own_d4_109 : decode prog_21_method_2_code 109 = .ok (.iload_n 3, 1) := by decide +kernel
theorem own_d4_110 : decode prog_21_method_2_code 110 = .ok (.iconst 1, 1) := by decide +kernel
theorem own_d4_111 : decode prog_21_method_2_code 111 = .ok (.iadd, 1) := by decide +kernel
theorem own_d4_112 : decode prog_21_method_2_code 112 = .ok (.putfield 28, 3) := by decide +kernel
theorem own_d4_115 : decode prog_21_method_2_code 115 = .ok (.return_, 1) := by decide +kernel
set_option maxRecDepth 65536 in
set_option maxHeartbeats 40000000 in
theorem own_ini_x {p : Program} {l : Launch} {e : Env} {s : State} {m : MethodId} {args : Array Value} {below : List Frame} {meth : Method} {c : Code} {Z : State} {a0 : Array Value} {n0 : Nat} (hx : p.tables.exec = Jvm.exec) (hZ : Z.Warmed39 s.vm) (hw : ∀ d ∈ tables_1, d.before a0 Z = true) (hby : c.code = prog_21_method_2_code) (hml : c.maxLocals = 6) (hown : s.vm.findClass "com/example/lapse/lapse/MarkingCode" = some m.cls) (hnm : meth.name = "<init>") (hret : meth.sig.returnType = none) (hlk : meth.locks = false) (hs : Heap) (i : Nat) (this r1 am aw as : Addr) (n : Nat) (wd : Nat → Int32) {T0 : State} {locs : List Loc} {h0 : Heap} (X0 : Stand p l e ({ frames := 1, cells := 3, slots := 576, locals := 12 } : Room) s m args below meth c T0 locs 3 576) (e0 : T0.heap = h0) (N0 : Fr n0 locs) (Z0 : n0 ≤ h0.size) (hn : n ≤ 192) (ge_this : n0 ≤ this) (ge_am : n0 ≤ am) (ge_aw : n0 ≤ aw) (ge_as : n0 ≤ as) (sz_am : hs.size ≤ am) (sz_aw : hs.size ≤ aw) (sz_as : hs.size ≤ as) (ne_this_am : this ≠ am) (ne_this_aw : this ≠ aw) (ne_this_as : this ≠ as) (ne_r1_am : r1 ≠ am) (ne_r1_aw : r1 ≠ aw) (ne_r1_as : r1 ≠ as) (ne_am_aw : am ≠ aw) (ne_am_as : am ≠ as) (ne_aw_as : aw ≠ as) (ne_r1_this : r1 ≠ this) (hin : i = n) (F0 : Exa Z h0 this "com/example/lapse/lapse/MarkingCode") (F1 : Fld Z h0 this "com/example/lapse/lapse/MarkingCode" "most" "[I" (.ref am)) (F2 : Fld Z h0 this "com/example/lapse/lapse/MarkingCode" "words" "[I" (.ref aw)) (F3 : Fld Z h0 this "com/example/lapse/lapse/MarkingCode" "shifts" "[I" (.ref as)) (F4 : Fld Z h0 this "com/example/lapse/lapse/MarkingCode" "length" "I" (.int (0 : Int32))) (F5 : own_Av Z h0 r1 .int n (fun j => .int (wd j))) (F6 : own_Av Z h0 am .int n (own_fl (fun j => own_mo (wd j)) i (fun _ => (.int (0 : Int32))))) (F7 : own_Av Z h0 aw .int n (own_fl (fun j => own_W wd (j + 1)) i (fun _ => (.int (0 : Int32))))) (F8 : own_Av Z h0 as .int n (own_fl (own_S wd) i (fun _ => (.int (0 : Int32))))) (F9 : Keep hs h0 [this]) :
    own_Go p e below T0 (mkF m 36 #[.val (.ref this), .val (.ref r1), .val (.int (Int32.ofNat n)), .val (.int (own_W wd i)), .val (.int (own_U wd i)), .val (.int (Int32.ofNat i))] []) (own_Fin s (fun (v : Option Value) (h : Heap) (L : List Loc) => v = none ∧ Fr n0 L ∧ Keep hs h [this] ∧ ∃ am aw as : Addr, n0 ≤ am ∧ n0 ≤ aw ∧ n0 ≤ as ∧ hs.size ≤ am ∧ hs.size ≤ aw ∧ hs.size ≤ as ∧ am ≠ aw ∧ am ≠ as ∧ aw ≠ as ∧ Fld Z h this "com/example/lapse/lapse/MarkingCode" "most" "[I" (.ref am) ∧ own_Av Z h am .int n (fun j => .int ((fun j => own_mo (wd j)) j)) ∧ Fld Z h this "com/example/lapse/lapse/MarkingCode" "words" "[I" (.ref aw) ∧ own_Av Z h aw .int n (fun j => .int ((fun j => own_W wd (j + 1)) j)) ∧ Fld Z h this "com/example/lapse/lapse/MarkingCode" "shifts" "[I" (.ref as) ∧ own_Av Z h as .int n (fun j => .int ((own_S wd) j)) ∧ Fld Z h this "com/example/lapse/lapse/MarkingCode" "length" "I" (.int (own_W wd n + (1 : Int32)))) 3 576) := by
  show own_Go p e below T0 (mkF m 36 #[.val (.ref this), .val (.ref r1), .val (.int (Int32.ofNat n)), .val (.int (own_W wd i)), .val (.int (own_U wd i)), .val (.int (Int32.ofNat i))] []) _
  refine own_s_iload X0.here hx (hb hby own_d4_36) rfl ?_
  refine own_s_iloadN X0.here hx (hb hby own_d4_38) rfl ?_
  show own_Go p e below T0 (mkF m 39 #[.val (.ref this), .val (.ref r1), .val (.int (Int32.ofNat n)), .val (.int (own_W wd i)), .val (.int (own_U wd i)), .val (.int (Int32.ofNat i))] [(.int (Int32.ofNat n)), (.int (Int32.ofNat i))]) _
  refine own_s_icmpYes X0.here hx 108 (hb hby own_d4_39) (Jvm.Free.XT.ii_ge_t ((fun q => absurd ((own_oflt (by omega) (by omega)).mp q) (by omega)))) (by decide) (by decide) ?_
  refine own_s_aloadN X0.here hx (hb hby own_d4_108) rfl rfl ?_
  refine own_s_iloadN X0.here hx (hb hby own_d4_109) rfl ?_
  refine own_s_iconst X0.here hx (1 : Int32) (hb hby own_d4_110) rfl ?_
  refine own_s_iadd X0.here hx (hb hby own_d4_111) ?_
  obtain ⟨T5, h5, X5, e5, W5, st5⟩ := putF X0 hx hZ hown (host := "") (Or.inl (hw _ (List.mem_of_getElem? (i := 28) rfl))) Via.refl e0 F4 F0 (Or.inr ⟨(hw _ (List.mem_of_getElem? (i := 29) rfl)), rfl, hnm⟩) (hw _ (List.mem_of_getElem? (i := 4) rfl)) (ty := .int) (by decide) rfl rfl (g := (mkF m 112 #[.val (.ref this), .val (.ref r1), .val (.int (Int32.ofNat n)), .val (.int (own_W wd i)), .val (.int (own_U wd i)), .val (.int (Int32.ofNat i))] [(.int ((own_W wd i) + (1 : Int32))), (.ref this)])) rfl rfl (hb hby own_d4_112)
  have fw5 := F4.same W5
  have f6 := F0.wr W5
  have f7 := F1.other W5 (Or.inr (slot_ne (Or.inr (hw _ (List.mem_of_getElem? (i := 23) rfl))) (Or.inr (hw _ (List.mem_of_getElem? (i := 29) rfl))) (by decide) (t := (.array .int)) (t' := .int) (by decide) (by decide)))
  have f8 := F2.other W5 (Or.inr (slot_ne (Or.inr (hw _ (List.mem_of_getElem? (i := 25) rfl))) (Or.inr (hw _ (List.mem_of_getElem? (i := 29) rfl))) (by decide) (t := (.array .int)) (t' := .int) (by decide) (by decide)))
  have f9 := F3.other W5 (Or.inr (slot_ne (Or.inr (hw _ (List.mem_of_getElem? (i := 27) rfl))) (Or.inr (hw _ (List.mem_of_getElem? (i := 29) rfl))) (by decide) (t := (.array .int)) (t' := .int) (by decide) (by decide)))
  have f10 := F5.other W5 ne_r1_this
  have f11 := F6.other W5 (Ne.symm ne_this_am)
  have f12 := F7.other W5 (Ne.symm ne_this_aw)
  have f13 := F8.other W5 (Ne.symm ne_this_as)
  have N5 := Fr.snoc X5 N0 ge_this
  have SZ5 : n0 ≤ h5.size := by rw [W5.size]; exact Z0
  have K5 := F9.wr W5 (Or.inl (List.mem_of_getElem? (i := 0) rfl))
  refine own_by st5 ?_
  show own_Go p e below T5 (mkF m 115 #[.val (.ref this), .val (.ref r1), .val (.int (Int32.ofNat n)), .val (.int (own_W wd i)), .val (.int (own_U wd i)), .val (.int (Int32.ofNat i))] []) _
  refine own_retV X5 hx hret hlk (hb hby own_d4_115) (by decide) (by decide) ?_
  rw [e5]
  exact ⟨rfl, N5, K5, am, aw, as, ge_am, ge_aw, ge_as, sz_am, sz_aw, sz_as, ne_am_aw, ne_am_as, ne_aw_as, f7, f11.cong rfl (fun j hj => own_fl_in (by omega)), f8, f12.cong rfl (fun j hj => own_fl_in (by omega)), f9, f13.cong rfl (fun j hj => own_fl_in (by omega)), by rw [← hin]; exact fw5⟩
set_option maxRecDepth 65536 in
set_option maxHeartbeats 40000000 in
theorem own_ini_t {p : Program} {l : Launch} {e : Env} {s : State} {m : MethodId} {args : Array Value} {below : List Frame} {meth : Method} {c : Code} {Z : State} {a0 : Array Value} {n0 : Nat} (hx : p.tables.exec = Jvm.exec) (hZ : Z.Warmed39 s.vm) (hw : ∀ d ∈ tables_1, d.before a0 Z = true) (hby : c.code = prog_21_method_2_code) (hml : c.maxLocals = 6) (hown : s.vm.findClass "com/example/lapse/lapse/MarkingCode" = some m.cls) (hnm : meth.name = "<init>") (hret : meth.sig.returnType = none) (hlk : meth.locks = false) (hs : Heap) (i : Nat) (this r1 am aw as : Addr) (n : Nat) (wd : Nat → Int32) {T0 : State} {locs : List Loc} {h0 : Heap} (X0 : Stand p l e ({ frames := 1, cells := 3, slots := 576, locals := 12 } : Room) s m args below meth c T0 locs 3 576) (e0 : T0.heap = h0) (N0 : Fr n0 locs) (Z0 : n0 ≤ h0.size) (hn : n ≤ 192) (ge_this : n0 ≤ this) (ge_am : n0 ≤ am) (ge_aw : n0 ≤ aw) (ge_as : n0 ≤ as) (sz_am : hs.size ≤ am) (sz_aw : hs.size ≤ aw) (sz_as : hs.size ≤ as) (ne_this_am : this ≠ am) (ne_this_aw : this ≠ aw) (ne_this_as : this ≠ as) (ne_r1_am : r1 ≠ am) (ne_r1_aw : r1 ≠ aw) (ne_r1_as : r1 ≠ as) (ne_am_aw : am ≠ aw) (ne_am_as : am ≠ as) (ne_aw_as : aw ≠ as) (ne_r1_this : r1 ≠ this) (hin : i < n) (F0 : Exa Z h0 this "com/example/lapse/lapse/MarkingCode") (F1 : Fld Z h0 this "com/example/lapse/lapse/MarkingCode" "most" "[I" (.ref am)) (F2 : Fld Z h0 this "com/example/lapse/lapse/MarkingCode" "words" "[I" (.ref aw)) (F3 : Fld Z h0 this "com/example/lapse/lapse/MarkingCode" "shifts" "[I" (.ref as)) (F4 : Fld Z h0 this "com/example/lapse/lapse/MarkingCode" "length" "I" (.int (0 : Int32))) (F5 : own_Av Z h0 r1 .int n (fun j => .int (wd j))) (F6 : own_Av Z h0 am .int n (own_fl (fun j => own_mo (wd j)) i (fun _ => (.int (0 : Int32))))) (F7 : own_Av Z h0 aw .int n (own_fl (fun j => own_W wd (j + 1)) i (fun _ => (.int (0 : Int32))))) (F8 : own_Av Z h0 as .int n (own_fl (own_S wd) i (fun _ => (.int (0 : Int32))))) (F9 : Keep hs h0 [this]) (hnext : ∀ (T1 : State) (locs1 : List Loc) (h1 : Heap), Stand p l e ({ frames := 1, cells := 3, slots := 576, locals := 12 } : Room) s m args below meth c T1 locs1 3 576 → T1.heap = h1 → Fr n0 locs1 → n0 ≤ h1.size → Exa Z h1 this "com/example/lapse/lapse/MarkingCode" → Fld Z h1 this "com/example/lapse/lapse/MarkingCode" "most" "[I" (.ref am) → Fld Z h1 this "com/example/lapse/lapse/MarkingCode" "words" "[I" (.ref aw) → Fld Z h1 this "com/example/lapse/lapse/MarkingCode" "shifts" "[I" (.ref as) → Fld Z h1 this "com/example/lapse/lapse/MarkingCode" "length" "I" (.int (0 : Int32)) → own_Av Z h1 r1 .int n (fun j => .int (wd j)) → own_Av Z h1 am .int n (own_fl (fun j => own_mo (wd j)) (i + 1) (fun _ => (.int (0 : Int32)))) → own_Av Z h1 aw .int n (own_fl (fun j => own_W wd (j + 1)) (i + 1) (fun _ => (.int (0 : Int32)))) → own_Av Z h1 as .int n (own_fl (own_S wd) (i + 1) (fun _ => (.int (0 : Int32)))) → Keep hs h1 [this] → own_Go p e below T1 (mkF m 36 #[.val (.ref this), .val (.ref r1), .val (.int (Int32.ofNat n)), .val (.int (own_W wd (i + 1))), .val (.int (own_U wd (i + 1))), .val (.int (Int32.ofNat (i + 1)))] []) (own_Fin s (fun (v : Option Value) (h : Heap) (L : List Loc) => v = none ∧ Fr n0 L ∧ Keep hs h [this] ∧ ∃ am aw as : Addr, n0 ≤ am ∧ n0 ≤ aw ∧ n0 ≤ as ∧ hs.size ≤ am ∧ hs.size ≤ aw ∧ hs.size ≤ as ∧ am ≠ aw ∧ am ≠ as ∧ aw ≠ as ∧ Fld Z h this "com/example/lapse/lapse/MarkingCode" "most" "[I" (.ref am) ∧ own_Av Z h am .int n (fun j => .int ((fun j => own_mo (wd j)) j)) ∧ Fld Z h this "com/example/lapse/lapse/MarkingCode" "words" "[I" (.ref aw) ∧ own_Av Z h aw .int n (fun j => .int ((fun j => own_W wd (j + 1)) j)) ∧ Fld Z h this "com/example/lapse/lapse/MarkingCode" "shifts" "[I" (.ref as) ∧ own_Av Z h as .int n (fun j => .int ((own_S wd) j)) ∧ Fld Z h this "com/example/lapse/lapse/MarkingCode" "length" "I" (.int (own_W wd n + (1 : Int32)))) 3 576)) :
    own_Go p e below T0 (mkF m 36 #[.val (.ref this), .val (.ref r1), .val (.int (Int32.ofNat n)), .val (.int (own_W wd i)), .val (.int (own_U wd i)), .val (.int (Int32.ofNat i))] []) (own_Fin s (fun (v : Option Value) (h : Heap) (L : List Loc) => v = none ∧ Fr n0 L ∧ Keep hs h [this] ∧ ∃ am aw as : Addr, n0 ≤ am ∧ n0 ≤ aw ∧ n0 ≤ as ∧ hs.size ≤ am ∧ hs.size ≤ aw ∧ hs.size ≤ as ∧ am ≠ aw ∧ am ≠ as ∧ aw ≠ as ∧ Fld Z h this "com/example/lapse/lapse/MarkingCode" "most" "[I" (.ref am) ∧ own_Av Z h am .int n (fun j => .int ((fun j => own_mo (wd j)) j)) ∧ Fld Z h this "com/example/lapse/lapse/MarkingCode" "words" "[I" (.ref aw) ∧ own_Av Z h aw .int n (fun j => .int ((fun j => own_W wd (j + 1)) j)) ∧ Fld Z h this "com/example/lapse/lapse/MarkingCode" "shifts" "[I" (.ref as) ∧ own_Av Z h as .int n (fun j => .int ((own_S wd) j)) ∧ Fld Z h this "com/example/lapse/lapse/MarkingCode" "length" "I" (.int (own_W wd n + (1 : Int32)))) 3 576) := by
  show own_Go p e below T0 (mkF m 36 #[.val (.ref this), .val (.ref r1), .val (.int (Int32.ofNat n)), .val (.int (own_W wd i)), .val (.int (own_U wd i)), .val (.int (Int32.ofNat i))] []) _
  refine own_s_iload X0.here hx (hb hby own_d4_36) rfl ?_
  refine own_s_iloadN X0.here hx (hb hby own_d4_38) rfl ?_
  refine own_s_icmpNo X0.here hx (hb hby own_d4_39) (Jvm.Free.XT.ii_ge_f (((own_oflt (by omega) (by omega)).mpr hin))) ?_
  refine own_s_iload X0.here hx (hb hby own_d4_42) rfl ?_
  refine own_s_aloadN X0.here hx (hb hby own_d4_44) rfl rfl ?_
  refine own_s_iload X0.here hx (hb hby own_d4_45) rfl ?_
  refine own_by (fun tq_ kq_ => own_ldI X0 hx hZ e0 F5 (k := i) (v := (.int (wd i))) (own_ix (by omega)) hin rfl (g := (mkF m 47 #[.val (.ref this), .val (.ref r1), .val (.int (Int32.ofNat n)), .val (.int (own_W wd i)), .val (.int (own_U wd i)), .val (.int (Int32.ofNat i))] [(.int (Int32.ofNat i)), (.ref r1), (.int (own_U wd i))])) rfl rfl (hb hby own_d4_47) tq_ kq_) ?_
  show own_Go p e below T0 (mkF m 48 #[.val (.ref this), .val (.ref r1), .val (.int (Int32.ofNat n)), .val (.int (own_W wd i)), .val (.int (own_U wd i)), .val (.int (Int32.ofNat i))] [(.int (wd i)), (.int (own_U wd i))]) _
  refine own_s_iadd X0.here hx (hb hby own_d4_48) ?_
  refine own_s_bipush X0.here hx (64 : Int32) (hb hby own_d4_49) rfl ?_
  by_cases hc51 : (64 : Int32) < ((own_U wd i) + (wd i))
  ·
    refine own_s_icmpNo X0.here hx (hb hby own_d4_51) (Jvm.Free.XT.ii_le_f hc51) ?_
    refine own_by (fun tq_ kq_ => XS.iinc X0.here hx rfl (hb hby own_d4_54) rfl (l' := #[.val (.ref this), .val (.ref r1), .val (.int (Int32.ofNat n)), .val (.int ((own_W wd i) + (1 : Int32))), .val (.int (own_U wd i)), .val (.int (Int32.ofNat i))]) rfl kq_) ?_
    show own_Go p e below T0 (mkF m 57 #[.val (.ref this), .val (.ref r1), .val (.int (Int32.ofNat n)), .val (.int ((own_W wd i) + (1 : Int32))), .val (.int (own_U wd i)), .val (.int (Int32.ofNat i))] []) _
    refine own_s_iconst X0.here hx (0 : Int32) (hb hby own_d4_57) rfl ?_
    refine own_s_istore X0.here hx #[.val (.ref this), .val (.ref r1), .val (.int (Int32.ofNat n)), .val (.int ((own_W wd i) + (1 : Int32))), .val (.int (0 : Int32)), .val (.int (Int32.ofNat i))] (hb hby own_d4_58) rfl ?_
    have ew : own_W wd (i + 1) = ((own_W wd i) + (1 : Int32)) := if_pos hc51
    have eu : own_S wd i = (0 : Int32) := if_pos hc51
    rw [← ew, ← eu]
    show own_Go p e below T0 (mkF m 60 #[.val (.ref this), .val (.ref r1), .val (.int (Int32.ofNat n)), .val (.int (own_W wd (i + 1))), .val (.int (own_S wd i)), .val (.int (Int32.ofNat i))] []) _
    refine own_s_aloadN X0.here hx (hb hby own_d4_60) rfl rfl ?_
    obtain ⟨T14, X14, e14, st14⟩ := getF X0 hx hZ hown (host := "") (Or.inl (hw _ (List.mem_of_getElem? (i := 22) rfl))) Via.refl e0 F1 (g := (mkF m 61 #[.val (.ref this), .val (.ref r1), .val (.int (Int32.ofNat n)), .val (.int (own_W wd (i + 1))), .val (.int (own_S wd i)), .val (.int (Int32.ofNat i))] [(.ref this)])) rfl rfl (hb hby own_d4_61)
    refine own_by st14 ?_
    show own_Go p e below T14 (mkF m 64 #[.val (.ref this), .val (.ref r1), .val (.int (Int32.ofNat n)), .val (.int (own_W wd (i + 1))), .val (.int (own_S wd i)), .val (.int (Int32.ofNat i))] [(.ref am)]) _
    refine own_s_iload X14.here hx (hb hby own_d4_64) rfl ?_
    refine own_s_lconst X14.here hx (1 : Int64) (hb hby own_d4_66) rfl ?_
    refine own_s_aloadN X14.here hx (hb hby own_d4_67) rfl rfl ?_
    refine own_s_iload X14.here hx (hb hby own_d4_68) rfl ?_
    refine own_by (fun tq_ kq_ => own_ldI X14 hx hZ e14 F5 (k := i) (v := (.int (wd i))) (own_ix (by omega)) hin rfl (g := (mkF m 70 #[.val (.ref this), .val (.ref r1), .val (.int (Int32.ofNat n)), .val (.int (own_W wd (i + 1))), .val (.int (own_S wd i)), .val (.int (Int32.ofNat i))] [(.int (Int32.ofNat i)), (.ref r1), (.long (1 : Int64)), (.int (Int32.ofNat i)), (.ref am)])) rfl rfl (hb hby own_d4_70) tq_ kq_) ?_
    show own_Go p e below T14 (mkF m 71 #[.val (.ref this), .val (.ref r1), .val (.int (Int32.ofNat n)), .val (.int (own_W wd (i + 1))), .val (.int (own_S wd i)), .val (.int (Int32.ofNat i))] [(.int (wd i)), (.long (1 : Int64)), (.int (Int32.ofNat i)), (.ref am)]) _
    refine own_s_lshl X14.here hx (hb hby own_d4_71) ?_
    refine own_s_lconst X14.here hx (1 : Int64) (hb hby own_d4_72) rfl ?_
    refine own_s_lsub X14.here hx (hb hby own_d4_73) ?_
    refine own_s_l2i X14.here hx (hb hby own_d4_74) ?_
    show own_Go p e below T14 (mkF m 75 #[.val (.ref this), .val (.ref r1), .val (.int (Int32.ofNat n)), .val (.int (own_W wd (i + 1))), .val (.int (own_S wd i)), .val (.int (Int32.ofNat i))] [(.int (own_mo (wd i))), (.int (Int32.ofNat i)), (.ref am)]) _
    obtain ⟨T15, h15, X15, e15, W15, fa15, st15⟩ := own_stI X14 hx hZ e14 F6 (k := i) (own_ix (by omega)) hin (g := (mkF m 75 #[.val (.ref this), .val (.ref r1), .val (.int (Int32.ofNat n)), .val (.int (own_W wd (i + 1))), .val (.int (own_S wd i)), .val (.int (Int32.ofNat i))] [(.int (own_mo (wd i))), (.int (Int32.ofNat i)), (.ref am)])) rfl rfl (hb hby own_d4_75)
    have f16 := F0.wr W15
    have f17 := F1.other W15 (Or.inl ne_this_am)
    have f18 := F2.other W15 (Or.inl ne_this_am)
    have f19 := F3.other W15 (Or.inl ne_this_am)
    have f20 := F4.other W15 (Or.inl ne_this_am)
    have f21 := F5.other W15 ne_r1_am
    have f22 := F7.other W15 (Ne.symm ne_am_aw)
    have f23 := F8.other W15 (Ne.symm ne_am_as)
    have N15 := Fr.snoc X15 N0 ge_am
    have SZ15 : n0 ≤ h15.size := by rw [W15.size]; exact Z0
    have K15 := F9.wr W15 (Or.inr sz_am)
    refine own_by st15 ?_
    show own_Go p e below T15 (mkF m 76 #[.val (.ref this), .val (.ref r1), .val (.int (Int32.ofNat n)), .val (.int (own_W wd (i + 1))), .val (.int (own_S wd i)), .val (.int (Int32.ofNat i))] []) _
    refine own_s_aloadN X15.here hx (hb hby own_d4_76) rfl rfl ?_
    obtain ⟨T24, X24, e24, st24⟩ := getF X15 hx hZ hown (host := "") (Or.inl (hw _ (List.mem_of_getElem? (i := 24) rfl))) Via.refl e15 f18 (g := (mkF m 77 #[.val (.ref this), .val (.ref r1), .val (.int (Int32.ofNat n)), .val (.int (own_W wd (i + 1))), .val (.int (own_S wd i)), .val (.int (Int32.ofNat i))] [(.ref this)])) rfl rfl (hb hby own_d4_77)
    refine own_by st24 ?_
    show own_Go p e below T24 (mkF m 80 #[.val (.ref this), .val (.ref r1), .val (.int (Int32.ofNat n)), .val (.int (own_W wd (i + 1))), .val (.int (own_S wd i)), .val (.int (Int32.ofNat i))] [(.ref aw)]) _
    refine own_s_iload X24.here hx (hb hby own_d4_80) rfl ?_
    refine own_s_iloadN X24.here hx (hb hby own_d4_82) rfl ?_
    obtain ⟨T25, h25, X25, e25, W25, fa25, st25⟩ := own_stI X24 hx hZ e24 f22 (k := i) (own_ix (by omega)) hin (g := (mkF m 83 #[.val (.ref this), .val (.ref r1), .val (.int (Int32.ofNat n)), .val (.int (own_W wd (i + 1))), .val (.int (own_S wd i)), .val (.int (Int32.ofNat i))] [(.int (own_W wd (i + 1))), (.int (Int32.ofNat i)), (.ref aw)])) rfl rfl (hb hby own_d4_83)
    have f26 := f16.wr W25
    have f27 := f17.other W25 (Or.inl ne_this_aw)
    have f28 := f18.other W25 (Or.inl ne_this_aw)
    have f29 := f19.other W25 (Or.inl ne_this_aw)
    have f30 := f20.other W25 (Or.inl ne_this_aw)
    have f31 := f21.other W25 ne_r1_aw
    have f32 := fa15.other W25 ne_am_aw
    have f33 := f23.other W25 (Ne.symm ne_aw_as)
    have N25 := Fr.snoc X25 N15 ge_aw
    have SZ25 : n0 ≤ h25.size := by rw [W25.size]; exact SZ15
    have K25 := K15.wr W25 (Or.inr sz_aw)
    refine own_by st25 ?_
    show own_Go p e below T25 (mkF m 84 #[.val (.ref this), .val (.ref r1), .val (.int (Int32.ofNat n)), .val (.int (own_W wd (i + 1))), .val (.int (own_S wd i)), .val (.int (Int32.ofNat i))] []) _
    refine own_s_aloadN X25.here hx (hb hby own_d4_84) rfl rfl ?_
    obtain ⟨T34, X34, e34, st34⟩ := getF X25 hx hZ hown (host := "") (Or.inl (hw _ (List.mem_of_getElem? (i := 26) rfl))) Via.refl e25 f29 (g := (mkF m 85 #[.val (.ref this), .val (.ref r1), .val (.int (Int32.ofNat n)), .val (.int (own_W wd (i + 1))), .val (.int (own_S wd i)), .val (.int (Int32.ofNat i))] [(.ref this)])) rfl rfl (hb hby own_d4_85)
    refine own_by st34 ?_
    show own_Go p e below T34 (mkF m 88 #[.val (.ref this), .val (.ref r1), .val (.int (Int32.ofNat n)), .val (.int (own_W wd (i + 1))), .val (.int (own_S wd i)), .val (.int (Int32.ofNat i))] [(.ref as)]) _
    refine own_s_iload X34.here hx (hb hby own_d4_88) rfl ?_
    refine own_s_iload X34.here hx (hb hby own_d4_90) rfl ?_
    obtain ⟨T35, h35, X35, e35, W35, fa35, st35⟩ := own_stI X34 hx hZ e34 f33 (k := i) (own_ix (by omega)) hin (g := (mkF m 92 #[.val (.ref this), .val (.ref r1), .val (.int (Int32.ofNat n)), .val (.int (own_W wd (i + 1))), .val (.int (own_S wd i)), .val (.int (Int32.ofNat i))] [(.int (own_S wd i)), (.int (Int32.ofNat i)), (.ref as)])) rfl rfl (hb hby own_d4_92)
    have f36 := f26.wr W35
    have f37 := f27.other W35 (Or.inl ne_this_as)
    have f38 := f28.other W35 (Or.inl ne_this_as)
    have f39 := f29.other W35 (Or.inl ne_this_as)
    have f40 := f30.other W35 (Or.inl ne_this_as)
    have f41 := f31.other W35 ne_r1_as
    have f42 := f32.other W35 ne_am_as
    have f43 := fa25.other W35 ne_aw_as
    have N35 := Fr.snoc X35 N25 ge_as
    have SZ35 : n0 ≤ h35.size := by rw [W35.size]; exact SZ25
    have K35 := K25.wr W35 (Or.inr sz_as)
    refine own_by st35 ?_
    show own_Go p e below T35 (mkF m 93 #[.val (.ref this), .val (.ref r1), .val (.int (Int32.ofNat n)), .val (.int (own_W wd (i + 1))), .val (.int (own_S wd i)), .val (.int (Int32.ofNat i))] []) _
    refine own_s_iload X35.here hx (hb hby own_d4_93) rfl ?_
    refine own_s_aloadN X35.here hx (hb hby own_d4_95) rfl rfl ?_
    refine own_s_iload X35.here hx (hb hby own_d4_96) rfl ?_
    refine own_by (fun tq_ kq_ => own_ldI X35 hx hZ e35 f41 (k := i) (v := (.int (wd i))) (own_ix (by omega)) hin rfl (g := (mkF m 98 #[.val (.ref this), .val (.ref r1), .val (.int (Int32.ofNat n)), .val (.int (own_W wd (i + 1))), .val (.int (own_S wd i)), .val (.int (Int32.ofNat i))] [(.int (Int32.ofNat i)), (.ref r1), (.int (own_S wd i))])) rfl rfl (hb hby own_d4_98) tq_ kq_) ?_
    show own_Go p e below T35 (mkF m 99 #[.val (.ref this), .val (.ref r1), .val (.int (Int32.ofNat n)), .val (.int (own_W wd (i + 1))), .val (.int (own_S wd i)), .val (.int (Int32.ofNat i))] [(.int (wd i)), (.int (own_S wd i))]) _
    refine own_s_iadd X35.here hx (hb hby own_d4_99) ?_
    refine own_s_istore X35.here hx #[.val (.ref this), .val (.ref r1), .val (.int (Int32.ofNat n)), .val (.int (own_W wd (i + 1))), .val (.int ((own_S wd i) + (wd i))), .val (.int (Int32.ofNat i))] (hb hby own_d4_100) rfl ?_
    show own_Go p e below T35 (mkF m 102 #[.val (.ref this), .val (.ref r1), .val (.int (Int32.ofNat n)), .val (.int (own_W wd (i + 1))), .val (.int (own_U wd (i + 1))), .val (.int (Int32.ofNat i))] []) _
    refine own_by (fun tq_ kq_ => XS.iinc X35.here hx rfl (hb hby own_d4_102) rfl (l' := #[.val (.ref this), .val (.ref r1), .val (.int (Int32.ofNat n)), .val (.int (own_W wd (i + 1))), .val (.int (own_U wd (i + 1))), .val (.int ((Int32.ofNat i) + (1 : Int32)))]) rfl kq_) ?_
    show own_Go p e below T35 (mkF m 105 #[.val (.ref this), .val (.ref r1), .val (.int (Int32.ofNat n)), .val (.int (own_W wd (i + 1))), .val (.int (own_U wd (i + 1))), .val (.int ((Int32.ofNat i) + (1 : Int32)))] []) _
    refine own_s_goto X35.here hx 36 (hb hby own_d4_105) (by decide) (by decide) ?_
    rw [own_ofs]
    exact hnext _ _ _ X35 e35 N35 SZ35 f36 f37 f38 f39 f40 f41 (f42.cong rfl (fun j _ => own_fl_up (fun j => own_mo (wd j)) i (fun _ => (.int (0 : Int32))) j)) (f43.cong rfl (fun j _ => own_fl_up (fun j => own_W wd (j + 1)) i (fun _ => (.int (0 : Int32))) j)) (fa35.cong rfl (fun j _ => own_fl_up (own_S wd) i (fun _ => (.int (0 : Int32))) j)) K35
  ·
    show own_Go p e below T0 (mkF m 51 #[.val (.ref this), .val (.ref r1), .val (.int (Int32.ofNat n)), .val (.int (own_W wd i)), .val (.int (own_U wd i)), .val (.int (Int32.ofNat i))] [(.int (64 : Int32)), (.int ((own_U wd i) + (wd i)))]) _
    refine own_s_icmpYes X0.here hx 60 (hb hby own_d4_51) (Jvm.Free.XT.ii_le_t hc51) (by decide) (by decide) ?_
    have ew : own_W wd (i + 1) = (own_W wd i) := if_neg hc51
    have eu : own_S wd i = (own_U wd i) := if_neg hc51
    rw [← ew, ← eu]
    show own_Go p e below T0 (mkF m 60 #[.val (.ref this), .val (.ref r1), .val (.int (Int32.ofNat n)), .val (.int (own_W wd (i + 1))), .val (.int (own_S wd i)), .val (.int (Int32.ofNat i))] []) _
    refine own_s_aloadN X0.here hx (hb hby own_d4_60) rfl rfl ?_
    obtain ⟨T44, X44, e44, st44⟩ := getF X0 hx hZ hown (host := "") (Or.inl (hw _ (List.mem_of_getElem? (i := 22) rfl))) Via.refl e0 F1 (g := (mkF m 61 #[.val (.ref this), .val (.ref r1), .val (.int (Int32.ofNat n)), .val (.int (own_W wd (i + 1))), .val (.int (own_S wd i)), .val (.int (Int32.ofNat i))] [(.ref this)])) rfl rfl (hb hby own_d4_61)
    refine own_by st44 ?_
    show own_Go p e below T44 (mkF m 64 #[.val (.ref this), .val (.ref r1), .val (.int (Int32.ofNat n)), .val (.int (own_W wd (i + 1))), .val (.int (own_S wd i)), .val (.int (Int32.ofNat i))] [(.ref am)]) _
    refine own_s_iload X44.here hx (hb hby own_d4_64) rfl ?_
    refine own_s_lconst X44.here hx (1 : Int64) (hb hby own_d4_66) rfl ?_
    refine own_s_aloadN X44.here hx (hb hby own_d4_67) rfl rfl ?_
    refine own_s_iload X44.here hx (hb hby own_d4_68) rfl ?_
    refine own_by (fun tq_ kq_ => own_ldI X44 hx hZ e44 F5 (k := i) (v := (.int (wd i))) (own_ix (by omega)) hin rfl (g := (mkF m 70 #[.val (.ref this), .val (.ref r1), .val (.int (Int32.ofNat n)), .val (.int (own_W wd (i + 1))), .val (.int (own_S wd i)), .val (.int (Int32.ofNat i))] [(.int (Int32.ofNat i)), (.ref r1), (.long (1 : Int64)), (.int (Int32.ofNat i)), (.ref am)])) rfl rfl (hb hby own_d4_70) tq_ kq_) ?_
    show own_Go p e below T44 (mkF m 71 #[.val (.ref this), .val (.ref r1), .val (.int (Int32.ofNat n)), .val (.int (own_W wd (i + 1))), .val (.int (own_S wd i)), .val (.int (Int32.ofNat i))] [(.int (wd i)), (.long (1 : Int64)), (.int (Int32.ofNat i)), (.ref am)]) _
    refine own_s_lshl X44.here hx (hb hby own_d4_71) ?_
    refine own_s_lconst X44.here hx (1 : Int64) (hb hby own_d4_72) rfl ?_
    refine own_s_lsub X44.here hx (hb hby own_d4_73) ?_
    refine own_s_l2i X44.here hx (hb hby own_d4_74) ?_
    show own_Go p e below T44 (mkF m 75 #[.val (.ref this), .val (.ref r1), .val (.int (Int32.ofNat n)), .val (.int (own_W wd (i + 1))), .val (.int (own_S wd i)), .val (.int (Int32.ofNat i))] [(.int (own_mo (wd i))), (.int (Int32.ofNat i)), (.ref am)]) _
    obtain ⟨T45, h45, X45, e45, W45, fa45, st45⟩ := own_stI X44 hx hZ e44 F6 (k := i) (own_ix (by omega)) hin (g := (mkF m 75 #[.val (.ref this), .val (.ref r1), .val (.int (Int32.ofNat n)), .val (.int (own_W wd (i + 1))), .val (.int (own_S wd i)), .val (.int (Int32.ofNat i))] [(.int (own_mo (wd i))), (.int (Int32.ofNat i)), (.ref am)])) rfl rfl (hb hby own_d4_75)
    have f46 := F0.wr W45
    have f47 := F1.other W45 (Or.inl ne_this_am)
    have f48 := F2.other W45 (Or.inl ne_this_am)
    have f49 := F3.other W45 (Or.inl ne_this_am)
    have f50 := F4.other W45 (Or.inl ne_this_am)
    have f51 := F5.other W45 ne_r1_am
    have f52 := F7.other W45 (Ne.symm ne_am_aw)
    have f53 := F8.other W45 (Ne.symm ne_am_as)
    have N45 := Fr.snoc X45 N0 ge_am
    have SZ45 : n0 ≤ h45.size := by rw [W45.size]; exact Z0
    have K45 := F9.wr W45 (Or.inr sz_am)
    refine own_by st45 ?_
    show own_Go p e below T45 (mkF m 76 #[.val (.ref this), .val (.ref r1), .val (.int (Int32.ofNat n)), .val (.int (own_W wd (i + 1))), .val (.int (own_S wd i)), .val (.int (Int32.ofNat i))] []) _
    refine own_s_aloadN X45.here hx (hb hby own_d4_76) rfl rfl ?_
    obtain ⟨T54, X54, e54, st54⟩ := getF X45 hx hZ hown (host := "") (Or.inl (hw _ (List.mem_of_getElem? (i := 24) rfl))) Via.refl e45 f48 (g := (mkF m 77 #[.val (.ref this), .val (.ref r1), .val (.int (Int32.ofNat n)), .val (.int (own_W wd (i + 1))), .val (.int (own_S wd i)), .val (.int (Int32.ofNat i))] [(.ref this)])) rfl rfl (hb hby own_d4_77)
    refine own_by st54 ?_
    show own_Go p e below T54 (mkF m 80 #[.val (.ref this), .val (.ref r1), .val (.int (Int32.ofNat n)), .val (.int (own_W wd (i + 1))), .val (.int (own_S wd i)), .val (.int (Int32.ofNat i))] [(.ref aw)]) _
    refine own_s_iload X54.here hx (hb hby own_d4_80) rfl ?_
    refine own_s_iloadN X54.here hx (hb hby own_d4_82) rfl ?_
    obtain ⟨T55, h55, X55, e55, W55, fa55, st55⟩ := own_stI X54 hx hZ e54 f52 (k := i) (own_ix (by omega)) hin (g := (mkF m 83 #[.val (.ref this), .val (.ref r1), .val (.int (Int32.ofNat n)), .val (.int (own_W wd (i + 1))), .val (.int (own_S wd i)), .val (.int (Int32.ofNat i))] [(.int (own_W wd (i + 1))), (.int (Int32.ofNat i)), (.ref aw)])) rfl rfl (hb hby own_d4_83)
    have f56 := f46.wr W55
    have f57 := f47.other W55 (Or.inl ne_this_aw)
    have f58 := f48.other W55 (Or.inl ne_this_aw)
    have f59 := f49.other W55 (Or.inl ne_this_aw)
    have f60 := f50.other W55 (Or.inl ne_this_aw)
    have f61 := f51.other W55 ne_r1_aw
    have f62 := fa45.other W55 ne_am_aw
    have f63 := f53.other W55 (Ne.symm ne_aw_as)
    have N55 := Fr.snoc X55 N45 ge_aw
    have SZ55 : n0 ≤ h55.size := by rw [W55.size]; exact SZ45
    have K55 := K45.wr W55 (Or.inr sz_aw)
    refine own_by st55 ?_
    show own_Go p e below T55 (mkF m 84 #[.val (.ref this), .val (.ref r1), .val (.int (Int32.ofNat n)), .val (.int (own_W wd (i + 1))), .val (.int (own_S wd i)), .val (.int (Int32.ofNat i))] []) _
    refine own_s_aloadN X55.here hx (hb hby own_d4_84) rfl rfl ?_
    obtain ⟨T64, X64, e64, st64⟩ := getF X55 hx hZ hown (host := "") (Or.inl (hw _ (List.mem_of_getElem? (i := 26) rfl))) Via.refl e55 f59 (g := (mkF m 85 #[.val (.ref this), .val (.ref r1), .val (.int (Int32.ofNat n)), .val (.int (own_W wd (i + 1))), .val (.int (own_S wd i)), .val (.int (Int32.ofNat i))] [(.ref this)])) rfl rfl (hb hby own_d4_85)
    refine own_by st64 ?_
    show own_Go p e below T64 (mkF m 88 #[.val (.ref this), .val (.ref r1), .val (.int (Int32.ofNat n)), .val (.int (own_W wd (i + 1))), .val (.int (own_S wd i)), .val (.int (Int32.ofNat i))] [(.ref as)]) _
    refine own_s_iload X64.here hx (hb hby own_d4_88) rfl ?_
    refine own_s_iload X64.here hx (hb hby own_d4_90) rfl ?_
    obtain ⟨T65, h65, X65, e65, W65, fa65, st65⟩ := own_stI X64 hx hZ e64 f63 (k := i) (own_ix (by omega)) hin (g := (mkF m 92 #[.val (.ref this), .val (.ref r1), .val (.int (Int32.ofNat n)), .val (.int (own_W wd (i + 1))), .val (.int (own_S wd i)), .val (.int (Int32.ofNat i))] [(.int (own_S wd i)), (.int (Int32.ofNat i)), (.ref as)])) rfl rfl (hb hby own_d4_92)
    have f66 := f56.wr W65
    have f67 := f57.other W65 (Or.inl ne_this_as)
    have f68 := f58.other W65 (Or.inl ne_this_as)
    have f69 := f59.other W65 (Or.inl ne_this_as)
    have f70 := f60.other W65 (Or.inl ne_this_as)
    have f71 := f61.other W65 ne_r1_as
    have f72 := f62.other W65 ne_am_as
    have f73 := fa55.other W65 ne_aw_as
    have N65 := Fr.snoc X65 N55 ge_as
    have SZ65 : n0 ≤ h65.size := by rw [W65.size]; exact SZ55
    have K65 := K55.wr W65 (Or.inr sz_as)
    refine own_by st65 ?_
    show own_Go p e below T65 (mkF m 93 #[.val (.ref this), .val (.ref r1), .val (.int (Int32.ofNat n)), .val (.int (own_W wd (i + 1))), .val (.int (own_S wd i)), .val (.int (Int32.ofNat i))] []) _
    refine own_s_iload X65.here hx (hb hby own_d4_93) rfl ?_
    refine own_s_aloadN X65.here hx (hb hby own_d4_95) rfl rfl ?_
    refine own_s_iload X65.here hx (hb hby own_d4_96) rfl ?_
    refine own_by (fun tq_ kq_ => own_ldI X65 hx hZ e65 f71 (k := i) (v := (.int (wd i))) (own_ix (by omega)) hin rfl (g := (mkF m 98 #[.val (.ref this), .val (.ref r1), .val (.int (Int32.ofNat n)), .val (.int (own_W wd (i + 1))), .val (.int (own_S wd i)), .val (.int (Int32.ofNat i))] [(.int (Int32.ofNat i)), (.ref r1), (.int (own_S wd i))])) rfl rfl (hb hby own_d4_98) tq_ kq_) ?_
    show own_Go p e below T65 (mkF m 99 #[.val (.ref this), .val (.ref r1), .val (.int (Int32.ofNat n)), .val (.int (own_W wd (i + 1))), .val (.int (own_S wd i)), .val (.int (Int32.ofNat i))] [(.int (wd i)), (.int (own_S wd i))]) _
    refine own_s_iadd X65.here hx (hb hby own_d4_99) ?_
    refine own_s_istore X65.here hx #[.val (.ref this), .val (.ref r1), .val (.int (Int32.ofNat n)), .val (.int (own_W wd (i + 1))), .val (.int ((own_S wd i) + (wd i))), .val (.int (Int32.ofNat i))] (hb hby own_d4_100) rfl ?_
    show own_Go p e below T65 (mkF m 102 #[.val (.ref this), .val (.ref r1), .val (.int (Int32.ofNat n)), .val (.int (own_W wd (i + 1))), .val (.int (own_U wd (i + 1))), .val (.int (Int32.ofNat i))] []) _
    refine own_by (fun tq_ kq_ => XS.iinc X65.here hx rfl (hb hby own_d4_102) rfl (l' := #[.val (.ref this), .val (.ref r1), .val (.int (Int32.ofNat n)), .val (.int (own_W wd (i + 1))), .val (.int (own_U wd (i + 1))), .val (.int ((Int32.ofNat i) + (1 : Int32)))]) rfl kq_) ?_
    show own_Go p e below T65 (mkF m 105 #[.val (.ref this), .val (.ref r1), .val (.int (Int32.ofNat n)), .val (.int (own_W wd (i + 1))), .val (.int (own_U wd (i + 1))), .val (.int ((Int32.ofNat i) + (1 : Int32)))] []) _
    refine own_s_goto X65.here hx 36 (hb hby own_d4_105) (by decide) (by decide) ?_
    rw [own_ofs]
    exact hnext _ _ _ X65 e65 N65 SZ65 f66 f67 f68 f69 f70 f71 (f72.cong rfl (fun j _ => own_fl_up (fun j => own_mo (wd j)) i (fun _ => (.int (0 : Int32))) j)) (f73.cong rfl (fun j _ => own_fl_up (fun j => own_W wd (j + 1)) i (fun _ => (.int (0 : Int32))) j)) (fa65.cong rfl (fun j _ => own_fl_up (own_S wd) i (fun _ => (.int (0 : Int32))) j)) K65
set_option maxRecDepth 65536 in
set_option maxHeartbeats 40000000 in
theorem own_ini {p : Program} {l : Launch} {e : Env} {s : State} {m : MethodId} {args : Array Value} {below : List Frame} {meth : Method} {c : Code} {Z : State} {a0 : Array Value} {n0 : Nat} (hx : p.tables.exec = Jvm.exec) (hZ : Z.Warmed39 s.vm) (hw : ∀ d ∈ tables_1, d.before a0 Z = true) (hby : c.code = prog_21_method_2_code) (hml : c.maxLocals = 6) (hown : s.vm.findClass "com/example/lapse/lapse/MarkingCode" = some m.cls) (hnm : meth.name = "<init>") (hret : meth.sig.returnType = none) (hlk : meth.locks = false) (hs : Heap) (this r1 am aw as : Addr) (n : Nat) (wd : Nat → Int32) (hn : n ≤ 192) (ge_this : n0 ≤ this) (ge_am : n0 ≤ am) (ge_aw : n0 ≤ aw) (ge_as : n0 ≤ as) (sz_am : hs.size ≤ am) (sz_aw : hs.size ≤ aw) (sz_as : hs.size ≤ as) (ne_this_am : this ≠ am) (ne_this_aw : this ≠ aw) (ne_this_as : this ≠ as) (ne_r1_am : r1 ≠ am) (ne_r1_aw : r1 ≠ aw) (ne_r1_as : r1 ≠ as) (ne_am_aw : am ≠ aw) (ne_am_as : am ≠ as) (ne_aw_as : aw ≠ as) (ne_r1_this : r1 ≠ this) : ∀ (r i : Nat) (hin : i + r = n) {T0 : State} {locs : List Loc} {h0 : Heap} (X0 : Stand p l e ({ frames := 1, cells := 3, slots := 576, locals := 12 } : Room) s m args below meth c T0 locs 3 576) (e0 : T0.heap = h0) (N0 : Fr n0 locs) (Z0 : n0 ≤ h0.size) (F0 : Exa Z h0 this "com/example/lapse/lapse/MarkingCode") (F1 : Fld Z h0 this "com/example/lapse/lapse/MarkingCode" "most" "[I" (.ref am)) (F2 : Fld Z h0 this "com/example/lapse/lapse/MarkingCode" "words" "[I" (.ref aw)) (F3 : Fld Z h0 this "com/example/lapse/lapse/MarkingCode" "shifts" "[I" (.ref as)) (F4 : Fld Z h0 this "com/example/lapse/lapse/MarkingCode" "length" "I" (.int (0 : Int32))) (F5 : own_Av Z h0 r1 .int n (fun j => .int (wd j))) (F6 : own_Av Z h0 am .int n (own_fl (fun j => own_mo (wd j)) i (fun _ => (.int (0 : Int32))))) (F7 : own_Av Z h0 aw .int n (own_fl (fun j => own_W wd (j + 1)) i (fun _ => (.int (0 : Int32))))) (F8 : own_Av Z h0 as .int n (own_fl (own_S wd) i (fun _ => (.int (0 : Int32))))) (F9 : Keep hs h0 [this]),
    own_Go p e below T0 (mkF m 36 #[.val (.ref this), .val (.ref r1), .val (.int (Int32.ofNat n)), .val (.int (own_W wd i)), .val (.int (own_U wd i)), .val (.int (Int32.ofNat i))] []) (own_Fin s (fun (v : Option Value) (h : Heap) (L : List Loc) => v = none ∧ Fr n0 L ∧ Keep hs h [this] ∧ ∃ am aw as : Addr, n0 ≤ am ∧ n0 ≤ aw ∧ n0 ≤ as ∧ hs.size ≤ am ∧ hs.size ≤ aw ∧ hs.size ≤ as ∧ am ≠ aw ∧ am ≠ as ∧ aw ≠ as ∧ Fld Z h this "com/example/lapse/lapse/MarkingCode" "most" "[I" (.ref am) ∧ own_Av Z h am .int n (fun j => .int ((fun j => own_mo (wd j)) j)) ∧ Fld Z h this "com/example/lapse/lapse/MarkingCode" "words" "[I" (.ref aw) ∧ own_Av Z h aw .int n (fun j => .int ((fun j => own_W wd (j + 1)) j)) ∧ Fld Z h this "com/example/lapse/lapse/MarkingCode" "shifts" "[I" (.ref as) ∧ own_Av Z h as .int n (fun j => .int ((own_S wd) j)) ∧ Fld Z h this "com/example/lapse/lapse/MarkingCode" "length" "I" (.int (own_W wd n + (1 : Int32)))) 3 576) := by
  intro r
  induction r with
  | zero =>
    intro i hin T0 locs h0 X0 e0 N0 Z0 F0 F1 F2 F3 F4 F5 F6 F7 F8 F9
    exact own_ini_x hx hZ hw hby hml hown hnm hret hlk hs i this r1 am aw as n wd X0 e0 N0 Z0 hn ge_this ge_am ge_aw ge_as sz_am sz_aw sz_as ne_this_am ne_this_aw ne_this_as ne_r1_am ne_r1_aw ne_r1_as ne_am_aw ne_am_as ne_aw_as ne_r1_this (by omega) F0 F1 F2 F3 F4 F5 F6 F7 F8 F9
  | succ r ih =>
    intro i hin T0 locs h0 X0 e0 N0 Z0 F0 F1 F2 F3 F4 F5 F6 F7 F8 F9
    exact own_ini_t hx hZ hw hby hml hown hnm hret hlk hs i this r1 am aw as n wd X0 e0 N0 Z0 hn ge_this ge_am ge_aw ge_as sz_am sz_aw sz_as ne_this_am ne_this_aw ne_this_as ne_r1_am ne_r1_aw ne_r1_as ne_am_aw ne_am_as ne_aw_as ne_r1_this (by omega) F0 F1 F2 F3 F4 F5 F6 F7 F8 F9 (fun T1 locs1 h1 X1 e1 N1 Z1 G0 G1 G2 G3 G4 G5 G6 G7 G8 G9 => ih (i + 1) (by omega) X1 e1 N1 Z1 G0 G1 G2 G3 G4 G5 G6 G7 G8 G9)
theorem own_ef4 (m : MethodId) (this : Addr) (r1 : Addr) : entryFrame m #[(.ref this), (.ref r1)] 6 = mkF m 0 #[.val (.ref this), .val (.ref r1), .unset, .unset, .unset, .unset] [] := by first | (simp [entryFrame, mkF, argsToLocals, Value.category]; done) | rfl
def own_q_own_r4 (Z : State) (this : Addr) (r1 : Addr) (n : Nat) (wd : Nat → Int32) (h0 : Heap) (n0 : Nat) (v : Option Value) (h : Heap) (L : List Loc) : Prop := v = none ∧ Fr n0 L ∧ Keep h0 h [this] ∧ ∃ am aw as : Addr, n0 ≤ am ∧ n0 ≤ aw ∧ n0 ≤ as ∧ h0.size ≤ am ∧ h0.size ≤ aw ∧ h0.size ≤ as ∧ am ≠ aw ∧ am ≠ as ∧ aw ≠ as ∧ Fld Z h this "com/example/lapse/lapse/MarkingCode" "most" "[I" (.ref am) ∧ own_Av Z h am .int n (fun j => .int ((fun j => own_mo (wd j)) j)) ∧ Fld Z h this "com/example/lapse/lapse/MarkingCode" "words" "[I" (.ref aw) ∧ own_Av Z h aw .int n (fun j => .int ((fun j => own_W wd (j + 1)) j)) ∧ Fld Z h this "com/example/lapse/lapse/MarkingCode" "shifts" "[I" (.ref as) ∧ own_Av Z h as .int n (fun j => .int ((own_S wd) j)) ∧ Fld Z h this "com/example/lapse/lapse/MarkingCode" "length" "I" (.int (own_W wd n + (1 : Int32)))
set_option maxRecDepth 65536 in
set_option maxHeartbeats 40000000 in
theorem own_r4 (l : Launch) (Z : State) (a0 : Array Value) (hw : ∀ d ∈ tables_1, d.before a0 Z = true) (ws : List Jvm.Cond) (this : Addr) (r1 : Addr) (n : Nat) (wd : Nat → Int32) (h0 : Heap) (n0 : Nat) (Z0 : n0 ≤ h0.size) (hn : n ≤ 192) (E_this : Exa Z h0 this "com/example/lapse/lapse/MarkingCode") (F_this_most : Fld Z h0 this "com/example/lapse/lapse/MarkingCode" "most" "[I" .null) (F_this_words : Fld Z h0 this "com/example/lapse/lapse/MarkingCode" "words" "[I" .null) (F_this_shifts : Fld Z h0 this "com/example/lapse/lapse/MarkingCode" "shifts" "[I" .null) (F_this_length : Fld Z h0 this "com/example/lapse/lapse/MarkingCode" "length" "I" (.int (0 : Int32))) (ge_this : n0 ≤ this) (A_r1 : own_Av Z h0 r1 .int n (fun j => .int (wd j))) (ne_r1_this : r1 ≠ this) :
    MetFree l (⟨"com/example/lapse/lapse/MarkingCode", "<init>", "([I)V"⟩ : MethodName) (head1 (Jvm.Cond.code (⟨"com/example/lapse/lapse/MarkingCode", "<init>", "([I)V"⟩ : MethodName) prog_21_method_2_code 6 none :: ws) ({ frames := 1, cells := 3, slots := 576, locals := 12 } : Room)) (fun aq Uq => aq = #[(.ref this), (.ref r1)] ∧ Z.Warmed39 Uq.vm ∧ Uq.heap = h0) (fun _ _ _ _ _ => True) (fun _ Uq oq Uq' => ∃ vq Lq, oq = .returned vq ∧ own_q_own_r4 Z this r1 n wd h0 n0 vq Uq'.heap Lq ∧ FrameEnd Uq oq Uq' Lq ({ frames := 1, cells := 3, slots := 576, locals := 12 } : Room).cells ({ frames := 1, cells := 3, slots := 576, locals := 12 } : Room).slots) := by
  refine MetFree.of_bodySF (plainFor_of_name own_pn_MarkingCode) hisR ?_
  intro p e s m args below meth c T0 Bd hml0 hP hK
  obtain ⟨rfl, hZ, hh⟩ := hP
  have hx := Bd.exec
  have hby := Bd.bytes
  have hml : c.maxLocals = 6 := hml0
  have hown : s.vm.findClass "com/example/lapse/lapse/MarkingCode" = some m.cls := findClass_of_methodNamed Bd.named
  have hnm := (name_of_methodNamed Bd.named Bd.method).1
  have hret : meth.sig.returnType = none := Bd.returns
  have hlk : meth.locks = false := BodyLoose.notSynchronized Bd
  have X0 : Stand p l e ({ frames := 1, cells := 3, slots := 576, locals := 12 } : Room) s m #[(.ref this), (.ref r1)] below meth c T0 [] 0 0 := Stand.of_body Bd
  have e0 : T0.heap = h0 := by rw [← hh, Bd.state]; rfl
  have N0 := Fr.nil n0
  refine own_start (own_ef4 m this r1) (Q := fun (v : Option Value) (h : Heap) (L : List Loc) => v = none ∧ Fr n0 L ∧ Keep h0 h [this] ∧ ∃ am aw as : Addr, n0 ≤ am ∧ n0 ≤ aw ∧ n0 ≤ as ∧ h0.size ≤ am ∧ h0.size ≤ aw ∧ h0.size ≤ as ∧ am ≠ aw ∧ am ≠ as ∧ aw ≠ as ∧ Fld Z h this "com/example/lapse/lapse/MarkingCode" "most" "[I" (.ref am) ∧ own_Av Z h am .int n (fun j => .int ((fun j => own_mo (wd j)) j)) ∧ Fld Z h this "com/example/lapse/lapse/MarkingCode" "words" "[I" (.ref aw) ∧ own_Av Z h aw .int n (fun j => .int ((fun j => own_W wd (j + 1)) j)) ∧ Fld Z h this "com/example/lapse/lapse/MarkingCode" "shifts" "[I" (.ref as) ∧ own_Av Z h as .int n (fun j => .int ((own_S wd) j)) ∧ Fld Z h this "com/example/lapse/lapse/MarkingCode" "length" "I" (.int (own_W wd n + (1 : Int32)))) (k := 3) (j := 576) ?_
  show own_Go p e below T0 (mkF m 0 #[.val (.ref this), .val (.ref r1), .unset, .unset, .unset, .unset] []) _
  have K0 := Keep.refl h0 [this]
  refine own_s_aloadN X0.here hx (hb hby own_d4_0) rfl rfl ?_
  obtain ⟨T74, X74, e74, st74⟩ := initO X0 hx hZ hown (hw _ (List.mem_of_getElem? (i := 19) rfl)) (hw _ (List.mem_of_getElem? (i := 20) rfl)) (hw _ (List.mem_of_getElem? (i := 21) rfl)) e0 (g := (mkF m 1 #[.val (.ref this), .val (.ref r1), .unset, .unset, .unset, .unset] [(.ref this)])) rfl (by rw [hml]; rfl) rfl (hb hby own_d4_1) (by decide) (W := 0) (by show 2 * 0 + _ ≤ _; exact Nat.le_of_eq rfl) (by decide)
  refine own_by st74 ?_
  show own_Go p e below T74 (mkF m 4 #[.val (.ref this), .val (.ref r1), .unset, .unset, .unset, .unset] []) _
  refine own_s_aloadN X74.here hx (hb hby own_d4_4) rfl rfl ?_
  refine own_by (fun tq_ kq_ => own_len X74 hx hZ e74 A_r1 (z := (Int32.ofNat n)) rfl (g := (mkF m 5 #[.val (.ref this), .val (.ref r1), .unset, .unset, .unset, .unset] [(.ref r1)])) rfl rfl (hb hby own_d4_5) tq_ kq_) ?_
  show own_Go p e below T74 (mkF m 6 #[.val (.ref this), .val (.ref r1), .unset, .unset, .unset, .unset] [(.int (Int32.ofNat n))]) _
  refine own_s_istoreN X74.here hx #[.val (.ref this), .val (.ref r1), .val (.int (Int32.ofNat n)), .unset, .unset, .unset] (hb hby own_d4_6) rfl ?_
  refine own_s_aloadN X74.here hx (hb hby own_d4_7) rfl rfl ?_
  refine own_s_iloadN X74.here hx (hb hby own_d4_8) rfl ?_
  obtain ⟨T75, h75, k75, X75, e75, E75, A75, st75⟩ := newP X74 hx hZ (hw _ (List.mem_of_getElem? (i := 2) rfl)) e74 (g := (mkF m 9 #[.val (.ref this), .val (.ref r1), .val (.int (Int32.ofNat n)), .unset, .unset, .unset] [(.int (Int32.ofNat n)), (.ref this)])) rfl (hb hby own_d4_9) rfl ((own_ix (by omega)).1) (cap := 192) (by rw [(own_ix (by omega)).2]; exact hn) (by decide) (by decide) (by decide)
  obtain ⟨b75, g75⟩ : ∃ z, z = h0.size := ⟨_, rfl⟩
  rw [← g75] at A75 st75
  have ge_b75 : n0 ≤ b75 := Nat.le_trans Z0 (Nat.le_of_eq g75.symm)
  have sz_b75 : h0.size ≤ b75 := Nat.le_trans K0.1 (Nat.le_of_eq g75.symm)
  have ne_this_b75 : this ≠ b75 := Nat.ne_of_lt (Nat.lt_of_lt_of_le E_this.lt (Nat.le_of_eq g75.symm))
  have ne_r1_b75 : r1 ≠ b75 := Nat.ne_of_lt (Nat.lt_of_lt_of_le A_r1.lt (Nat.le_of_eq g75.symm))
  have f76 := E_this.ext E75
  have f77 := F_this_most.ext E75
  have f78 := F_this_words.ext E75
  have f79 := F_this_shifts.ext E75
  have f80 := F_this_length.ext E75
  have f81 := A_r1.ext E75
  have SZ75 : n0 ≤ h75.size := Nat.le_trans Z0 E75.1
  have K75 := K0.ext E75
  have f82 : own_Av Z h75 b75 .int n (fun _ => (.int (0 : Int32))) := own_Av.ofnew A75 ((own_ix (by omega)).2) rfl
  refine own_by st75 ?_
  show own_Go p e below T75 (mkF m 11 #[.val (.ref this), .val (.ref r1), .val (.int (Int32.ofNat n)), .unset, .unset, .unset] [(.ref b75), (.ref this)]) _
  obtain ⟨T83, h83, X83, e83, W83, st83⟩ := putF X75 hx hZ hown (host := "") (Or.inl (hw _ (List.mem_of_getElem? (i := 22) rfl))) Via.refl e75 f77 f76 (Or.inr ⟨(hw _ (List.mem_of_getElem? (i := 23) rfl)), rfl, hnm⟩) (hw _ (List.mem_of_getElem? (i := 4) rfl)) (ty := (.array .int)) (by decide) rfl rfl (g := (mkF m 11 #[.val (.ref this), .val (.ref r1), .val (.int (Int32.ofNat n)), .unset, .unset, .unset] [(.ref b75), (.ref this)])) rfl rfl (hb hby own_d4_11)
  have fw83 := f77.same W83
  have f84 := f76.wr W83
  have f85 := f78.other W83 (Or.inr (slot_ne (Or.inr (hw _ (List.mem_of_getElem? (i := 25) rfl))) (Or.inr (hw _ (List.mem_of_getElem? (i := 23) rfl))) (by decide) (t := (.array .int)) (t' := (.array .int)) (by decide) (by decide)))
  have f86 := f79.other W83 (Or.inr (slot_ne (Or.inr (hw _ (List.mem_of_getElem? (i := 27) rfl))) (Or.inr (hw _ (List.mem_of_getElem? (i := 23) rfl))) (by decide) (t := (.array .int)) (t' := (.array .int)) (by decide) (by decide)))
  have f87 := f80.other W83 (Or.inr (slot_ne (Or.inr (hw _ (List.mem_of_getElem? (i := 29) rfl))) (Or.inr (hw _ (List.mem_of_getElem? (i := 23) rfl))) (by decide) (t := .int) (t' := (.array .int)) (by decide) (by decide)))
  have f88 := f81.other W83 ne_r1_this
  have f89 := f82.other W83 (Ne.symm ne_this_b75)
  have N83 := Fr.snoc X83 N0 ge_this
  have SZ83 : n0 ≤ h83.size := by rw [W83.size]; exact SZ75
  have K83 := K75.wr W83 (Or.inl (List.mem_of_getElem? (i := 0) rfl))
  refine own_by st83 ?_
  show own_Go p e below T83 (mkF m 14 #[.val (.ref this), .val (.ref r1), .val (.int (Int32.ofNat n)), .unset, .unset, .unset] []) _
  refine own_s_aloadN X83.here hx (hb hby own_d4_14) rfl rfl ?_
  refine own_s_iloadN X83.here hx (hb hby own_d4_15) rfl ?_
  obtain ⟨T90, h90, k90, X90, e90, E90, A90, st90⟩ := newP X83 hx hZ (hw _ (List.mem_of_getElem? (i := 2) rfl)) e83 (g := (mkF m 16 #[.val (.ref this), .val (.ref r1), .val (.int (Int32.ofNat n)), .unset, .unset, .unset] [(.int (Int32.ofNat n)), (.ref this)])) rfl (hb hby own_d4_16) rfl ((own_ix (by omega)).1) (cap := 192) (by rw [(own_ix (by omega)).2]; exact hn) (by decide) (by decide) (by decide)
  obtain ⟨b90, g90⟩ : ∃ z, z = h83.size := ⟨_, rfl⟩
  rw [← g90] at A90 st90
  have ge_b90 : n0 ≤ b90 := Nat.le_trans SZ83 (Nat.le_of_eq g90.symm)
  have sz_b90 : h0.size ≤ b90 := Nat.le_trans K83.1 (Nat.le_of_eq g90.symm)
  have ne_this_b90 : this ≠ b90 := Nat.ne_of_lt (Nat.lt_of_lt_of_le f84.lt (Nat.le_of_eq g90.symm))
  have ne_r1_b90 : r1 ≠ b90 := Nat.ne_of_lt (Nat.lt_of_lt_of_le f88.lt (Nat.le_of_eq g90.symm))
  have ne_b75_b90 : b75 ≠ b90 := Nat.ne_of_lt (Nat.lt_of_lt_of_le f89.lt (Nat.le_of_eq g90.symm))
  have f91 := f84.ext E90
  have f92 := fw83.ext E90
  have f93 := f85.ext E90
  have f94 := f86.ext E90
  have f95 := f87.ext E90
  have f96 := f88.ext E90
  have f97 := f89.ext E90
  have SZ90 : n0 ≤ h90.size := Nat.le_trans SZ83 E90.1
  have K90 := K83.ext E90
  have f98 : own_Av Z h90 b90 .int n (fun _ => (.int (0 : Int32))) := own_Av.ofnew A90 ((own_ix (by omega)).2) rfl
  refine own_by st90 ?_
  show own_Go p e below T90 (mkF m 18 #[.val (.ref this), .val (.ref r1), .val (.int (Int32.ofNat n)), .unset, .unset, .unset] [(.ref b90), (.ref this)]) _
  obtain ⟨T99, h99, X99, e99, W99, st99⟩ := putF X90 hx hZ hown (host := "") (Or.inl (hw _ (List.mem_of_getElem? (i := 24) rfl))) Via.refl e90 f93 f91 (Or.inr ⟨(hw _ (List.mem_of_getElem? (i := 25) rfl)), rfl, hnm⟩) (hw _ (List.mem_of_getElem? (i := 4) rfl)) (ty := (.array .int)) (by decide) rfl rfl (g := (mkF m 18 #[.val (.ref this), .val (.ref r1), .val (.int (Int32.ofNat n)), .unset, .unset, .unset] [(.ref b90), (.ref this)])) rfl rfl (hb hby own_d4_18)
  have fw99 := f93.same W99
  have f100 := f91.wr W99
  have f101 := f92.other W99 (Or.inr (slot_ne (Or.inr (hw _ (List.mem_of_getElem? (i := 23) rfl))) (Or.inr (hw _ (List.mem_of_getElem? (i := 25) rfl))) (by decide) (t := (.array .int)) (t' := (.array .int)) (by decide) (by decide)))
  have f102 := f94.other W99 (Or.inr (slot_ne (Or.inr (hw _ (List.mem_of_getElem? (i := 27) rfl))) (Or.inr (hw _ (List.mem_of_getElem? (i := 25) rfl))) (by decide) (t := (.array .int)) (t' := (.array .int)) (by decide) (by decide)))
  have f103 := f95.other W99 (Or.inr (slot_ne (Or.inr (hw _ (List.mem_of_getElem? (i := 29) rfl))) (Or.inr (hw _ (List.mem_of_getElem? (i := 25) rfl))) (by decide) (t := .int) (t' := (.array .int)) (by decide) (by decide)))
  have f104 := f96.other W99 ne_r1_this
  have f105 := f97.other W99 (Ne.symm ne_this_b75)
  have f106 := f98.other W99 (Ne.symm ne_this_b90)
  have N99 := Fr.snoc X99 N83 ge_this
  have SZ99 : n0 ≤ h99.size := by rw [W99.size]; exact SZ90
  have K99 := K90.wr W99 (Or.inl (List.mem_of_getElem? (i := 0) rfl))
  refine own_by st99 ?_
  show own_Go p e below T99 (mkF m 21 #[.val (.ref this), .val (.ref r1), .val (.int (Int32.ofNat n)), .unset, .unset, .unset] []) _
  refine own_s_aloadN X99.here hx (hb hby own_d4_21) rfl rfl ?_
  refine own_s_iloadN X99.here hx (hb hby own_d4_22) rfl ?_
  obtain ⟨T107, h107, k107, X107, e107, E107, A107, st107⟩ := newP X99 hx hZ (hw _ (List.mem_of_getElem? (i := 2) rfl)) e99 (g := (mkF m 23 #[.val (.ref this), .val (.ref r1), .val (.int (Int32.ofNat n)), .unset, .unset, .unset] [(.int (Int32.ofNat n)), (.ref this)])) rfl (hb hby own_d4_23) rfl ((own_ix (by omega)).1) (cap := 192) (by rw [(own_ix (by omega)).2]; exact hn) (by decide) (by decide) (by decide)
  obtain ⟨b107, g107⟩ : ∃ z, z = h99.size := ⟨_, rfl⟩
  rw [← g107] at A107 st107
  have ge_b107 : n0 ≤ b107 := Nat.le_trans SZ99 (Nat.le_of_eq g107.symm)
  have sz_b107 : h0.size ≤ b107 := Nat.le_trans K99.1 (Nat.le_of_eq g107.symm)
  have ne_this_b107 : this ≠ b107 := Nat.ne_of_lt (Nat.lt_of_lt_of_le f100.lt (Nat.le_of_eq g107.symm))
  have ne_r1_b107 : r1 ≠ b107 := Nat.ne_of_lt (Nat.lt_of_lt_of_le f104.lt (Nat.le_of_eq g107.symm))
  have ne_b75_b107 : b75 ≠ b107 := Nat.ne_of_lt (Nat.lt_of_lt_of_le f105.lt (Nat.le_of_eq g107.symm))
  have ne_b90_b107 : b90 ≠ b107 := Nat.ne_of_lt (Nat.lt_of_lt_of_le f106.lt (Nat.le_of_eq g107.symm))
  have f108 := f100.ext E107
  have f109 := f101.ext E107
  have f110 := fw99.ext E107
  have f111 := f102.ext E107
  have f112 := f103.ext E107
  have f113 := f104.ext E107
  have f114 := f105.ext E107
  have f115 := f106.ext E107
  have SZ107 : n0 ≤ h107.size := Nat.le_trans SZ99 E107.1
  have K107 := K99.ext E107
  have f116 : own_Av Z h107 b107 .int n (fun _ => (.int (0 : Int32))) := own_Av.ofnew A107 ((own_ix (by omega)).2) rfl
  refine own_by st107 ?_
  show own_Go p e below T107 (mkF m 25 #[.val (.ref this), .val (.ref r1), .val (.int (Int32.ofNat n)), .unset, .unset, .unset] [(.ref b107), (.ref this)]) _
  obtain ⟨T117, h117, X117, e117, W117, st117⟩ := putF X107 hx hZ hown (host := "") (Or.inl (hw _ (List.mem_of_getElem? (i := 26) rfl))) Via.refl e107 f111 f108 (Or.inr ⟨(hw _ (List.mem_of_getElem? (i := 27) rfl)), rfl, hnm⟩) (hw _ (List.mem_of_getElem? (i := 4) rfl)) (ty := (.array .int)) (by decide) rfl rfl (g := (mkF m 25 #[.val (.ref this), .val (.ref r1), .val (.int (Int32.ofNat n)), .unset, .unset, .unset] [(.ref b107), (.ref this)])) rfl rfl (hb hby own_d4_25)
  have fw117 := f111.same W117
  have f118 := f108.wr W117
  have f119 := f109.other W117 (Or.inr (slot_ne (Or.inr (hw _ (List.mem_of_getElem? (i := 23) rfl))) (Or.inr (hw _ (List.mem_of_getElem? (i := 27) rfl))) (by decide) (t := (.array .int)) (t' := (.array .int)) (by decide) (by decide)))
  have f120 := f110.other W117 (Or.inr (slot_ne (Or.inr (hw _ (List.mem_of_getElem? (i := 25) rfl))) (Or.inr (hw _ (List.mem_of_getElem? (i := 27) rfl))) (by decide) (t := (.array .int)) (t' := (.array .int)) (by decide) (by decide)))
  have f121 := f112.other W117 (Or.inr (slot_ne (Or.inr (hw _ (List.mem_of_getElem? (i := 29) rfl))) (Or.inr (hw _ (List.mem_of_getElem? (i := 27) rfl))) (by decide) (t := .int) (t' := (.array .int)) (by decide) (by decide)))
  have f122 := f113.other W117 ne_r1_this
  have f123 := f114.other W117 (Ne.symm ne_this_b75)
  have f124 := f115.other W117 (Ne.symm ne_this_b90)
  have f125 := f116.other W117 (Ne.symm ne_this_b107)
  have N117 := Fr.snoc X117 N99 ge_this
  have SZ117 : n0 ≤ h117.size := by rw [W117.size]; exact SZ107
  have K117 := K107.wr W117 (Or.inl (List.mem_of_getElem? (i := 0) rfl))
  refine own_by st117 ?_
  show own_Go p e below T117 (mkF m 28 #[.val (.ref this), .val (.ref r1), .val (.int (Int32.ofNat n)), .unset, .unset, .unset] []) _
  refine own_s_iconst X117.here hx (0 : Int32) (hb hby own_d4_28) rfl ?_
  refine own_s_istoreN X117.here hx #[.val (.ref this), .val (.ref r1), .val (.int (Int32.ofNat n)), .val (.int (0 : Int32)), .unset, .unset] (hb hby own_d4_29) rfl ?_
  refine own_s_iconst X117.here hx (0 : Int32) (hb hby own_d4_30) rfl ?_
  refine own_s_istore X117.here hx #[.val (.ref this), .val (.ref r1), .val (.int (Int32.ofNat n)), .val (.int (0 : Int32)), .val (.int (0 : Int32)), .unset] (hb hby own_d4_31) rfl ?_
  refine own_s_iconst X117.here hx (0 : Int32) (hb hby own_d4_33) rfl ?_
  refine own_s_istore X117.here hx #[.val (.ref this), .val (.ref r1), .val (.int (Int32.ofNat n)), .val (.int (0 : Int32)), .val (.int (0 : Int32)), .val (.int (0 : Int32))] (hb hby own_d4_34) rfl ?_
  show own_Go p e below T117 (mkF m 36 #[.val (.ref this), .val (.ref r1), .val (.int (Int32.ofNat n)), .val (.int (own_W wd 0)), .val (.int (own_U wd 0)), .val (.int (Int32.ofNat 0))] []) _
  exact own_ini hx hZ hw hby hml hown hnm hret hlk h0 this r1 b75 b90 b107 n wd hn ge_this ge_b75 ge_b90 ge_b107 sz_b75 sz_b90 sz_b107 ne_this_b75 ne_this_b90 ne_this_b107 ne_r1_b75 ne_r1_b90 ne_r1_b107 ne_b75_b90 ne_b75_b107 ne_b90_b107 ne_r1_this n 0 (by omega) X117 e117 N117 SZ117 f118 f119 f120 fw117 f121 f122 (f123.cong rfl (fun j _ => own_fl0 (fun j => own_mo (wd j)) (fun _ => (.int (0 : Int32))) j)) (f124.cong rfl (fun j _ => own_fl0 (fun j => own_W wd (j + 1)) (fun _ => (.int (0 : Int32))) j)) (f125.cong rfl (fun j _ => own_fl0 (own_S wd) (fun _ => (.int (0 : Int32))) j)) K117
theorem own_d1_0 : decode prog_21_method_1_code 0 = .ok (.aload_n 0, 1) := by decide +kernel
theorem own_d1_1 : decode prog_21_method_1_code 1 = .ok (.iload_n 1, 1) := by decide +kernel
theorem own_d1_2 : decode prog_21_method_1_code 2 = .ok (.invokestatic 1, 3) := by decide +kernel
theorem own_d1_5 : decode prog_21_method_1_code 5 = .ok (.invokespecial 7, 3) := by decide +kernel
theorem own_d1_8 : decode prog_21_method_1_code 8 = .ok (.return_, 1) := by decide +kernel
theorem own_ef1 (m : MethodId) (this : Addr) (z_ : Int32) : entryFrame m #[(.ref this), (.int z_)] 2 = mkF m 0 #[.val (.ref this), .val (.int z_)] [] := by first | (simp [entryFrame, mkF, argsToLocals, Value.category]; done) | rfl
theorem own_pd_1 : parseMethodDescriptor "(I)[I" = some ⟨[.int], some (.array .int)⟩ := by decide +kernel
theorem own_pd_3 : parseMethodDescriptor "([I)V" = some ⟨[(.array .int)], none⟩ := by decide +kernel
def own_q_own_r1 (Z : State) (this : Addr) (z_ : Int32) (n : Nat) (h0 : Heap) (n0 : Nat) (v : Option Value) (h : Heap) (L : List Loc) : Prop := v = none ∧ Fr n0 L ∧ Keep h0 h [this] ∧ ∃ am aw as : Addr, n0 ≤ am ∧ n0 ≤ aw ∧ n0 ≤ as ∧ h0.size ≤ am ∧ h0.size ≤ aw ∧ h0.size ≤ as ∧ am ≠ aw ∧ am ≠ as ∧ aw ≠ as ∧ Fld Z h this "com/example/lapse/lapse/MarkingCode" "most" "[I" (.ref am) ∧ own_Av Z h am .int n (fun j => .int ((fun j => own_mo ((fun _ => (1 : Int32)) j)) j)) ∧ Fld Z h this "com/example/lapse/lapse/MarkingCode" "words" "[I" (.ref aw) ∧ own_Av Z h aw .int n (fun j => .int ((fun j => own_W (fun _ => (1 : Int32)) (j + 1)) j)) ∧ Fld Z h this "com/example/lapse/lapse/MarkingCode" "shifts" "[I" (.ref as) ∧ own_Av Z h as .int n (fun j => .int ((own_S (fun _ => (1 : Int32))) j)) ∧ Fld Z h this "com/example/lapse/lapse/MarkingCode" "length" "I" (.int (own_W (fun _ => (1 : Int32)) n + (1 : Int32)))
set_option maxRecDepth 65536 in
set_option maxHeartbeats 40000000 in
theorem own_r1 (l : Launch) (Z : State) (a0 : Array Value) (hw : ∀ d ∈ tables_1, d.before a0 Z = true) (ws : List Jvm.Cond) (this : Addr) (z_ : Int32) (n : Nat) (h0 : Heap) (n0 : Nat) (Z0 : n0 ≤ h0.size) (hz : z_.toNatClampNeg = n) (hneg : ¬ z_ < 0) (hle : n ≤ 192) (E_this : Exa Z h0 this "com/example/lapse/lapse/MarkingCode") (F_this_most : Fld Z h0 this "com/example/lapse/lapse/MarkingCode" "most" "[I" .null) (F_this_words : Fld Z h0 this "com/example/lapse/lapse/MarkingCode" "words" "[I" .null) (F_this_shifts : Fld Z h0 this "com/example/lapse/lapse/MarkingCode" "shifts" "[I" .null) (F_this_length : Fld Z h0 this "com/example/lapse/lapse/MarkingCode" "length" "I" (.int (0 : Int32))) (ge_this : n0 ≤ this) :
    MetFree l (⟨"com/example/lapse/lapse/MarkingCode", "<init>", "(I)V"⟩ : MethodName) (head1 (Jvm.Cond.code (⟨"com/example/lapse/lapse/MarkingCode", "<init>", "(I)V"⟩ : MethodName) prog_21_method_1_code 2 none :: ws) ({ frames := 2, cells := 4, slots := 768, locals := 29 } : Room)) (fun aq Uq => aq = #[(.ref this), (.int z_)] ∧ Z.Warmed39 Uq.vm ∧ Uq.heap = h0) (fun _ _ _ _ _ => True) (fun _ Uq oq Uq' => ∃ vq Lq, oq = .returned vq ∧ own_q_own_r1 Z this z_ n h0 n0 vq Uq'.heap Lq ∧ FrameEnd Uq oq Uq' Lq ({ frames := 2, cells := 4, slots := 768, locals := 29 } : Room).cells ({ frames := 2, cells := 4, slots := 768, locals := 29 } : Room).slots) := by
  refine MetFree.of_bodySF (plainFor_of_name own_pn_MarkingCode) hisR ?_
  intro p e s m args below meth c T0 Bd hml0 hP hK
  obtain ⟨rfl, hZ, hh⟩ := hP
  have hx := Bd.exec
  have hby := Bd.bytes
  have hml : c.maxLocals = 2 := hml0
  have hown : s.vm.findClass "com/example/lapse/lapse/MarkingCode" = some m.cls := findClass_of_methodNamed Bd.named
  have hnm := (name_of_methodNamed Bd.named Bd.method).1
  have hret : meth.sig.returnType = none := Bd.returns
  have hlk : meth.locks = false := BodyLoose.notSynchronized Bd
  have X0 : Stand p l e ({ frames := 2, cells := 4, slots := 768, locals := 29 } : Room) s m #[(.ref this), (.int z_)] below meth c T0 [] 0 0 := Stand.of_body Bd
  have e0 : T0.heap = h0 := by rw [← hh, Bd.state]; rfl
  have N0 := Fr.nil n0
  refine own_start (own_ef1 m this z_) (Q := fun (v : Option Value) (h : Heap) (L : List Loc) => v = none ∧ Fr n0 L ∧ Keep h0 h [this] ∧ ∃ am aw as : Addr, n0 ≤ am ∧ n0 ≤ aw ∧ n0 ≤ as ∧ h0.size ≤ am ∧ h0.size ≤ aw ∧ h0.size ≤ as ∧ am ≠ aw ∧ am ≠ as ∧ aw ≠ as ∧ Fld Z h this "com/example/lapse/lapse/MarkingCode" "most" "[I" (.ref am) ∧ own_Av Z h am .int n (fun j => .int ((fun j => own_mo ((fun _ => (1 : Int32)) j)) j)) ∧ Fld Z h this "com/example/lapse/lapse/MarkingCode" "words" "[I" (.ref aw) ∧ own_Av Z h aw .int n (fun j => .int ((fun j => own_W (fun _ => (1 : Int32)) (j + 1)) j)) ∧ Fld Z h this "com/example/lapse/lapse/MarkingCode" "shifts" "[I" (.ref as) ∧ own_Av Z h as .int n (fun j => .int ((own_S (fun _ => (1 : Int32))) j)) ∧ Fld Z h this "com/example/lapse/lapse/MarkingCode" "length" "I" (.int (own_W (fun _ => (1 : Int32)) n + (1 : Int32)))) (k := 4) (j := 768) ?_
  show own_Go p e below T0 (mkF m 0 #[.val (.ref this), .val (.int z_)] []) _
  have K0 := Keep.refl h0 [this]
  refine own_s_aloadN X0.here hx (hb hby own_d1_0) rfl rfl ?_
  refine own_s_iloadN X0.here hx (hb hby own_d1_1) rfl ?_
  obtain ⟨_, _, ⟨T126, L126, k126, n126⟩, -, X126, ⟨Lc126, hQ126, l126, y126, z126⟩, st126⟩ := Jvm.LawKit.callS X0 hx (y := (⟨"com/example/lapse/lapse/MarkingCode", "ones", "(I)[I"⟩ : MethodName)) hown (mvT hZ (hw _ (List.mem_of_getElem? (i := 9) rfl))) (mvT hZ (hw _ (List.mem_of_getElem? (i := 10) rfl))) (mvT hZ (hw _ (List.mem_of_getElem? (i := 5) rfl))) (mvT hZ (hw _ (List.mem_of_getElem? (i := 11) rfl))) (by decide) (backOf (W := 1) (own_r2 l Z a0 hw [] z_ n h0 n0 Z0 hz hneg hle) hZ (hw _ (List.mem_of_getElem? (i := 11) rfl)) (hw _ (List.mem_of_getElem? (i := 5) rfl)) (by decide) (by decide)) (g := (mkF m 2 #[.val (.ref this), .val (.int z_)] [(.int z_), (.ref this)])) rfl (by rw [hml]; rfl) (argsL := [(.int z_)]) (rest := [(.ref this)]) (lenOf own_pd_1 rfl) rfl (by show 2 * 0 + _ ≤ _; exact Nat.le_of_eq rfl) (hb hby own_d1_2) (fun _ _ => ⟨rfl, e0, (by decide : 0 + 1 ≤ _), (by decide : 0 + 192 ≤ _)⟩)
  dsimp only [Pt.U, Pt.locs, Pt.cells, Pt.slots] at X126 l126 y126 z126 st126 hQ126
  subst l126 y126 z126
  obtain ⟨bb126, rfl, N126q, gb126, zb126, K126, fa126⟩ := hQ126
  have N126 := Fr.app N0 N126q
  have f127 := E_this.keep K126
  have f128 := F_this_most.keep K126 nin0
  have f129 := F_this_words.keep K126 nin0
  have f130 := F_this_shifts.keep K126 nin0
  have f131 := F_this_length.keep K126 nin0
  have SZ126 : n0 ≤ T126.heap.size := Nat.le_trans Z0 K126.1
  have KC126 := K0.trans K126 all0
  refine own_by st126 ?_
  have sz_bb126 : h0.size ≤ bb126 := Nat.le_trans K0.1 zb126
  have ne_this_bb126 : this ≠ bb126 := Nat.ne_of_lt (Nat.lt_of_lt_of_le E_this.lt zb126)
  show own_Go p e below T126 (mkF m 5 #[.val (.ref this), .val (.int z_)] [(.ref bb126), (.ref this)]) _
  obtain ⟨_, _, ⟨T132, L132, k132, n132⟩, -, X132, ⟨Lc132, hQ132, l132, y132, z132⟩, st132⟩ := X126.specialBack hx (y := (⟨"com/example/lapse/lapse/MarkingCode", "<init>", "([I)V"⟩ : MethodName)) rfl hown (mvT hZ (hw _ (List.mem_of_getElem? (i := 16) rfl))) (mvT hZ (hw _ (List.mem_of_getElem? (i := 17) rfl))) (mvT hZ (hw _ (List.mem_of_getElem? (i := 18) rfl))) (by decide) (backOf (W := 0) (own_r4 l Z a0 hw [] this bb126 n (fun _ => (1 : Int32)) T126.heap n0 SZ126 hle f127 f128 f129 f130 f131 ge_this fa126 (Ne.symm ne_this_bb126)) hZ (hw _ (List.mem_of_getElem? (i := 18) rfl)) (hw _ (List.mem_of_getElem? (i := 5) rfl)) (by decide) (by decide)) (g := (mkF m 5 #[.val (.ref this), .val (.int z_)] [(.ref bb126), (.ref this)])) rfl (by rw [hml]; rfl) (Steps.refl _) (a := this) (argsL := [(.ref bb126)]) (rest := []) (lenOf own_pd_3 rfl) rfl (by show 2 * 0 + _ ≤ _; exact Nat.le_of_eq rfl) (hb hby own_d1_5) (fun _ _ => ⟨rfl, rfl, (by decide : 1 + 3 ≤ _), (by decide : 192 + 576 ≤ _)⟩)
  dsimp only [Pt.U, Pt.locs, Pt.cells, Pt.slots] at X132 l132 y132 z132 st132 hQ132
  subst l132 y132 z132
  obtain ⟨rfl, N132q, K132, am132, aw132, as132, gm132, gw132, gs132, zm132, zw132, zs132, nmw132, nms132, nws132, fm132, Am132, fw132, Aw132, fs132, As132, fl132⟩ := hQ132
  have N132 := Fr.app N126 N132q
  have f133 := f127.keep K132
  have f134 := fa126.keep K132 (ninS (Ne.symm ne_this_bb126) nin0)
  have SZ132 : n0 ≤ T132.heap.size := Nat.le_trans SZ126 K132.1
  have KC132 := KC126.trans K132 (allS (Or.inl (List.mem_of_getElem? (i := 0) rfl)) all0)
  refine own_by (fun t k => st132.trans k) ?_
  have sz_am132 : h0.size ≤ am132 := Nat.le_trans KC126.1 zm132
  have ne_this_am132 : this ≠ am132 := Nat.ne_of_lt (Nat.lt_of_lt_of_le f127.lt zm132)
  have ne_bb126_am132 : bb126 ≠ am132 := Nat.ne_of_lt (Nat.lt_of_lt_of_le fa126.lt zm132)
  have sz_aw132 : h0.size ≤ aw132 := Nat.le_trans KC126.1 zw132
  have ne_this_aw132 : this ≠ aw132 := Nat.ne_of_lt (Nat.lt_of_lt_of_le f127.lt zw132)
  have ne_bb126_aw132 : bb126 ≠ aw132 := Nat.ne_of_lt (Nat.lt_of_lt_of_le fa126.lt zw132)
  have sz_as132 : h0.size ≤ as132 := Nat.le_trans KC126.1 zs132
  have ne_this_as132 : this ≠ as132 := Nat.ne_of_lt (Nat.lt_of_lt_of_le f127.lt zs132)
  have ne_bb126_as132 : bb126 ≠ as132 := Nat.ne_of_lt (Nat.lt_of_lt_of_le fa126.lt zs132)
  show own_Go p e below T132 (mkF m 8 #[.val (.ref this), .val (.int z_)] []) _
  refine own_retV X132 hx hret hlk (hb hby own_d1_8) (by decide) (by decide) ?_
  exact ⟨rfl, N132, KC132, am132, aw132, as132, gm132, gw132, gs132, sz_am132, sz_aw132, sz_as132, nmw132, nms132, nws132, fm132, Am132, fw132, Aw132, fs132, As132, fl132⟩
theorem own_cf (i : Nat) (hi : i < 1000) : own_U (fun _ => (1 : Int32)) i = Int32.ofNat (if i = 0 then 0 else (i - 1) % 64 + 1) ∧ own_W (fun _ => (1 : Int32)) i = Int32.ofNat ((i - 1) / 64) := by
  induction i with
  | zero => exact ⟨rfl, rfl⟩
  | succ i ih =>
    obtain ⟨e1, e2⟩ := ih (by omega)
    rw [if_neg (by omega), show i + 1 - 1 = i from by omega]
    show (if (64 : Int32) < (own_U (fun _ => (1 : Int32)) i + (1 : Int32)) then (0 : Int32) else own_U (fun _ => (1 : Int32)) i) + (1 : Int32) = _ ∧ (if (64 : Int32) < (own_U (fun _ => (1 : Int32)) i + (1 : Int32)) then (own_W (fun _ => (1 : Int32)) i + (1 : Int32)) else own_W (fun _ => (1 : Int32)) i) = _
    rw [e1, e2, own_ofs]
    by_cases q : (64 : Int32) < Int32.ofNat ((if i = 0 then 0 else (i - 1) % 64 + 1) + 1)
    · rw [if_pos q, if_pos q]
      have q' := (own_oflt (i := 64) (by omega) (by split <;> omega)).mp q
      have hz : ¬ i = 0 := fun z => by rw [if_pos z] at q'; omega
      rw [if_neg hz] at q'
      refine ⟨?_, ?_⟩
      · rw [show i % 64 + 1 = 0 + 1 from by omega]; rfl
      · rw [own_ofs, show (i - 1) / 64 + 1 = i / 64 from by omega]
    · rw [if_neg q, if_neg q]
      have q' : ¬ 64 < (if i = 0 then 0 else (i - 1) % 64 + 1) + 1 := fun z => q ((own_oflt (i := 64) (by omega) (by split <;> omega)).mpr z)
      rw [own_ofs]
      by_cases hz : i = 0
      · subst hz; exact ⟨rfl, rfl⟩
      · rw [if_neg hz] at q' ⊢
        rw [show (i - 1) % 64 + 1 + 1 = i % 64 + 1 from by omega, show (i - 1) / 64 = i / 64 from by omega]
        exact ⟨rfl, rfl⟩
theorem own_cfS (i : Nat) (hi : i < 999) : own_S (fun _ => (1 : Int32)) i = Int32.ofNat (i % 64) := by
  have e := own_U1 (fun _ => (1 : Int32)) i
  rw [(own_cf (i + 1) (by omega)).1, if_neg (by omega), show i + 1 - 1 = i from by omega, ← own_ofs] at e
  exact (Int32.add_left_inj (1 : Int32)).mp e.symm
theorem own_cfW (i : Nat) (hi : i < 999) : own_W (fun _ => (1 : Int32)) (i + 1) = Int32.ofNat (i / 64) := by
  rw [(own_cf (i + 1) (by omega)).2, show i + 1 - 1 = i from by omega]
theorem own_cfL (n : Nat) (hn : n < 999) : own_W (fun _ => (1 : Int32)) n + (1 : Int32) = Int32.ofNat ((n - 1) / 64 + 1) := by
  rw [(own_cf n (by omega)).2, own_ofs]
theorem own_mo1 : own_mo (1 : Int32) = (1 : Int32) := by decide
theorem own_ix2 {o w : Nat} (h : o + w < 2147483648) : own_At (Int32.ofNat o + Int32.ofNat w) (o + w) := by
  rw [← Int32.ofNat_add]; exact own_ix h
theorem own_d6_0 : decode prog_21_method_7_code 0 = .ok (.iconst 0, 1) := by decide +kernel
theorem own_d6_1 : decode prog_21_method_7_code 1 = .ok (.istore 4, 2) := by decide +kernel
theorem own_d6_3 : decode prog_21_method_7_code 3 = .ok (.iconst 0, 1) := by decide +kernel
theorem own_d6_4 : decode prog_21_method_7_code 4 = .ok (.istore 5, 2) := by decide +kernel
theorem own_d6_6 : decode prog_21_method_7_code 6 = .ok (.iload 5, 2) := by decide +kernel
theorem own_d6_8 : decode prog_21_method_7_code 8 = .ok (.aload_n 0, 1) := by decide +kernel
theorem own_d6_9 : decode prog_21_method_7_code 9 = .ok (.getfield 28, 3) := by decide +kernel
theorem own_d6_12 : decode prog_21_method_7_code 12 = .ok (.if_icmp .ge 68, 3) := by decide +kernel
theorem own_d6_15 : decode prog_21_method_7_code 15 = .ok (.aload_n 1, 1) := by decide +kernel
theorem own_d6_16 : decode prog_21_method_7_code 16 = .ok (.iload_n 2, 1) := by decide +kernel
theorem own_d6_17 : decode prog_21_method_7_code 17 = .ok (.iload 5, 2) := by decide +kernel
theorem own_d6_19 : decode prog_21_method_7_code 19 = .ok (.iadd, 1) := by decide +kernel
theorem own_d6_20 : decode prog_21_method_7_code 20 = .ok (.laload, 1) := by decide +kernel
theorem own_d6_21 : decode prog_21_method_7_code 21 = .ok (.lstore 6, 2) := by decide +kernel
theorem own_d6_23 : decode prog_21_method_7_code 23 = .ok (.iload 4, 2) := by decide +kernel
theorem own_d6_25 : decode prog_21_method_7_code 25 = .ok (.aload_n 0, 1) := by decide +kernel
theorem own_d6_26 : decode prog_21_method_7_code 26 = .ok (.getfield 16, 3) := by decide +kernel
theorem own_d6_29 : decode prog_21_method_7_code 29 = .ok (.arraylength, 1) := by decide +kernel
theorem own_d6_30 : decode prog_21_method_7_code 30 = .ok (.if_icmp .ge 44, 3) := by decide +kernel
theorem own_d6_33 : decode prog_21_method_7_code 33 = .ok (.aload_n 0, 1) := by decide +kernel
theorem own_d6_34 : decode prog_21_method_7_code 34 = .ok (.getfield 20, 3) := by decide +kernel
theorem own_d6_37 : decode prog_21_method_7_code 37 = .ok (.iload 4, 2) := by decide +kernel
theorem own_d6_39 : decode prog_21_method_7_code 39 = .ok (.iaload, 1) := by decide +kernel
theorem own_d6_40 : decode prog_21_method_7_code 40 = .ok (.iload 5, 2) := by decide +kernel
theorem own_d6_42 : decode prog_21_method_7_code 42 = .ok (.if_icmp .ne 32, 3) := by decide +kernel
theorem own_d6_45 : decode prog_21_method_7_code 45 = .ok (.aload_n 3, 1) := by decide +kernel
theorem own_d6_46 : decode prog_21_method_7_code 46 = .ok (.iload 4, 2) := by decide +kernel
theorem own_d6_48 : decode prog_21_method_7_code 48 = .ok (.lload 6, 2) := by decide +kernel
theorem own_d6_50 : decode prog_21_method_7_code 50 = .ok (.aload_n 0, 1) := by decide +kernel
theorem own_d6_51 : decode prog_21_method_7_code 51 = .ok (.getfield 23, 3) := by decide +kernel
theorem own_d6_54 : decode prog_21_method_7_code 54 = .ok (.iload 4, 2) := by decide +kernel
theorem own_d6_56 : decode prog_21_method_7_code 56 = .ok (.iaload, 1) := by decide +kernel
theorem own_d6_57 : decode prog_21_method_7_code 57 = .ok (.lushr, 1) := by decide +kernel
theorem own_d6_58 : decode prog_21_method_7_code 58 = .ok (.l2i, 1) := by decide +kernel
theorem own_d6_59 : decode prog_21_method_7_code 59 = .ok (.aload_n 0, 1) := by decide +kernel
theorem own_d6_60 : decode prog_21_method_7_code 60 = .ok (.getfield 16, 3) := by decide +kernel
theorem own_d6_63 : decode prog_21_method_7_code 63 = .ok (.iload 4, 2) := by decide +kernel
theorem own_d6_65 : decode prog_21_method_7_code 65 = .ok (.iaload, 1) := by decide +kernel
theorem own_d6_66 : decode prog_21_method_7_code 66 = .ok (.iand, 1) := by decide +kernel
theorem own_d6_67 : decode prog_21_method_7_code 67 = .ok (.iastore, 1) := by decide +kernel
theorem own_d6_68 : decode prog_21_method_7_code 68 = .ok (.iinc 4 1, 3) := by decide +kernel
theorem own_d6_71 : decode prog_21_method_7_code 71 = .ok (.goto (-48), 3) := by decide +kernel
theorem own_d6_74 : decode prog_21_method_7_code 74 = .ok (.iinc 5 1, 3) := by decide +kernel
theorem own_d6_77 : decode prog_21_method_7_code 77 = .ok (.goto (-71), 3) := by decide +kernel
theorem own_d6_80 : decode prog_21_method_7_code 80 = .ok (.return_, 1) := by decide +kernel
set_option maxRecDepth 65536 in
set_option maxHeartbeats 40000000 in
theorem own_inn_x {p : Program} {l : Launch} {e : Env} {s : State} {m : MethodId} {args : Array Value} {below : List Frame} {meth : Method} {c : Code} {Z : State} {a0 : Array Value} {n0 : Nat} (hx : p.tables.exec = Jvm.exec) (hZ : Z.Warmed39 s.vm) (hw : ∀ d ∈ tables_1, d.before a0 Z = true) (hby : c.code = prog_21_method_7_code) (hml : c.maxLocals = 8) (hown : s.vm.findClass "com/example/lapse/lapse/MarkingCode" = some m.cls) (hnm : meth.name = "unpack") (hret : meth.sig.returnType = none) (hlk : meth.locks = false) (hs : Heap) (i : Nat) (this pk in_ am aw as : Addr) (n o : Nat) (pf g_ : Nat → Value) (B : Nat → Int32) (w e_ : Nat) (wv : Int64) {T0 : State} {locs : List Loc} {h0 : Heap} (X0 : Stand p l e ({ frames := 0, cells := 0, slots := 0, locals := 0 } : Room) s m args below meth c T0 locs 0 0) (e0 : T0.heap = h0) (N0 : Fr n0 locs) (Z0 : n0 ≤ h0.size) (hn : n ≤ 192) (ge_in : n0 ≤ in_) (ne_this_in_ : this ≠ in_) (ne_am_in_ : am ≠ in_) (ne_aw_in_ : aw ≠ in_) (ne_as_in_ : as ≠ in_) (ne_pk_in_ : pk ≠ in_) (he1 : e_ ≤ n) (he2 : e_ ≤ 64 * (w + 1)) (he3 : e_ = n ∨ e_ = 64 * (w + 1)) (hB : ∀ j, j < n → j / 64 = w → ((((wv.toUInt64 >>> ((Int32.ofNat (j % 64)) &&& 0x3f).toInt64.toUInt64).toInt64).toInt32) &&& (1 : Int32)) = B j) (hk : ∀ (T1 : State) (locs1 : List Loc) (h1 : Heap), Stand p l e ({ frames := 0, cells := 0, slots := 0, locals := 0 } : Room) s m args below meth c T1 locs1 0 0 → T1.heap = h1 → Fr n0 locs1 → n0 ≤ h1.size → Fld Z h1 this "com/example/lapse/lapse/MarkingCode" "most" "[I" (.ref am) → own_Av Z h1 am .int n (fun _ => .int (1 : Int32)) → Fld Z h1 this "com/example/lapse/lapse/MarkingCode" "words" "[I" (.ref aw) → own_Av Z h1 aw .int n (fun j => .int (Int32.ofNat (j / 64))) → Fld Z h1 this "com/example/lapse/lapse/MarkingCode" "shifts" "[I" (.ref as) → own_Av Z h1 as .int n (fun j => .int (Int32.ofNat (j % 64))) → Fld Z h1 this "com/example/lapse/lapse/MarkingCode" "length" "I" (.int (Int32.ofNat ((n - 1) / 64 + 1))) → own_Av Z h1 pk .long 7 pf → own_Av Z h1 in_ .int 193 (own_fl B e_ g_) → Keep hs h1 [in_] → own_Go p e below T1 (mkF m 74 #[.val (.ref this), .val (.ref pk), .val (.int (Int32.ofNat o)), .val (.ref in_), .val (.int (Int32.ofNat e_)), .val (.int (Int32.ofNat w)), .val (.long wv), .second] []) (own_Fin s (fun (v : Option Value) (h : Heap) (L : List Loc) => v = none ∧ Fr n0 L ∧ Keep hs h [in_] ∧ own_Av Z h in_ .int 193 (own_fl B n g_)) 0 0)) (hin : i = e_) (F0 : Fld Z h0 this "com/example/lapse/lapse/MarkingCode" "most" "[I" (.ref am)) (F1 : own_Av Z h0 am .int n (fun _ => .int (1 : Int32))) (F2 : Fld Z h0 this "com/example/lapse/lapse/MarkingCode" "words" "[I" (.ref aw)) (F3 : own_Av Z h0 aw .int n (fun j => .int (Int32.ofNat (j / 64)))) (F4 : Fld Z h0 this "com/example/lapse/lapse/MarkingCode" "shifts" "[I" (.ref as)) (F5 : own_Av Z h0 as .int n (fun j => .int (Int32.ofNat (j % 64)))) (F6 : Fld Z h0 this "com/example/lapse/lapse/MarkingCode" "length" "I" (.int (Int32.ofNat ((n - 1) / 64 + 1)))) (F7 : own_Av Z h0 pk .long 7 pf) (F8 : own_Av Z h0 in_ .int 193 (own_fl B i g_)) (F9 : Keep hs h0 [in_]) (F10 : 64 * w ≤ i) :
    own_Go p e below T0 (mkF m 23 #[.val (.ref this), .val (.ref pk), .val (.int (Int32.ofNat o)), .val (.ref in_), .val (.int (Int32.ofNat i)), .val (.int (Int32.ofNat w)), .val (.long wv), .second] []) (own_Fin s (fun (v : Option Value) (h : Heap) (L : List Loc) => v = none ∧ Fr n0 L ∧ Keep hs h [in_] ∧ own_Av Z h in_ .int 193 (own_fl B n g_)) 0 0) := by
  show own_Go p e below T0 (mkF m 23 #[.val (.ref this), .val (.ref pk), .val (.int (Int32.ofNat o)), .val (.ref in_), .val (.int (Int32.ofNat i)), .val (.int (Int32.ofNat w)), .val (.long wv), .second] []) _
  refine own_s_iload X0.here hx (hb hby own_d6_23) rfl ?_
  refine own_s_aloadN X0.here hx (hb hby own_d6_25) rfl rfl ?_
  obtain ⟨T135, X135, e135, st135⟩ := getF X0 hx hZ hown (host := "") (Or.inl (hw _ (List.mem_of_getElem? (i := 22) rfl))) Via.refl e0 F0 (g := (mkF m 26 #[.val (.ref this), .val (.ref pk), .val (.int (Int32.ofNat o)), .val (.ref in_), .val (.int (Int32.ofNat i)), .val (.int (Int32.ofNat w)), .val (.long wv), .second] [(.ref this), (.int (Int32.ofNat i))])) rfl rfl (hb hby own_d6_26)
  refine own_by st135 ?_
  show own_Go p e below T135 (mkF m 29 #[.val (.ref this), .val (.ref pk), .val (.int (Int32.ofNat o)), .val (.ref in_), .val (.int (Int32.ofNat i)), .val (.int (Int32.ofNat w)), .val (.long wv), .second] [(.ref am), (.int (Int32.ofNat i))]) _
  refine own_by (fun tq_ kq_ => own_len X135 hx hZ e135 F1 (z := (Int32.ofNat n)) rfl (g := (mkF m 29 #[.val (.ref this), .val (.ref pk), .val (.int (Int32.ofNat o)), .val (.ref in_), .val (.int (Int32.ofNat i)), .val (.int (Int32.ofNat w)), .val (.long wv), .second] [(.ref am), (.int (Int32.ofNat i))])) rfl rfl (hb hby own_d6_29) tq_ kq_) ?_
  show own_Go p e below T135 (mkF m 30 #[.val (.ref this), .val (.ref pk), .val (.int (Int32.ofNat o)), .val (.ref in_), .val (.int (Int32.ofNat i)), .val (.int (Int32.ofNat w)), .val (.long wv), .second] [(.int (Int32.ofNat n)), (.int (Int32.ofNat i))]) _
  by_cases hc30 : (Int32.ofNat i) < (Int32.ofNat n)
  ·
    refine own_s_icmpNo X135.here hx (hb hby own_d6_30) (Jvm.Free.XT.ii_ge_f hc30) ?_
    refine own_s_aloadN X135.here hx (hb hby own_d6_33) rfl rfl ?_
    obtain ⟨T136, X136, e136, st136⟩ := getF X135 hx hZ hown (host := "") (Or.inl (hw _ (List.mem_of_getElem? (i := 24) rfl))) Via.refl e135 F2 (g := (mkF m 34 #[.val (.ref this), .val (.ref pk), .val (.int (Int32.ofNat o)), .val (.ref in_), .val (.int (Int32.ofNat i)), .val (.int (Int32.ofNat w)), .val (.long wv), .second] [(.ref this)])) rfl rfl (hb hby own_d6_34)
    refine own_by st136 ?_
    show own_Go p e below T136 (mkF m 37 #[.val (.ref this), .val (.ref pk), .val (.int (Int32.ofNat o)), .val (.ref in_), .val (.int (Int32.ofNat i)), .val (.int (Int32.ofNat w)), .val (.long wv), .second] [(.ref aw)]) _
    refine own_s_iload X136.here hx (hb hby own_d6_37) rfl ?_
    refine own_by (fun tq_ kq_ => own_ldI X136 hx hZ e136 F3 (k := i) (v := (.int (Int32.ofNat (i / 64)))) (own_ix (by omega)) ((own_oflt (by omega) (by omega)).mp hc30) rfl (g := (mkF m 39 #[.val (.ref this), .val (.ref pk), .val (.int (Int32.ofNat o)), .val (.ref in_), .val (.int (Int32.ofNat i)), .val (.int (Int32.ofNat w)), .val (.long wv), .second] [(.int (Int32.ofNat i)), (.ref aw)])) rfl rfl (hb hby own_d6_39) tq_ kq_) ?_
    show own_Go p e below T136 (mkF m 40 #[.val (.ref this), .val (.ref pk), .val (.int (Int32.ofNat o)), .val (.ref in_), .val (.int (Int32.ofNat i)), .val (.int (Int32.ofNat w)), .val (.long wv), .second] [(.int (Int32.ofNat (i / 64)))]) _
    refine own_s_iload X136.here hx (hb hby own_d6_40) rfl ?_
    show own_Go p e below T136 (mkF m 42 #[.val (.ref this), .val (.ref pk), .val (.int (Int32.ofNat o)), .val (.ref in_), .val (.int (Int32.ofNat i)), .val (.int (Int32.ofNat w)), .val (.long wv), .second] [(.int (Int32.ofNat w)), (.int (Int32.ofNat (i / 64)))]) _
    refine own_s_icmpYes X136.here hx 74 (hb hby own_d6_42) (Jvm.Free.XT.ii_ne_t ((fun q => absurd ((own_ofeq (by omega) (by omega)).mp q) (by have := (own_oflt (by omega) (by omega)).mp hc30; omega)))) (by decide) (by decide) ?_
    subst hin
    exact hk _ _ _ X136 e136 N0 Z0 F0 F1 F2 F3 F4 F5 F6 F7 F8 F9
  ·
    refine own_s_icmpYes X135.here hx 74 (hb hby own_d6_30) (Jvm.Free.XT.ii_ge_t hc30) (by decide) (by decide) ?_
    subst hin
    exact hk _ _ _ X135 e135 N0 Z0 F0 F1 F2 F3 F4 F5 F6 F7 F8 F9
set_option maxRecDepth 65536 in
set_option maxHeartbeats 40000000 in
theorem own_inn_t {p : Program} {l : Launch} {e : Env} {s : State} {m : MethodId} {args : Array Value} {below : List Frame} {meth : Method} {c : Code} {Z : State} {a0 : Array Value} {n0 : Nat} (hx : p.tables.exec = Jvm.exec) (hZ : Z.Warmed39 s.vm) (hw : ∀ d ∈ tables_1, d.before a0 Z = true) (hby : c.code = prog_21_method_7_code) (hml : c.maxLocals = 8) (hown : s.vm.findClass "com/example/lapse/lapse/MarkingCode" = some m.cls) (hnm : meth.name = "unpack") (hret : meth.sig.returnType = none) (hlk : meth.locks = false) (hs : Heap) (i : Nat) (this pk in_ am aw as : Addr) (n o : Nat) (pf g_ : Nat → Value) (B : Nat → Int32) (w e_ : Nat) (wv : Int64) {T0 : State} {locs : List Loc} {h0 : Heap} (X0 : Stand p l e ({ frames := 0, cells := 0, slots := 0, locals := 0 } : Room) s m args below meth c T0 locs 0 0) (e0 : T0.heap = h0) (N0 : Fr n0 locs) (Z0 : n0 ≤ h0.size) (hn : n ≤ 192) (ge_in : n0 ≤ in_) (ne_this_in_ : this ≠ in_) (ne_am_in_ : am ≠ in_) (ne_aw_in_ : aw ≠ in_) (ne_as_in_ : as ≠ in_) (ne_pk_in_ : pk ≠ in_) (he1 : e_ ≤ n) (he2 : e_ ≤ 64 * (w + 1)) (he3 : e_ = n ∨ e_ = 64 * (w + 1)) (hB : ∀ j, j < n → j / 64 = w → ((((wv.toUInt64 >>> ((Int32.ofNat (j % 64)) &&& 0x3f).toInt64.toUInt64).toInt64).toInt32) &&& (1 : Int32)) = B j) (hk : ∀ (T1 : State) (locs1 : List Loc) (h1 : Heap), Stand p l e ({ frames := 0, cells := 0, slots := 0, locals := 0 } : Room) s m args below meth c T1 locs1 0 0 → T1.heap = h1 → Fr n0 locs1 → n0 ≤ h1.size → Fld Z h1 this "com/example/lapse/lapse/MarkingCode" "most" "[I" (.ref am) → own_Av Z h1 am .int n (fun _ => .int (1 : Int32)) → Fld Z h1 this "com/example/lapse/lapse/MarkingCode" "words" "[I" (.ref aw) → own_Av Z h1 aw .int n (fun j => .int (Int32.ofNat (j / 64))) → Fld Z h1 this "com/example/lapse/lapse/MarkingCode" "shifts" "[I" (.ref as) → own_Av Z h1 as .int n (fun j => .int (Int32.ofNat (j % 64))) → Fld Z h1 this "com/example/lapse/lapse/MarkingCode" "length" "I" (.int (Int32.ofNat ((n - 1) / 64 + 1))) → own_Av Z h1 pk .long 7 pf → own_Av Z h1 in_ .int 193 (own_fl B e_ g_) → Keep hs h1 [in_] → own_Go p e below T1 (mkF m 74 #[.val (.ref this), .val (.ref pk), .val (.int (Int32.ofNat o)), .val (.ref in_), .val (.int (Int32.ofNat e_)), .val (.int (Int32.ofNat w)), .val (.long wv), .second] []) (own_Fin s (fun (v : Option Value) (h : Heap) (L : List Loc) => v = none ∧ Fr n0 L ∧ Keep hs h [in_] ∧ own_Av Z h in_ .int 193 (own_fl B n g_)) 0 0)) (hin : i < e_) (F0 : Fld Z h0 this "com/example/lapse/lapse/MarkingCode" "most" "[I" (.ref am)) (F1 : own_Av Z h0 am .int n (fun _ => .int (1 : Int32))) (F2 : Fld Z h0 this "com/example/lapse/lapse/MarkingCode" "words" "[I" (.ref aw)) (F3 : own_Av Z h0 aw .int n (fun j => .int (Int32.ofNat (j / 64)))) (F4 : Fld Z h0 this "com/example/lapse/lapse/MarkingCode" "shifts" "[I" (.ref as)) (F5 : own_Av Z h0 as .int n (fun j => .int (Int32.ofNat (j % 64)))) (F6 : Fld Z h0 this "com/example/lapse/lapse/MarkingCode" "length" "I" (.int (Int32.ofNat ((n - 1) / 64 + 1)))) (F7 : own_Av Z h0 pk .long 7 pf) (F8 : own_Av Z h0 in_ .int 193 (own_fl B i g_)) (F9 : Keep hs h0 [in_]) (F10 : 64 * w ≤ i) (hnext : ∀ (T1 : State) (locs1 : List Loc) (h1 : Heap), Stand p l e ({ frames := 0, cells := 0, slots := 0, locals := 0 } : Room) s m args below meth c T1 locs1 0 0 → T1.heap = h1 → Fr n0 locs1 → n0 ≤ h1.size → Fld Z h1 this "com/example/lapse/lapse/MarkingCode" "most" "[I" (.ref am) → own_Av Z h1 am .int n (fun _ => .int (1 : Int32)) → Fld Z h1 this "com/example/lapse/lapse/MarkingCode" "words" "[I" (.ref aw) → own_Av Z h1 aw .int n (fun j => .int (Int32.ofNat (j / 64))) → Fld Z h1 this "com/example/lapse/lapse/MarkingCode" "shifts" "[I" (.ref as) → own_Av Z h1 as .int n (fun j => .int (Int32.ofNat (j % 64))) → Fld Z h1 this "com/example/lapse/lapse/MarkingCode" "length" "I" (.int (Int32.ofNat ((n - 1) / 64 + 1))) → own_Av Z h1 pk .long 7 pf → own_Av Z h1 in_ .int 193 (own_fl B (i + 1) g_) → Keep hs h1 [in_] → 64 * w ≤ (i + 1) → own_Go p e below T1 (mkF m 23 #[.val (.ref this), .val (.ref pk), .val (.int (Int32.ofNat o)), .val (.ref in_), .val (.int (Int32.ofNat (i + 1))), .val (.int (Int32.ofNat w)), .val (.long wv), .second] []) (own_Fin s (fun (v : Option Value) (h : Heap) (L : List Loc) => v = none ∧ Fr n0 L ∧ Keep hs h [in_] ∧ own_Av Z h in_ .int 193 (own_fl B n g_)) 0 0)) :
    own_Go p e below T0 (mkF m 23 #[.val (.ref this), .val (.ref pk), .val (.int (Int32.ofNat o)), .val (.ref in_), .val (.int (Int32.ofNat i)), .val (.int (Int32.ofNat w)), .val (.long wv), .second] []) (own_Fin s (fun (v : Option Value) (h : Heap) (L : List Loc) => v = none ∧ Fr n0 L ∧ Keep hs h [in_] ∧ own_Av Z h in_ .int 193 (own_fl B n g_)) 0 0) := by
  show own_Go p e below T0 (mkF m 23 #[.val (.ref this), .val (.ref pk), .val (.int (Int32.ofNat o)), .val (.ref in_), .val (.int (Int32.ofNat i)), .val (.int (Int32.ofNat w)), .val (.long wv), .second] []) _
  refine own_s_iload X0.here hx (hb hby own_d6_23) rfl ?_
  refine own_s_aloadN X0.here hx (hb hby own_d6_25) rfl rfl ?_
  obtain ⟨T137, X137, e137, st137⟩ := getF X0 hx hZ hown (host := "") (Or.inl (hw _ (List.mem_of_getElem? (i := 22) rfl))) Via.refl e0 F0 (g := (mkF m 26 #[.val (.ref this), .val (.ref pk), .val (.int (Int32.ofNat o)), .val (.ref in_), .val (.int (Int32.ofNat i)), .val (.int (Int32.ofNat w)), .val (.long wv), .second] [(.ref this), (.int (Int32.ofNat i))])) rfl rfl (hb hby own_d6_26)
  refine own_by st137 ?_
  show own_Go p e below T137 (mkF m 29 #[.val (.ref this), .val (.ref pk), .val (.int (Int32.ofNat o)), .val (.ref in_), .val (.int (Int32.ofNat i)), .val (.int (Int32.ofNat w)), .val (.long wv), .second] [(.ref am), (.int (Int32.ofNat i))]) _
  refine own_by (fun tq_ kq_ => own_len X137 hx hZ e137 F1 (z := (Int32.ofNat n)) rfl (g := (mkF m 29 #[.val (.ref this), .val (.ref pk), .val (.int (Int32.ofNat o)), .val (.ref in_), .val (.int (Int32.ofNat i)), .val (.int (Int32.ofNat w)), .val (.long wv), .second] [(.ref am), (.int (Int32.ofNat i))])) rfl rfl (hb hby own_d6_29) tq_ kq_) ?_
  show own_Go p e below T137 (mkF m 30 #[.val (.ref this), .val (.ref pk), .val (.int (Int32.ofNat o)), .val (.ref in_), .val (.int (Int32.ofNat i)), .val (.int (Int32.ofNat w)), .val (.long wv), .second] [(.int (Int32.ofNat n)), (.int (Int32.ofNat i))]) _
  refine own_s_icmpNo X137.here hx (hb hby own_d6_30) (Jvm.Free.XT.ii_ge_f (((own_oflt (by omega) (by omega)).mpr (by omega)))) ?_
  refine own_s_aloadN X137.here hx (hb hby own_d6_33) rfl rfl ?_
  obtain ⟨T138, X138, e138, st138⟩ := getF X137 hx hZ hown (host := "") (Or.inl (hw _ (List.mem_of_getElem? (i := 24) rfl))) Via.refl e137 F2 (g := (mkF m 34 #[.val (.ref this), .val (.ref pk), .val (.int (Int32.ofNat o)), .val (.ref in_), .val (.int (Int32.ofNat i)), .val (.int (Int32.ofNat w)), .val (.long wv), .second] [(.ref this)])) rfl rfl (hb hby own_d6_34)
  refine own_by st138 ?_
  show own_Go p e below T138 (mkF m 37 #[.val (.ref this), .val (.ref pk), .val (.int (Int32.ofNat o)), .val (.ref in_), .val (.int (Int32.ofNat i)), .val (.int (Int32.ofNat w)), .val (.long wv), .second] [(.ref aw)]) _
  refine own_s_iload X138.here hx (hb hby own_d6_37) rfl ?_
  refine own_by (fun tq_ kq_ => own_ldI X138 hx hZ e138 F3 (k := i) (v := (.int (Int32.ofNat (i / 64)))) (own_ix (by omega)) (by omega) rfl (g := (mkF m 39 #[.val (.ref this), .val (.ref pk), .val (.int (Int32.ofNat o)), .val (.ref in_), .val (.int (Int32.ofNat i)), .val (.int (Int32.ofNat w)), .val (.long wv), .second] [(.int (Int32.ofNat i)), (.ref aw)])) rfl rfl (hb hby own_d6_39) tq_ kq_) ?_
  show own_Go p e below T138 (mkF m 40 #[.val (.ref this), .val (.ref pk), .val (.int (Int32.ofNat o)), .val (.ref in_), .val (.int (Int32.ofNat i)), .val (.int (Int32.ofNat w)), .val (.long wv), .second] [(.int (Int32.ofNat (i / 64)))]) _
  refine own_s_iload X138.here hx (hb hby own_d6_40) rfl ?_
  refine own_s_icmpNo X138.here hx (hb hby own_d6_42) (Jvm.Free.XT.ii_ne_f ((by rw [show i / 64 = w from by omega]))) ?_
  refine own_s_aloadN X138.here hx (hb hby own_d6_45) rfl rfl ?_
  refine own_s_iload X138.here hx (hb hby own_d6_46) rfl ?_
  refine own_s_lload X138.here hx (hb hby own_d6_48) rfl ?_
  refine own_s_aloadN X138.here hx (hb hby own_d6_50) rfl rfl ?_
  obtain ⟨T139, X139, e139, st139⟩ := getF X138 hx hZ hown (host := "") (Or.inl (hw _ (List.mem_of_getElem? (i := 26) rfl))) Via.refl e138 F4 (g := (mkF m 51 #[.val (.ref this), .val (.ref pk), .val (.int (Int32.ofNat o)), .val (.ref in_), .val (.int (Int32.ofNat i)), .val (.int (Int32.ofNat w)), .val (.long wv), .second] [(.ref this), (.long wv), (.int (Int32.ofNat i)), (.ref in_)])) rfl rfl (hb hby own_d6_51)
  refine own_by st139 ?_
  show own_Go p e below T139 (mkF m 54 #[.val (.ref this), .val (.ref pk), .val (.int (Int32.ofNat o)), .val (.ref in_), .val (.int (Int32.ofNat i)), .val (.int (Int32.ofNat w)), .val (.long wv), .second] [(.ref as), (.long wv), (.int (Int32.ofNat i)), (.ref in_)]) _
  refine own_s_iload X139.here hx (hb hby own_d6_54) rfl ?_
  refine own_by (fun tq_ kq_ => own_ldI X139 hx hZ e139 F5 (k := i) (v := (.int (Int32.ofNat (i % 64)))) (own_ix (by omega)) (by omega) rfl (g := (mkF m 56 #[.val (.ref this), .val (.ref pk), .val (.int (Int32.ofNat o)), .val (.ref in_), .val (.int (Int32.ofNat i)), .val (.int (Int32.ofNat w)), .val (.long wv), .second] [(.int (Int32.ofNat i)), (.ref as), (.long wv), (.int (Int32.ofNat i)), (.ref in_)])) rfl rfl (hb hby own_d6_56) tq_ kq_) ?_
  show own_Go p e below T139 (mkF m 57 #[.val (.ref this), .val (.ref pk), .val (.int (Int32.ofNat o)), .val (.ref in_), .val (.int (Int32.ofNat i)), .val (.int (Int32.ofNat w)), .val (.long wv), .second] [(.int (Int32.ofNat (i % 64))), (.long wv), (.int (Int32.ofNat i)), (.ref in_)]) _
  refine own_s_lushr X139.here hx (hb hby own_d6_57) ?_
  refine own_s_l2i X139.here hx (hb hby own_d6_58) ?_
  refine own_s_aloadN X139.here hx (hb hby own_d6_59) rfl rfl ?_
  obtain ⟨T140, X140, e140, st140⟩ := getF X139 hx hZ hown (host := "") (Or.inl (hw _ (List.mem_of_getElem? (i := 22) rfl))) Via.refl e139 F0 (g := (mkF m 60 #[.val (.ref this), .val (.ref pk), .val (.int (Int32.ofNat o)), .val (.ref in_), .val (.int (Int32.ofNat i)), .val (.int (Int32.ofNat w)), .val (.long wv), .second] [(.ref this), (.int (((wv.toUInt64 >>> ((Int32.ofNat (i % 64)) &&& 0x3f).toInt64.toUInt64).toInt64).toInt32)), (.int (Int32.ofNat i)), (.ref in_)])) rfl rfl (hb hby own_d6_60)
  refine own_by st140 ?_
  show own_Go p e below T140 (mkF m 63 #[.val (.ref this), .val (.ref pk), .val (.int (Int32.ofNat o)), .val (.ref in_), .val (.int (Int32.ofNat i)), .val (.int (Int32.ofNat w)), .val (.long wv), .second] [(.ref am), (.int (((wv.toUInt64 >>> ((Int32.ofNat (i % 64)) &&& 0x3f).toInt64.toUInt64).toInt64).toInt32)), (.int (Int32.ofNat i)), (.ref in_)]) _
  refine own_s_iload X140.here hx (hb hby own_d6_63) rfl ?_
  refine own_by (fun tq_ kq_ => own_ldI X140 hx hZ e140 F1 (k := i) (v := (.int (1 : Int32))) (own_ix (by omega)) (by omega) rfl (g := (mkF m 65 #[.val (.ref this), .val (.ref pk), .val (.int (Int32.ofNat o)), .val (.ref in_), .val (.int (Int32.ofNat i)), .val (.int (Int32.ofNat w)), .val (.long wv), .second] [(.int (Int32.ofNat i)), (.ref am), (.int (((wv.toUInt64 >>> ((Int32.ofNat (i % 64)) &&& 0x3f).toInt64.toUInt64).toInt64).toInt32)), (.int (Int32.ofNat i)), (.ref in_)])) rfl rfl (hb hby own_d6_65) tq_ kq_) ?_
  show own_Go p e below T140 (mkF m 66 #[.val (.ref this), .val (.ref pk), .val (.int (Int32.ofNat o)), .val (.ref in_), .val (.int (Int32.ofNat i)), .val (.int (Int32.ofNat w)), .val (.long wv), .second] [(.int (1 : Int32)), (.int (((wv.toUInt64 >>> ((Int32.ofNat (i % 64)) &&& 0x3f).toInt64.toUInt64).toInt64).toInt32)), (.int (Int32.ofNat i)), (.ref in_)]) _
  refine own_s_iand X140.here hx (hb hby own_d6_66) ?_
  rw [hB i (by omega) (by omega)]
  show own_Go p e below T140 (mkF m 67 #[.val (.ref this), .val (.ref pk), .val (.int (Int32.ofNat o)), .val (.ref in_), .val (.int (Int32.ofNat i)), .val (.int (Int32.ofNat w)), .val (.long wv), .second] [(.int (B i)), (.int (Int32.ofNat i)), (.ref in_)]) _
  obtain ⟨T141, h141, X141, e141, W141, fa141, st141⟩ := own_stI X140 hx hZ e140 F8 (k := i) (own_ix (by omega)) (by omega) (g := (mkF m 67 #[.val (.ref this), .val (.ref pk), .val (.int (Int32.ofNat o)), .val (.ref in_), .val (.int (Int32.ofNat i)), .val (.int (Int32.ofNat w)), .val (.long wv), .second] [(.int (B i)), (.int (Int32.ofNat i)), (.ref in_)])) rfl rfl (hb hby own_d6_67)
  have f142 := F0.other W141 (Or.inl ne_this_in_)
  have f143 := F1.other W141 ne_am_in_
  have f144 := F2.other W141 (Or.inl ne_this_in_)
  have f145 := F3.other W141 ne_aw_in_
  have f146 := F4.other W141 (Or.inl ne_this_in_)
  have f147 := F5.other W141 ne_as_in_
  have f148 := F6.other W141 (Or.inl ne_this_in_)
  have f149 := F7.other W141 ne_pk_in_
  have N141 := Fr.snoc X141 N0 ge_in
  have SZ141 : n0 ≤ h141.size := by rw [W141.size]; exact Z0
  have K141 := F9.wr W141 (Or.inl (List.mem_of_getElem? (i := 0) rfl))
  refine own_by st141 ?_
  show own_Go p e below T141 (mkF m 68 #[.val (.ref this), .val (.ref pk), .val (.int (Int32.ofNat o)), .val (.ref in_), .val (.int (Int32.ofNat i)), .val (.int (Int32.ofNat w)), .val (.long wv), .second] []) _
  refine own_by (fun tq_ kq_ => XS.iinc X141.here hx rfl (hb hby own_d6_68) rfl (l' := #[.val (.ref this), .val (.ref pk), .val (.int (Int32.ofNat o)), .val (.ref in_), .val (.int ((Int32.ofNat i) + (1 : Int32))), .val (.int (Int32.ofNat w)), .val (.long wv), .second]) rfl kq_) ?_
  show own_Go p e below T141 (mkF m 71 #[.val (.ref this), .val (.ref pk), .val (.int (Int32.ofNat o)), .val (.ref in_), .val (.int ((Int32.ofNat i) + (1 : Int32))), .val (.int (Int32.ofNat w)), .val (.long wv), .second] []) _
  refine own_s_goto X141.here hx 23 (hb hby own_d6_71) (by decide) (by decide) ?_
  rw [own_ofs]
  exact hnext _ _ _ X141 e141 N141 SZ141 f142 f143 f144 f145 f146 f147 f148 f149 (fa141.cong rfl (fun j _ => own_fl_up B i g_ j)) K141 (by omega)
set_option maxRecDepth 65536 in
set_option maxHeartbeats 40000000 in
theorem own_inn {p : Program} {l : Launch} {e : Env} {s : State} {m : MethodId} {args : Array Value} {below : List Frame} {meth : Method} {c : Code} {Z : State} {a0 : Array Value} {n0 : Nat} (hx : p.tables.exec = Jvm.exec) (hZ : Z.Warmed39 s.vm) (hw : ∀ d ∈ tables_1, d.before a0 Z = true) (hby : c.code = prog_21_method_7_code) (hml : c.maxLocals = 8) (hown : s.vm.findClass "com/example/lapse/lapse/MarkingCode" = some m.cls) (hnm : meth.name = "unpack") (hret : meth.sig.returnType = none) (hlk : meth.locks = false) (hs : Heap) (this pk in_ am aw as : Addr) (n o : Nat) (pf g_ : Nat → Value) (B : Nat → Int32) (w e_ : Nat) (wv : Int64) (hn : n ≤ 192) (ge_in : n0 ≤ in_) (ne_this_in_ : this ≠ in_) (ne_am_in_ : am ≠ in_) (ne_aw_in_ : aw ≠ in_) (ne_as_in_ : as ≠ in_) (ne_pk_in_ : pk ≠ in_) (he1 : e_ ≤ n) (he2 : e_ ≤ 64 * (w + 1)) (he3 : e_ = n ∨ e_ = 64 * (w + 1)) (hB : ∀ j, j < n → j / 64 = w → ((((wv.toUInt64 >>> ((Int32.ofNat (j % 64)) &&& 0x3f).toInt64.toUInt64).toInt64).toInt32) &&& (1 : Int32)) = B j) (hk : ∀ (T1 : State) (locs1 : List Loc) (h1 : Heap), Stand p l e ({ frames := 0, cells := 0, slots := 0, locals := 0 } : Room) s m args below meth c T1 locs1 0 0 → T1.heap = h1 → Fr n0 locs1 → n0 ≤ h1.size → Fld Z h1 this "com/example/lapse/lapse/MarkingCode" "most" "[I" (.ref am) → own_Av Z h1 am .int n (fun _ => .int (1 : Int32)) → Fld Z h1 this "com/example/lapse/lapse/MarkingCode" "words" "[I" (.ref aw) → own_Av Z h1 aw .int n (fun j => .int (Int32.ofNat (j / 64))) → Fld Z h1 this "com/example/lapse/lapse/MarkingCode" "shifts" "[I" (.ref as) → own_Av Z h1 as .int n (fun j => .int (Int32.ofNat (j % 64))) → Fld Z h1 this "com/example/lapse/lapse/MarkingCode" "length" "I" (.int (Int32.ofNat ((n - 1) / 64 + 1))) → own_Av Z h1 pk .long 7 pf → own_Av Z h1 in_ .int 193 (own_fl B e_ g_) → Keep hs h1 [in_] → own_Go p e below T1 (mkF m 74 #[.val (.ref this), .val (.ref pk), .val (.int (Int32.ofNat o)), .val (.ref in_), .val (.int (Int32.ofNat e_)), .val (.int (Int32.ofNat w)), .val (.long wv), .second] []) (own_Fin s (fun (v : Option Value) (h : Heap) (L : List Loc) => v = none ∧ Fr n0 L ∧ Keep hs h [in_] ∧ own_Av Z h in_ .int 193 (own_fl B n g_)) 0 0)) : ∀ (r i : Nat) (hin : i + r = e_) {T0 : State} {locs : List Loc} {h0 : Heap} (X0 : Stand p l e ({ frames := 0, cells := 0, slots := 0, locals := 0 } : Room) s m args below meth c T0 locs 0 0) (e0 : T0.heap = h0) (N0 : Fr n0 locs) (Z0 : n0 ≤ h0.size) (F0 : Fld Z h0 this "com/example/lapse/lapse/MarkingCode" "most" "[I" (.ref am)) (F1 : own_Av Z h0 am .int n (fun _ => .int (1 : Int32))) (F2 : Fld Z h0 this "com/example/lapse/lapse/MarkingCode" "words" "[I" (.ref aw)) (F3 : own_Av Z h0 aw .int n (fun j => .int (Int32.ofNat (j / 64)))) (F4 : Fld Z h0 this "com/example/lapse/lapse/MarkingCode" "shifts" "[I" (.ref as)) (F5 : own_Av Z h0 as .int n (fun j => .int (Int32.ofNat (j % 64)))) (F6 : Fld Z h0 this "com/example/lapse/lapse/MarkingCode" "length" "I" (.int (Int32.ofNat ((n - 1) / 64 + 1)))) (F7 : own_Av Z h0 pk .long 7 pf) (F8 : own_Av Z h0 in_ .int 193 (own_fl B i g_)) (F9 : Keep hs h0 [in_]) (F10 : 64 * w ≤ i),
    own_Go p e below T0 (mkF m 23 #[.val (.ref this), .val (.ref pk), .val (.int (Int32.ofNat o)), .val (.ref in_), .val (.int (Int32.ofNat i)), .val (.int (Int32.ofNat w)), .val (.long wv), .second] []) (own_Fin s (fun (v : Option Value) (h : Heap) (L : List Loc) => v = none ∧ Fr n0 L ∧ Keep hs h [in_] ∧ own_Av Z h in_ .int 193 (own_fl B n g_)) 0 0) := by
  intro r
  induction r with
  | zero =>
    intro i hin T0 locs h0 X0 e0 N0 Z0 F0 F1 F2 F3 F4 F5 F6 F7 F8 F9 F10
    exact own_inn_x hx hZ hw hby hml hown hnm hret hlk hs i this pk in_ am aw as n o pf g_ B w e_ wv X0 e0 N0 Z0 hn ge_in ne_this_in_ ne_am_in_ ne_aw_in_ ne_as_in_ ne_pk_in_ he1 he2 he3 hB hk (by omega) F0 F1 F2 F3 F4 F5 F6 F7 F8 F9 F10
  | succ r ih =>
    intro i hin T0 locs h0 X0 e0 N0 Z0 F0 F1 F2 F3 F4 F5 F6 F7 F8 F9 F10
    exact own_inn_t hx hZ hw hby hml hown hnm hret hlk hs i this pk in_ am aw as n o pf g_ B w e_ wv X0 e0 N0 Z0 hn ge_in ne_this_in_ ne_am_in_ ne_aw_in_ ne_as_in_ ne_pk_in_ he1 he2 he3 hB hk (by omega) F0 F1 F2 F3 F4 F5 F6 F7 F8 F9 F10 (fun T1 locs1 h1 X1 e1 N1 Z1 G0 G1 G2 G3 G4 G5 G6 G7 G8 G9 G10 => ih (i + 1) (by omega) X1 e1 N1 Z1 G0 G1 G2 G3 G4 G5 G6 G7 G8 G9 G10)
set_option maxRecDepth 65536 in
set_option maxHeartbeats 40000000 in
theorem own_u6_3 {p : Program} {l : Launch} {e : Env} {s : State} {m : MethodId} {args : Array Value} {below : List Frame} {meth : Method} {c : Code} {Z : State} {a0 : Array Value} {n0 : Nat} (hx : p.tables.exec = Jvm.exec) (hZ : Z.Warmed39 s.vm) (hw : ∀ d ∈ tables_1, d.before a0 Z = true) (hby : c.code = prog_21_method_7_code) (hml : c.maxLocals = 8) (hown : s.vm.findClass "com/example/lapse/lapse/MarkingCode" = some m.cls) (hnm : meth.name = "unpack") (hret : meth.sig.returnType = none) (hlk : meth.locks = false) (hs : Heap) (this pk in_ am aw as : Addr) (n o : Nat) (pf g_ : Nat → Value) (B : Nat → Int32) (pw : Nat → Int64) (x_ : Int64) {T0 : State} {locs : List Loc} {h0 : Heap} (X0 : Stand p l e ({ frames := 0, cells := 0, slots := 0, locals := 0 } : Room) s m args below meth c T0 locs 0 0) (e0 : T0.heap = h0) (N0 : Fr n0 locs) (Z0 : n0 ≤ h0.size) (hn : n ≤ 192) (ge_in : n0 ≤ in_) (ne_this_in_ : this ≠ in_) (ne_am_in_ : am ≠ in_) (ne_aw_in_ : aw ≠ in_) (ne_as_in_ : as ≠ in_) (ne_pk_in_ : pk ≠ in_) (ho : o ≤ 3) (hpw : ∀ w, w < 3 → pf (o + w) = .long (pw w)) (hB : ∀ j, j < n → ((((pw (j / 64)).toUInt64 >>> ((Int32.ofNat (j % 64)) &&& 0x3f).toInt64.toUInt64).toInt64).toInt32 &&& (1 : Int32)) = B j) (F0 : Fld Z h0 this "com/example/lapse/lapse/MarkingCode" "most" "[I" (.ref am)) (F1 : own_Av Z h0 am .int n (fun _ => .int (1 : Int32))) (F2 : Fld Z h0 this "com/example/lapse/lapse/MarkingCode" "words" "[I" (.ref aw)) (F3 : own_Av Z h0 aw .int n (fun j => .int (Int32.ofNat (j / 64)))) (F4 : Fld Z h0 this "com/example/lapse/lapse/MarkingCode" "shifts" "[I" (.ref as)) (F5 : own_Av Z h0 as .int n (fun j => .int (Int32.ofNat (j % 64)))) (F6 : Fld Z h0 this "com/example/lapse/lapse/MarkingCode" "length" "I" (.int (Int32.ofNat ((n - 1) / 64 + 1)))) (F7 : own_Av Z h0 pk .long 7 pf) (F8 : own_Av Z h0 in_ .int 193 (own_fl B (min n 192) g_)) (F9 : Keep hs h0 [in_]) :
    own_Go p e below T0 (mkF m 6 #[.val (.ref this), .val (.ref pk), .val (.int (Int32.ofNat o)), .val (.ref in_), .val (.int (Int32.ofNat (min n 192))), .val (.int (Int32.ofNat 3)), .val (.long x_), .second] []) (own_Fin s (fun (v : Option Value) (h : Heap) (L : List Loc) => v = none ∧ Fr n0 L ∧ Keep hs h [in_] ∧ own_Av Z h in_ .int 193 (own_fl B n g_)) 0 0) := by
  show own_Go p e below T0 (mkF m 6 #[.val (.ref this), .val (.ref pk), .val (.int (Int32.ofNat o)), .val (.ref in_), .val (.int (Int32.ofNat (min n 192))), .val (.int (Int32.ofNat 3)), .val (.long x_), .second] []) _
  refine own_s_iload X0.here hx (hb hby own_d6_6) rfl ?_
  refine own_s_aloadN X0.here hx (hb hby own_d6_8) rfl rfl ?_
  obtain ⟨T150, X150, e150, st150⟩ := getF X0 hx hZ hown (host := "") (Or.inl (hw _ (List.mem_of_getElem? (i := 28) rfl))) Via.refl e0 F6 (g := (mkF m 9 #[.val (.ref this), .val (.ref pk), .val (.int (Int32.ofNat o)), .val (.ref in_), .val (.int (Int32.ofNat (min n 192))), .val (.int (Int32.ofNat 3)), .val (.long x_), .second] [(.ref this), (.int (Int32.ofNat 3))])) rfl rfl (hb hby own_d6_9)
  refine own_by st150 ?_
  show own_Go p e below T150 (mkF m 12 #[.val (.ref this), .val (.ref pk), .val (.int (Int32.ofNat o)), .val (.ref in_), .val (.int (Int32.ofNat (min n 192))), .val (.int (Int32.ofNat 3)), .val (.long x_), .second] [(.int (Int32.ofNat ((n - 1) / 64 + 1))), (.int (Int32.ofNat 3))]) _
  refine own_s_icmpYes X150.here hx 80 (hb hby own_d6_12) (Jvm.Free.XT.ii_ge_t ((fun q => absurd ((own_oflt (i := 3) (by omega) (by omega)).mp q) (by omega)))) (by decide) (by decide) ?_
  refine own_retV X150 hx hret hlk (hb hby own_d6_80) (by decide) (by decide) ?_
  rw [e150]
  exact ⟨rfl, N0, F9, F8.cong rfl (fun j _ => by rw [show (min n 192) = n from by omega])⟩
set_option maxRecDepth 65536 in
set_option maxHeartbeats 40000000 in
theorem own_u74_2 {p : Program} {l : Launch} {e : Env} {s : State} {m : MethodId} {args : Array Value} {below : List Frame} {meth : Method} {c : Code} {Z : State} {a0 : Array Value} {n0 : Nat} (hx : p.tables.exec = Jvm.exec) (hZ : Z.Warmed39 s.vm) (hw : ∀ d ∈ tables_1, d.before a0 Z = true) (hby : c.code = prog_21_method_7_code) (hml : c.maxLocals = 8) (hown : s.vm.findClass "com/example/lapse/lapse/MarkingCode" = some m.cls) (hnm : meth.name = "unpack") (hret : meth.sig.returnType = none) (hlk : meth.locks = false) (hs : Heap) (this pk in_ am aw as : Addr) (n o : Nat) (pf g_ : Nat → Value) (B : Nat → Int32) (pw : Nat → Int64) (x_ : Int64) {T0 : State} {locs : List Loc} {h0 : Heap} (X0 : Stand p l e ({ frames := 0, cells := 0, slots := 0, locals := 0 } : Room) s m args below meth c T0 locs 0 0) (e0 : T0.heap = h0) (N0 : Fr n0 locs) (Z0 : n0 ≤ h0.size) (hn : n ≤ 192) (ge_in : n0 ≤ in_) (ne_this_in_ : this ≠ in_) (ne_am_in_ : am ≠ in_) (ne_aw_in_ : aw ≠ in_) (ne_as_in_ : as ≠ in_) (ne_pk_in_ : pk ≠ in_) (ho : o ≤ 3) (hpw : ∀ w, w < 3 → pf (o + w) = .long (pw w)) (hB : ∀ j, j < n → ((((pw (j / 64)).toUInt64 >>> ((Int32.ofNat (j % 64)) &&& 0x3f).toInt64.toUInt64).toInt64).toInt32 &&& (1 : Int32)) = B j) (hln : 2 < ((n - 1) / 64 + 1)) (F0 : Fld Z h0 this "com/example/lapse/lapse/MarkingCode" "most" "[I" (.ref am)) (F1 : own_Av Z h0 am .int n (fun _ => .int (1 : Int32))) (F2 : Fld Z h0 this "com/example/lapse/lapse/MarkingCode" "words" "[I" (.ref aw)) (F3 : own_Av Z h0 aw .int n (fun j => .int (Int32.ofNat (j / 64)))) (F4 : Fld Z h0 this "com/example/lapse/lapse/MarkingCode" "shifts" "[I" (.ref as)) (F5 : own_Av Z h0 as .int n (fun j => .int (Int32.ofNat (j % 64)))) (F6 : Fld Z h0 this "com/example/lapse/lapse/MarkingCode" "length" "I" (.int (Int32.ofNat ((n - 1) / 64 + 1)))) (F7 : own_Av Z h0 pk .long 7 pf) (F8 : own_Av Z h0 in_ .int 193 (own_fl B (min n 192) g_)) (F9 : Keep hs h0 [in_]) :
    own_Go p e below T0 (mkF m 74 #[.val (.ref this), .val (.ref pk), .val (.int (Int32.ofNat o)), .val (.ref in_), .val (.int (Int32.ofNat (min n 192))), .val (.int (Int32.ofNat 2)), .val (.long x_), .second] []) (own_Fin s (fun (v : Option Value) (h : Heap) (L : List Loc) => v = none ∧ Fr n0 L ∧ Keep hs h [in_] ∧ own_Av Z h in_ .int 193 (own_fl B n g_)) 0 0) := by
  show own_Go p e below T0 (mkF m 74 #[.val (.ref this), .val (.ref pk), .val (.int (Int32.ofNat o)), .val (.ref in_), .val (.int (Int32.ofNat (min n 192))), .val (.int (Int32.ofNat 2)), .val (.long x_), .second] []) _
  refine own_by (fun tq_ kq_ => XS.iinc X0.here hx rfl (hb hby own_d6_74) rfl (l' := #[.val (.ref this), .val (.ref pk), .val (.int (Int32.ofNat o)), .val (.ref in_), .val (.int (Int32.ofNat (min n 192))), .val (.int ((Int32.ofNat 2) + (1 : Int32))), .val (.long x_), .second]) rfl kq_) ?_
  show own_Go p e below T0 (mkF m 77 #[.val (.ref this), .val (.ref pk), .val (.int (Int32.ofNat o)), .val (.ref in_), .val (.int (Int32.ofNat (min n 192))), .val (.int ((Int32.ofNat 2) + (1 : Int32))), .val (.long x_), .second] []) _
  refine own_s_goto X0.here hx 6 (hb hby own_d6_77) (by decide) (by decide) ?_
  show own_Go p e below T0 (mkF m 6 #[.val (.ref this), .val (.ref pk), .val (.int (Int32.ofNat o)), .val (.ref in_), .val (.int (Int32.ofNat (min n 192))), .val (.int (Int32.ofNat 3)), .val (.long x_), .second] []) _
  exact own_u6_3 hx hZ hw hby hml hown hnm hret hlk hs this pk in_ am aw as n o pf g_ B pw _ X0 e0 N0 Z0 hn ge_in ne_this_in_ ne_am_in_ ne_aw_in_ ne_as_in_ ne_pk_in_ ho hpw hB F0 F1 F2 F3 F4 F5 F6 F7 F8 F9
set_option maxRecDepth 65536 in
set_option maxHeartbeats 40000000 in
theorem own_u6_2 {p : Program} {l : Launch} {e : Env} {s : State} {m : MethodId} {args : Array Value} {below : List Frame} {meth : Method} {c : Code} {Z : State} {a0 : Array Value} {n0 : Nat} (hx : p.tables.exec = Jvm.exec) (hZ : Z.Warmed39 s.vm) (hw : ∀ d ∈ tables_1, d.before a0 Z = true) (hby : c.code = prog_21_method_7_code) (hml : c.maxLocals = 8) (hown : s.vm.findClass "com/example/lapse/lapse/MarkingCode" = some m.cls) (hnm : meth.name = "unpack") (hret : meth.sig.returnType = none) (hlk : meth.locks = false) (hs : Heap) (this pk in_ am aw as : Addr) (n o : Nat) (pf g_ : Nat → Value) (B : Nat → Int32) (pw : Nat → Int64) (x_ : Int64) {T0 : State} {locs : List Loc} {h0 : Heap} (X0 : Stand p l e ({ frames := 0, cells := 0, slots := 0, locals := 0 } : Room) s m args below meth c T0 locs 0 0) (e0 : T0.heap = h0) (N0 : Fr n0 locs) (Z0 : n0 ≤ h0.size) (hn : n ≤ 192) (ge_in : n0 ≤ in_) (ne_this_in_ : this ≠ in_) (ne_am_in_ : am ≠ in_) (ne_aw_in_ : aw ≠ in_) (ne_as_in_ : as ≠ in_) (ne_pk_in_ : pk ≠ in_) (ho : o ≤ 3) (hpw : ∀ w, w < 3 → pf (o + w) = .long (pw w)) (hB : ∀ j, j < n → ((((pw (j / 64)).toUInt64 >>> ((Int32.ofNat (j % 64)) &&& 0x3f).toInt64.toUInt64).toInt64).toInt32 &&& (1 : Int32)) = B j) (F0 : Fld Z h0 this "com/example/lapse/lapse/MarkingCode" "most" "[I" (.ref am)) (F1 : own_Av Z h0 am .int n (fun _ => .int (1 : Int32))) (F2 : Fld Z h0 this "com/example/lapse/lapse/MarkingCode" "words" "[I" (.ref aw)) (F3 : own_Av Z h0 aw .int n (fun j => .int (Int32.ofNat (j / 64)))) (F4 : Fld Z h0 this "com/example/lapse/lapse/MarkingCode" "shifts" "[I" (.ref as)) (F5 : own_Av Z h0 as .int n (fun j => .int (Int32.ofNat (j % 64)))) (F6 : Fld Z h0 this "com/example/lapse/lapse/MarkingCode" "length" "I" (.int (Int32.ofNat ((n - 1) / 64 + 1)))) (F7 : own_Av Z h0 pk .long 7 pf) (F8 : own_Av Z h0 in_ .int 193 (own_fl B (min n 128) g_)) (F9 : Keep hs h0 [in_]) :
    own_Go p e below T0 (mkF m 6 #[.val (.ref this), .val (.ref pk), .val (.int (Int32.ofNat o)), .val (.ref in_), .val (.int (Int32.ofNat (min n 128))), .val (.int (Int32.ofNat 2)), .val (.long x_), .second] []) (own_Fin s (fun (v : Option Value) (h : Heap) (L : List Loc) => v = none ∧ Fr n0 L ∧ Keep hs h [in_] ∧ own_Av Z h in_ .int 193 (own_fl B n g_)) 0 0) := by
  show own_Go p e below T0 (mkF m 6 #[.val (.ref this), .val (.ref pk), .val (.int (Int32.ofNat o)), .val (.ref in_), .val (.int (Int32.ofNat (min n 128))), .val (.int (Int32.ofNat 2)), .val (.long x_), .second] []) _
  refine own_s_iload X0.here hx (hb hby own_d6_6) rfl ?_
  refine own_s_aloadN X0.here hx (hb hby own_d6_8) rfl rfl ?_
  obtain ⟨T151, X151, e151, st151⟩ := getF X0 hx hZ hown (host := "") (Or.inl (hw _ (List.mem_of_getElem? (i := 28) rfl))) Via.refl e0 F6 (g := (mkF m 9 #[.val (.ref this), .val (.ref pk), .val (.int (Int32.ofNat o)), .val (.ref in_), .val (.int (Int32.ofNat (min n 128))), .val (.int (Int32.ofNat 2)), .val (.long x_), .second] [(.ref this), (.int (Int32.ofNat 2))])) rfl rfl (hb hby own_d6_9)
  refine own_by st151 ?_
  show own_Go p e below T151 (mkF m 12 #[.val (.ref this), .val (.ref pk), .val (.int (Int32.ofNat o)), .val (.ref in_), .val (.int (Int32.ofNat (min n 128))), .val (.int (Int32.ofNat 2)), .val (.long x_), .second] [(.int (Int32.ofNat ((n - 1) / 64 + 1))), (.int (Int32.ofNat 2))]) _
  by_cases hc12 : (Int32.ofNat 2) < (Int32.ofNat ((n - 1) / 64 + 1))
  ·
    refine own_s_icmpNo X151.here hx (hb hby own_d6_12) (Jvm.Free.XT.ii_ge_f hc12) ?_
    refine own_s_aloadN X151.here hx (hb hby own_d6_15) rfl rfl ?_
    refine own_s_iloadN X151.here hx (hb hby own_d6_16) rfl ?_
    refine own_s_iload X151.here hx (hb hby own_d6_17) rfl ?_
    refine own_s_iadd X151.here hx (hb hby own_d6_19) ?_
    refine own_by (fun tq_ kq_ => own_ldJ X151 hx hZ e151 F7 (k := (o + 2)) (v := (.long (pw 2))) (own_ix2 (by omega)) (by omega) (hpw 2 (by omega)) (g := (mkF m 20 #[.val (.ref this), .val (.ref pk), .val (.int (Int32.ofNat o)), .val (.ref in_), .val (.int (Int32.ofNat (min n 128))), .val (.int (Int32.ofNat 2)), .val (.long x_), .second] [(.int ((Int32.ofNat o) + (Int32.ofNat 2))), (.ref pk)])) rfl rfl (hb hby own_d6_20) tq_ kq_) ?_
    show own_Go p e below T151 (mkF m 21 #[.val (.ref this), .val (.ref pk), .val (.int (Int32.ofNat o)), .val (.ref in_), .val (.int (Int32.ofNat (min n 128))), .val (.int (Int32.ofNat 2)), .val (.long x_), .second] [(.long (pw 2))]) _
    refine own_s_lstore X151.here hx #[.val (.ref this), .val (.ref pk), .val (.int (Int32.ofNat o)), .val (.ref in_), .val (.int (Int32.ofNat (min n 128))), .val (.int (Int32.ofNat 2)), .val (.long (pw 2)), .second] (hb hby own_d6_21) rfl ?_
    have hln : 2 < ((n - 1) / 64 + 1) := (own_oflt (by omega) (by omega)).mp hc12
    exact own_inn hx hZ hw hby hml hown hnm hret hlk hs this pk in_ am aw as n o pf g_ B 2 (min n 192) _ hn ge_in ne_this_in_ ne_am_in_ ne_aw_in_ ne_as_in_ ne_pk_in_ (by omega) (by omega) (by omega) (fun j hj1 hj2 => by have := hB j hj1; rw [hj2] at this; exact this) (fun T1 locs1 h1 X1 e1 N1 Z1 G0 G1 G2 G3 G4 G5 G6 G7 G8 G9 => own_u74_2 hx hZ hw hby hml hown hnm hret hlk hs this pk in_ am aw as n o pf g_ B pw _ X1 e1 N1 Z1 hn ge_in ne_this_in_ ne_am_in_ ne_aw_in_ ne_as_in_ ne_pk_in_ ho hpw hB hln G0 G1 G2 G3 G4 G5 G6 G7 G8 G9) ((min n 192) - (min n 128)) (min n 128) (by omega) X151 e151 N0 Z0 F0 F1 F2 F3 F4 F5 F6 F7 F8 F9 (by omega)
  ·
    refine own_s_icmpYes X151.here hx 80 (hb hby own_d6_12) (Jvm.Free.XT.ii_ge_t hc12) (by decide) (by decide) ?_
    refine own_retV X151 hx hret hlk (hb hby own_d6_80) (by decide) (by decide) ?_
    rw [e151]
    have hc' : ¬ 2 < ((n - 1) / 64 + 1) := fun q => hc12 ((own_oflt (by omega) (by omega)).mpr q)
    exact ⟨rfl, N0, F9, F8.cong rfl (fun j _ => by rw [show (min n 128) = n from by omega])⟩
set_option maxRecDepth 65536 in
set_option maxHeartbeats 40000000 in
theorem own_u74_1 {p : Program} {l : Launch} {e : Env} {s : State} {m : MethodId} {args : Array Value} {below : List Frame} {meth : Method} {c : Code} {Z : State} {a0 : Array Value} {n0 : Nat} (hx : p.tables.exec = Jvm.exec) (hZ : Z.Warmed39 s.vm) (hw : ∀ d ∈ tables_1, d.before a0 Z = true) (hby : c.code = prog_21_method_7_code) (hml : c.maxLocals = 8) (hown : s.vm.findClass "com/example/lapse/lapse/MarkingCode" = some m.cls) (hnm : meth.name = "unpack") (hret : meth.sig.returnType = none) (hlk : meth.locks = false) (hs : Heap) (this pk in_ am aw as : Addr) (n o : Nat) (pf g_ : Nat → Value) (B : Nat → Int32) (pw : Nat → Int64) (x_ : Int64) {T0 : State} {locs : List Loc} {h0 : Heap} (X0 : Stand p l e ({ frames := 0, cells := 0, slots := 0, locals := 0 } : Room) s m args below meth c T0 locs 0 0) (e0 : T0.heap = h0) (N0 : Fr n0 locs) (Z0 : n0 ≤ h0.size) (hn : n ≤ 192) (ge_in : n0 ≤ in_) (ne_this_in_ : this ≠ in_) (ne_am_in_ : am ≠ in_) (ne_aw_in_ : aw ≠ in_) (ne_as_in_ : as ≠ in_) (ne_pk_in_ : pk ≠ in_) (ho : o ≤ 3) (hpw : ∀ w, w < 3 → pf (o + w) = .long (pw w)) (hB : ∀ j, j < n → ((((pw (j / 64)).toUInt64 >>> ((Int32.ofNat (j % 64)) &&& 0x3f).toInt64.toUInt64).toInt64).toInt32 &&& (1 : Int32)) = B j) (hln : 1 < ((n - 1) / 64 + 1)) (F0 : Fld Z h0 this "com/example/lapse/lapse/MarkingCode" "most" "[I" (.ref am)) (F1 : own_Av Z h0 am .int n (fun _ => .int (1 : Int32))) (F2 : Fld Z h0 this "com/example/lapse/lapse/MarkingCode" "words" "[I" (.ref aw)) (F3 : own_Av Z h0 aw .int n (fun j => .int (Int32.ofNat (j / 64)))) (F4 : Fld Z h0 this "com/example/lapse/lapse/MarkingCode" "shifts" "[I" (.ref as)) (F5 : own_Av Z h0 as .int n (fun j => .int (Int32.ofNat (j % 64)))) (F6 : Fld Z h0 this "com/example/lapse/lapse/MarkingCode" "length" "I" (.int (Int32.ofNat ((n - 1) / 64 + 1)))) (F7 : own_Av Z h0 pk .long 7 pf) (F8 : own_Av Z h0 in_ .int 193 (own_fl B (min n 128) g_)) (F9 : Keep hs h0 [in_]) :
    own_Go p e below T0 (mkF m 74 #[.val (.ref this), .val (.ref pk), .val (.int (Int32.ofNat o)), .val (.ref in_), .val (.int (Int32.ofNat (min n 128))), .val (.int (Int32.ofNat 1)), .val (.long x_), .second] []) (own_Fin s (fun (v : Option Value) (h : Heap) (L : List Loc) => v = none ∧ Fr n0 L ∧ Keep hs h [in_] ∧ own_Av Z h in_ .int 193 (own_fl B n g_)) 0 0) := by
  show own_Go p e below T0 (mkF m 74 #[.val (.ref this), .val (.ref pk), .val (.int (Int32.ofNat o)), .val (.ref in_), .val (.int (Int32.ofNat (min n 128))), .val (.int (Int32.ofNat 1)), .val (.long x_), .second] []) _
  refine own_by (fun tq_ kq_ => XS.iinc X0.here hx rfl (hb hby own_d6_74) rfl (l' := #[.val (.ref this), .val (.ref pk), .val (.int (Int32.ofNat o)), .val (.ref in_), .val (.int (Int32.ofNat (min n 128))), .val (.int ((Int32.ofNat 1) + (1 : Int32))), .val (.long x_), .second]) rfl kq_) ?_
  show own_Go p e below T0 (mkF m 77 #[.val (.ref this), .val (.ref pk), .val (.int (Int32.ofNat o)), .val (.ref in_), .val (.int (Int32.ofNat (min n 128))), .val (.int ((Int32.ofNat 1) + (1 : Int32))), .val (.long x_), .second] []) _
  refine own_s_goto X0.here hx 6 (hb hby own_d6_77) (by decide) (by decide) ?_
  show own_Go p e below T0 (mkF m 6 #[.val (.ref this), .val (.ref pk), .val (.int (Int32.ofNat o)), .val (.ref in_), .val (.int (Int32.ofNat (min n 128))), .val (.int (Int32.ofNat 2)), .val (.long x_), .second] []) _
  exact own_u6_2 hx hZ hw hby hml hown hnm hret hlk hs this pk in_ am aw as n o pf g_ B pw _ X0 e0 N0 Z0 hn ge_in ne_this_in_ ne_am_in_ ne_aw_in_ ne_as_in_ ne_pk_in_ ho hpw hB F0 F1 F2 F3 F4 F5 F6 F7 F8 F9
set_option maxRecDepth 65536 in
set_option maxHeartbeats 40000000 in
theorem own_u6_1 {p : Program} {l : Launch} {e : Env} {s : State} {m : MethodId} {args : Array Value} {below : List Frame} {meth : Method} {c : Code} {Z : State} {a0 : Array Value} {n0 : Nat} (hx : p.tables.exec = Jvm.exec) (hZ : Z.Warmed39 s.vm) (hw : ∀ d ∈ tables_1, d.before a0 Z = true) (hby : c.code = prog_21_method_7_code) (hml : c.maxLocals = 8) (hown : s.vm.findClass "com/example/lapse/lapse/MarkingCode" = some m.cls) (hnm : meth.name = "unpack") (hret : meth.sig.returnType = none) (hlk : meth.locks = false) (hs : Heap) (this pk in_ am aw as : Addr) (n o : Nat) (pf g_ : Nat → Value) (B : Nat → Int32) (pw : Nat → Int64) (x_ : Int64) {T0 : State} {locs : List Loc} {h0 : Heap} (X0 : Stand p l e ({ frames := 0, cells := 0, slots := 0, locals := 0 } : Room) s m args below meth c T0 locs 0 0) (e0 : T0.heap = h0) (N0 : Fr n0 locs) (Z0 : n0 ≤ h0.size) (hn : n ≤ 192) (ge_in : n0 ≤ in_) (ne_this_in_ : this ≠ in_) (ne_am_in_ : am ≠ in_) (ne_aw_in_ : aw ≠ in_) (ne_as_in_ : as ≠ in_) (ne_pk_in_ : pk ≠ in_) (ho : o ≤ 3) (hpw : ∀ w, w < 3 → pf (o + w) = .long (pw w)) (hB : ∀ j, j < n → ((((pw (j / 64)).toUInt64 >>> ((Int32.ofNat (j % 64)) &&& 0x3f).toInt64.toUInt64).toInt64).toInt32 &&& (1 : Int32)) = B j) (F0 : Fld Z h0 this "com/example/lapse/lapse/MarkingCode" "most" "[I" (.ref am)) (F1 : own_Av Z h0 am .int n (fun _ => .int (1 : Int32))) (F2 : Fld Z h0 this "com/example/lapse/lapse/MarkingCode" "words" "[I" (.ref aw)) (F3 : own_Av Z h0 aw .int n (fun j => .int (Int32.ofNat (j / 64)))) (F4 : Fld Z h0 this "com/example/lapse/lapse/MarkingCode" "shifts" "[I" (.ref as)) (F5 : own_Av Z h0 as .int n (fun j => .int (Int32.ofNat (j % 64)))) (F6 : Fld Z h0 this "com/example/lapse/lapse/MarkingCode" "length" "I" (.int (Int32.ofNat ((n - 1) / 64 + 1)))) (F7 : own_Av Z h0 pk .long 7 pf) (F8 : own_Av Z h0 in_ .int 193 (own_fl B (min n 64) g_)) (F9 : Keep hs h0 [in_]) :
    own_Go p e below T0 (mkF m 6 #[.val (.ref this), .val (.ref pk), .val (.int (Int32.ofNat o)), .val (.ref in_), .val (.int (Int32.ofNat (min n 64))), .val (.int (Int32.ofNat 1)), .val (.long x_), .second] []) (own_Fin s (fun (v : Option Value) (h : Heap) (L : List Loc) => v = none ∧ Fr n0 L ∧ Keep hs h [in_] ∧ own_Av Z h in_ .int 193 (own_fl B n g_)) 0 0) := by
  show own_Go p e below T0 (mkF m 6 #[.val (.ref this), .val (.ref pk), .val (.int (Int32.ofNat o)), .val (.ref in_), .val (.int (Int32.ofNat (min n 64))), .val (.int (Int32.ofNat 1)), .val (.long x_), .second] []) _
  refine own_s_iload X0.here hx (hb hby own_d6_6) rfl ?_
  refine own_s_aloadN X0.here hx (hb hby own_d6_8) rfl rfl ?_
  obtain ⟨T152, X152, e152, st152⟩ := getF X0 hx hZ hown (host := "") (Or.inl (hw _ (List.mem_of_getElem? (i := 28) rfl))) Via.refl e0 F6 (g := (mkF m 9 #[.val (.ref this), .val (.ref pk), .val (.int (Int32.ofNat o)), .val (.ref in_), .val (.int (Int32.ofNat (min n 64))), .val (.int (Int32.ofNat 1)), .val (.long x_), .second] [(.ref this), (.int (Int32.ofNat 1))])) rfl rfl (hb hby own_d6_9)
  refine own_by st152 ?_
  show own_Go p e below T152 (mkF m 12 #[.val (.ref this), .val (.ref pk), .val (.int (Int32.ofNat o)), .val (.ref in_), .val (.int (Int32.ofNat (min n 64))), .val (.int (Int32.ofNat 1)), .val (.long x_), .second] [(.int (Int32.ofNat ((n - 1) / 64 + 1))), (.int (Int32.ofNat 1))]) _
  by_cases hc12 : (Int32.ofNat 1) < (Int32.ofNat ((n - 1) / 64 + 1))
  ·
    refine own_s_icmpNo X152.here hx (hb hby own_d6_12) (Jvm.Free.XT.ii_ge_f hc12) ?_
    refine own_s_aloadN X152.here hx (hb hby own_d6_15) rfl rfl ?_
    refine own_s_iloadN X152.here hx (hb hby own_d6_16) rfl ?_
    refine own_s_iload X152.here hx (hb hby own_d6_17) rfl ?_
    refine own_s_iadd X152.here hx (hb hby own_d6_19) ?_
    refine own_by (fun tq_ kq_ => own_ldJ X152 hx hZ e152 F7 (k := (o + 1)) (v := (.long (pw 1))) (own_ix2 (by omega)) (by omega) (hpw 1 (by omega)) (g := (mkF m 20 #[.val (.ref this), .val (.ref pk), .val (.int (Int32.ofNat o)), .val (.ref in_), .val (.int (Int32.ofNat (min n 64))), .val (.int (Int32.ofNat 1)), .val (.long x_), .second] [(.int ((Int32.ofNat o) + (Int32.ofNat 1))), (.ref pk)])) rfl rfl (hb hby own_d6_20) tq_ kq_) ?_
    show own_Go p e below T152 (mkF m 21 #[.val (.ref this), .val (.ref pk), .val (.int (Int32.ofNat o)), .val (.ref in_), .val (.int (Int32.ofNat (min n 64))), .val (.int (Int32.ofNat 1)), .val (.long x_), .second] [(.long (pw 1))]) _
    refine own_s_lstore X152.here hx #[.val (.ref this), .val (.ref pk), .val (.int (Int32.ofNat o)), .val (.ref in_), .val (.int (Int32.ofNat (min n 64))), .val (.int (Int32.ofNat 1)), .val (.long (pw 1)), .second] (hb hby own_d6_21) rfl ?_
    have hln : 1 < ((n - 1) / 64 + 1) := (own_oflt (by omega) (by omega)).mp hc12
    exact own_inn hx hZ hw hby hml hown hnm hret hlk hs this pk in_ am aw as n o pf g_ B 1 (min n 128) _ hn ge_in ne_this_in_ ne_am_in_ ne_aw_in_ ne_as_in_ ne_pk_in_ (by omega) (by omega) (by omega) (fun j hj1 hj2 => by have := hB j hj1; rw [hj2] at this; exact this) (fun T1 locs1 h1 X1 e1 N1 Z1 G0 G1 G2 G3 G4 G5 G6 G7 G8 G9 => own_u74_1 hx hZ hw hby hml hown hnm hret hlk hs this pk in_ am aw as n o pf g_ B pw _ X1 e1 N1 Z1 hn ge_in ne_this_in_ ne_am_in_ ne_aw_in_ ne_as_in_ ne_pk_in_ ho hpw hB hln G0 G1 G2 G3 G4 G5 G6 G7 G8 G9) ((min n 128) - (min n 64)) (min n 64) (by omega) X152 e152 N0 Z0 F0 F1 F2 F3 F4 F5 F6 F7 F8 F9 (by omega)
  ·
    refine own_s_icmpYes X152.here hx 80 (hb hby own_d6_12) (Jvm.Free.XT.ii_ge_t hc12) (by decide) (by decide) ?_
    refine own_retV X152 hx hret hlk (hb hby own_d6_80) (by decide) (by decide) ?_
    rw [e152]
    have hc' : ¬ 1 < ((n - 1) / 64 + 1) := fun q => hc12 ((own_oflt (by omega) (by omega)).mpr q)
    exact ⟨rfl, N0, F9, F8.cong rfl (fun j _ => by rw [show (min n 64) = n from by omega])⟩
set_option maxRecDepth 65536 in
set_option maxHeartbeats 40000000 in
theorem own_u74_0 {p : Program} {l : Launch} {e : Env} {s : State} {m : MethodId} {args : Array Value} {below : List Frame} {meth : Method} {c : Code} {Z : State} {a0 : Array Value} {n0 : Nat} (hx : p.tables.exec = Jvm.exec) (hZ : Z.Warmed39 s.vm) (hw : ∀ d ∈ tables_1, d.before a0 Z = true) (hby : c.code = prog_21_method_7_code) (hml : c.maxLocals = 8) (hown : s.vm.findClass "com/example/lapse/lapse/MarkingCode" = some m.cls) (hnm : meth.name = "unpack") (hret : meth.sig.returnType = none) (hlk : meth.locks = false) (hs : Heap) (this pk in_ am aw as : Addr) (n o : Nat) (pf g_ : Nat → Value) (B : Nat → Int32) (pw : Nat → Int64) (x_ : Int64) {T0 : State} {locs : List Loc} {h0 : Heap} (X0 : Stand p l e ({ frames := 0, cells := 0, slots := 0, locals := 0 } : Room) s m args below meth c T0 locs 0 0) (e0 : T0.heap = h0) (N0 : Fr n0 locs) (Z0 : n0 ≤ h0.size) (hn : n ≤ 192) (ge_in : n0 ≤ in_) (ne_this_in_ : this ≠ in_) (ne_am_in_ : am ≠ in_) (ne_aw_in_ : aw ≠ in_) (ne_as_in_ : as ≠ in_) (ne_pk_in_ : pk ≠ in_) (ho : o ≤ 3) (hpw : ∀ w, w < 3 → pf (o + w) = .long (pw w)) (hB : ∀ j, j < n → ((((pw (j / 64)).toUInt64 >>> ((Int32.ofNat (j % 64)) &&& 0x3f).toInt64.toUInt64).toInt64).toInt32 &&& (1 : Int32)) = B j) (hln : 0 < ((n - 1) / 64 + 1)) (F0 : Fld Z h0 this "com/example/lapse/lapse/MarkingCode" "most" "[I" (.ref am)) (F1 : own_Av Z h0 am .int n (fun _ => .int (1 : Int32))) (F2 : Fld Z h0 this "com/example/lapse/lapse/MarkingCode" "words" "[I" (.ref aw)) (F3 : own_Av Z h0 aw .int n (fun j => .int (Int32.ofNat (j / 64)))) (F4 : Fld Z h0 this "com/example/lapse/lapse/MarkingCode" "shifts" "[I" (.ref as)) (F5 : own_Av Z h0 as .int n (fun j => .int (Int32.ofNat (j % 64)))) (F6 : Fld Z h0 this "com/example/lapse/lapse/MarkingCode" "length" "I" (.int (Int32.ofNat ((n - 1) / 64 + 1)))) (F7 : own_Av Z h0 pk .long 7 pf) (F8 : own_Av Z h0 in_ .int 193 (own_fl B (min n 64) g_)) (F9 : Keep hs h0 [in_]) :
    own_Go p e below T0 (mkF m 74 #[.val (.ref this), .val (.ref pk), .val (.int (Int32.ofNat o)), .val (.ref in_), .val (.int (Int32.ofNat (min n 64))), .val (.int (Int32.ofNat 0)), .val (.long x_), .second] []) (own_Fin s (fun (v : Option Value) (h : Heap) (L : List Loc) => v = none ∧ Fr n0 L ∧ Keep hs h [in_] ∧ own_Av Z h in_ .int 193 (own_fl B n g_)) 0 0) := by
  show own_Go p e below T0 (mkF m 74 #[.val (.ref this), .val (.ref pk), .val (.int (Int32.ofNat o)), .val (.ref in_), .val (.int (Int32.ofNat (min n 64))), .val (.int (Int32.ofNat 0)), .val (.long x_), .second] []) _
  refine own_by (fun tq_ kq_ => XS.iinc X0.here hx rfl (hb hby own_d6_74) rfl (l' := #[.val (.ref this), .val (.ref pk), .val (.int (Int32.ofNat o)), .val (.ref in_), .val (.int (Int32.ofNat (min n 64))), .val (.int ((Int32.ofNat 0) + (1 : Int32))), .val (.long x_), .second]) rfl kq_) ?_
  show own_Go p e below T0 (mkF m 77 #[.val (.ref this), .val (.ref pk), .val (.int (Int32.ofNat o)), .val (.ref in_), .val (.int (Int32.ofNat (min n 64))), .val (.int ((Int32.ofNat 0) + (1 : Int32))), .val (.long x_), .second] []) _
  refine own_s_goto X0.here hx 6 (hb hby own_d6_77) (by decide) (by decide) ?_
  show own_Go p e below T0 (mkF m 6 #[.val (.ref this), .val (.ref pk), .val (.int (Int32.ofNat o)), .val (.ref in_), .val (.int (Int32.ofNat (min n 64))), .val (.int (Int32.ofNat 1)), .val (.long x_), .second] []) _
  exact own_u6_1 hx hZ hw hby hml hown hnm hret hlk hs this pk in_ am aw as n o pf g_ B pw _ X0 e0 N0 Z0 hn ge_in ne_this_in_ ne_am_in_ ne_aw_in_ ne_as_in_ ne_pk_in_ ho hpw hB F0 F1 F2 F3 F4 F5 F6 F7 F8 F9
set_option maxRecDepth 65536 in
set_option maxHeartbeats 40000000 in
theorem own_u6_0 {p : Program} {l : Launch} {e : Env} {s : State} {m : MethodId} {args : Array Value} {below : List Frame} {meth : Method} {c : Code} {Z : State} {a0 : Array Value} {n0 : Nat} (hx : p.tables.exec = Jvm.exec) (hZ : Z.Warmed39 s.vm) (hw : ∀ d ∈ tables_1, d.before a0 Z = true) (hby : c.code = prog_21_method_7_code) (hml : c.maxLocals = 8) (hown : s.vm.findClass "com/example/lapse/lapse/MarkingCode" = some m.cls) (hnm : meth.name = "unpack") (hret : meth.sig.returnType = none) (hlk : meth.locks = false) (hs : Heap) (this pk in_ am aw as : Addr) (n o : Nat) (pf g_ : Nat → Value) (B : Nat → Int32) (pw : Nat → Int64) {T0 : State} {locs : List Loc} {h0 : Heap} (X0 : Stand p l e ({ frames := 0, cells := 0, slots := 0, locals := 0 } : Room) s m args below meth c T0 locs 0 0) (e0 : T0.heap = h0) (N0 : Fr n0 locs) (Z0 : n0 ≤ h0.size) (hn : n ≤ 192) (ge_in : n0 ≤ in_) (ne_this_in_ : this ≠ in_) (ne_am_in_ : am ≠ in_) (ne_aw_in_ : aw ≠ in_) (ne_as_in_ : as ≠ in_) (ne_pk_in_ : pk ≠ in_) (ho : o ≤ 3) (hpw : ∀ w, w < 3 → pf (o + w) = .long (pw w)) (hB : ∀ j, j < n → ((((pw (j / 64)).toUInt64 >>> ((Int32.ofNat (j % 64)) &&& 0x3f).toInt64.toUInt64).toInt64).toInt32 &&& (1 : Int32)) = B j) (F0 : Fld Z h0 this "com/example/lapse/lapse/MarkingCode" "most" "[I" (.ref am)) (F1 : own_Av Z h0 am .int n (fun _ => .int (1 : Int32))) (F2 : Fld Z h0 this "com/example/lapse/lapse/MarkingCode" "words" "[I" (.ref aw)) (F3 : own_Av Z h0 aw .int n (fun j => .int (Int32.ofNat (j / 64)))) (F4 : Fld Z h0 this "com/example/lapse/lapse/MarkingCode" "shifts" "[I" (.ref as)) (F5 : own_Av Z h0 as .int n (fun j => .int (Int32.ofNat (j % 64)))) (F6 : Fld Z h0 this "com/example/lapse/lapse/MarkingCode" "length" "I" (.int (Int32.ofNat ((n - 1) / 64 + 1)))) (F7 : own_Av Z h0 pk .long 7 pf) (F8 : own_Av Z h0 in_ .int 193 (own_fl B 0 g_)) (F9 : Keep hs h0 [in_]) :
    own_Go p e below T0 (mkF m 6 #[.val (.ref this), .val (.ref pk), .val (.int (Int32.ofNat o)), .val (.ref in_), .val (.int (Int32.ofNat 0)), .val (.int (Int32.ofNat 0)), .unset, .unset] []) (own_Fin s (fun (v : Option Value) (h : Heap) (L : List Loc) => v = none ∧ Fr n0 L ∧ Keep hs h [in_] ∧ own_Av Z h in_ .int 193 (own_fl B n g_)) 0 0) := by
  show own_Go p e below T0 (mkF m 6 #[.val (.ref this), .val (.ref pk), .val (.int (Int32.ofNat o)), .val (.ref in_), .val (.int (Int32.ofNat 0)), .val (.int (Int32.ofNat 0)), .unset, .unset] []) _
  refine own_s_iload X0.here hx (hb hby own_d6_6) rfl ?_
  refine own_s_aloadN X0.here hx (hb hby own_d6_8) rfl rfl ?_
  obtain ⟨T153, X153, e153, st153⟩ := getF X0 hx hZ hown (host := "") (Or.inl (hw _ (List.mem_of_getElem? (i := 28) rfl))) Via.refl e0 F6 (g := (mkF m 9 #[.val (.ref this), .val (.ref pk), .val (.int (Int32.ofNat o)), .val (.ref in_), .val (.int (Int32.ofNat 0)), .val (.int (Int32.ofNat 0)), .unset, .unset] [(.ref this), (.int (Int32.ofNat 0))])) rfl rfl (hb hby own_d6_9)
  refine own_by st153 ?_
  show own_Go p e below T153 (mkF m 12 #[.val (.ref this), .val (.ref pk), .val (.int (Int32.ofNat o)), .val (.ref in_), .val (.int (Int32.ofNat 0)), .val (.int (Int32.ofNat 0)), .unset, .unset] [(.int (Int32.ofNat ((n - 1) / 64 + 1))), (.int (Int32.ofNat 0))]) _
  by_cases hc12 : (Int32.ofNat 0) < (Int32.ofNat ((n - 1) / 64 + 1))
  ·
    refine own_s_icmpNo X153.here hx (hb hby own_d6_12) (Jvm.Free.XT.ii_ge_f hc12) ?_
    refine own_s_aloadN X153.here hx (hb hby own_d6_15) rfl rfl ?_
    refine own_s_iloadN X153.here hx (hb hby own_d6_16) rfl ?_
    refine own_s_iload X153.here hx (hb hby own_d6_17) rfl ?_
    refine own_s_iadd X153.here hx (hb hby own_d6_19) ?_
    refine own_by (fun tq_ kq_ => own_ldJ X153 hx hZ e153 F7 (k := (o + 0)) (v := (.long (pw 0))) (own_ix2 (by omega)) (by omega) (hpw 0 (by omega)) (g := (mkF m 20 #[.val (.ref this), .val (.ref pk), .val (.int (Int32.ofNat o)), .val (.ref in_), .val (.int (Int32.ofNat 0)), .val (.int (Int32.ofNat 0)), .unset, .unset] [(.int ((Int32.ofNat o) + (Int32.ofNat 0))), (.ref pk)])) rfl rfl (hb hby own_d6_20) tq_ kq_) ?_
    show own_Go p e below T153 (mkF m 21 #[.val (.ref this), .val (.ref pk), .val (.int (Int32.ofNat o)), .val (.ref in_), .val (.int (Int32.ofNat 0)), .val (.int (Int32.ofNat 0)), .unset, .unset] [(.long (pw 0))]) _
    refine own_s_lstore X153.here hx #[.val (.ref this), .val (.ref pk), .val (.int (Int32.ofNat o)), .val (.ref in_), .val (.int (Int32.ofNat 0)), .val (.int (Int32.ofNat 0)), .val (.long (pw 0)), .second] (hb hby own_d6_21) rfl ?_
    have hln : 0 < ((n - 1) / 64 + 1) := (own_oflt (by omega) (by omega)).mp hc12
    exact own_inn hx hZ hw hby hml hown hnm hret hlk hs this pk in_ am aw as n o pf g_ B 0 (min n 64) _ hn ge_in ne_this_in_ ne_am_in_ ne_aw_in_ ne_as_in_ ne_pk_in_ (by omega) (by omega) (by omega) (fun j hj1 hj2 => by have := hB j hj1; rw [hj2] at this; exact this) (fun T1 locs1 h1 X1 e1 N1 Z1 G0 G1 G2 G3 G4 G5 G6 G7 G8 G9 => own_u74_0 hx hZ hw hby hml hown hnm hret hlk hs this pk in_ am aw as n o pf g_ B pw _ X1 e1 N1 Z1 hn ge_in ne_this_in_ ne_am_in_ ne_aw_in_ ne_as_in_ ne_pk_in_ ho hpw hB hln G0 G1 G2 G3 G4 G5 G6 G7 G8 G9) ((min n 64) - 0) 0 (by omega) X153 e153 N0 Z0 F0 F1 F2 F3 F4 F5 F6 F7 F8 F9 (by omega)
  ·
    refine own_s_icmpYes X153.here hx 80 (hb hby own_d6_12) (Jvm.Free.XT.ii_ge_t hc12) (by decide) (by decide) ?_
    refine own_retV X153 hx hret hlk (hb hby own_d6_80) (by decide) (by decide) ?_
    rw [e153]
    have hc' : ¬ 0 < ((n - 1) / 64 + 1) := fun q => hc12 ((own_oflt (by omega) (by omega)).mpr q)
    exact ⟨rfl, N0, F9, F8.cong rfl (fun j _ => by rw [show 0 = n from by omega])⟩
theorem own_ef6 (m : MethodId) (this : Addr) (pk : Addr) (off_ : Int32) (in_ : Addr) : entryFrame m #[(.ref this), (.ref pk), (.int off_), (.ref in_)] 8 = mkF m 0 #[.val (.ref this), .val (.ref pk), .val (.int off_), .val (.ref in_), .unset, .unset, .unset, .unset] [] := by first | (simp [entryFrame, mkF, argsToLocals, Value.category]; done) | rfl
def own_q_own_r6 (Z : State) (this : Addr) (pk : Addr) (off_ : Int32) (in_ : Addr) (am aw as : Addr) (n o : Nat) (pf g_ : Nat → Value) (B : Nat → Int32) (pw : Nat → Int64) (h0 : Heap) (n0 : Nat) (v : Option Value) (h : Heap) (L : List Loc) : Prop := v = none ∧ Fr n0 L ∧ Keep h0 h [in_] ∧ own_Av Z h in_ .int 193 (own_fl B n g_)
set_option maxRecDepth 65536 in
set_option maxHeartbeats 40000000 in
theorem own_r6 (l : Launch) (Z : State) (a0 : Array Value) (hw : ∀ d ∈ tables_1, d.before a0 Z = true) (ws : List Jvm.Cond) (this : Addr) (pk : Addr) (off_ : Int32) (in_ : Addr) (am aw as : Addr) (n o : Nat) (pf g_ : Nat → Value) (B : Nat → Int32) (pw : Nat → Int64) (h0 : Heap) (n0 : Nat) (Z0 : n0 ≤ h0.size) (hoff : off_ = Int32.ofNat o) (hn : n ≤ 192) (ho : o ≤ 3) (hpw : ∀ w, w < 3 → pf (o + w) = .long (pw w)) (hB : ∀ j, j < n → ((((pw (j / 64)).toUInt64 >>> ((Int32.ofNat (j % 64)) &&& 0x3f).toInt64.toUInt64).toInt64).toInt32 &&& (1 : Int32)) = B j) (F_this_most : Fld Z h0 this "com/example/lapse/lapse/MarkingCode" "most" "[I" (.ref am)) (F_this_words : Fld Z h0 this "com/example/lapse/lapse/MarkingCode" "words" "[I" (.ref aw)) (F_this_shifts : Fld Z h0 this "com/example/lapse/lapse/MarkingCode" "shifts" "[I" (.ref as)) (F_this_length : Fld Z h0 this "com/example/lapse/lapse/MarkingCode" "length" "I" (.int (Int32.ofNat ((n - 1) / 64 + 1)))) (A_am : own_Av Z h0 am .int n (fun _ => .int (1 : Int32))) (A_aw : own_Av Z h0 aw .int n (fun j => .int (Int32.ofNat (j / 64)))) (A_as : own_Av Z h0 as .int n (fun j => .int (Int32.ofNat (j % 64)))) (A_pk : own_Av Z h0 pk .long 7 pf) (A_in_ : own_Av Z h0 in_ .int 193 g_) (ge_in_ : n0 ≤ in_) (ne_this_in_ : this ≠ in_) (ne_am_in_ : am ≠ in_) (ne_aw_in_ : aw ≠ in_) (ne_as_in_ : as ≠ in_) (ne_pk_in_ : pk ≠ in_) :
    MetFree l (⟨"com/example/lapse/lapse/MarkingCode", "unpack", "([JI[I)V"⟩ : MethodName) (head1 (Jvm.Cond.code (⟨"com/example/lapse/lapse/MarkingCode", "unpack", "([JI[I)V"⟩ : MethodName) prog_21_method_7_code 8 none :: ws) ({ frames := 0, cells := 0, slots := 0, locals := 0 } : Room)) (fun aq Uq => aq = #[(.ref this), (.ref pk), (.int off_), (.ref in_)] ∧ Z.Warmed39 Uq.vm ∧ Uq.heap = h0) (fun _ _ _ _ _ => True) (fun _ Uq oq Uq' => ∃ vq Lq, oq = .returned vq ∧ own_q_own_r6 Z this pk off_ in_ am aw as n o pf g_ B pw h0 n0 vq Uq'.heap Lq ∧ FrameEnd Uq oq Uq' Lq ({ frames := 0, cells := 0, slots := 0, locals := 0 } : Room).cells ({ frames := 0, cells := 0, slots := 0, locals := 0 } : Room).slots) := by
  refine MetFree.of_bodySF (plainFor_of_name own_pn_MarkingCode) hisR ?_
  intro p e s m args below meth c T0 Bd hml0 hP hK
  obtain ⟨rfl, hZ, hh⟩ := hP
  have hx := Bd.exec
  have hby := Bd.bytes
  have hml : c.maxLocals = 8 := hml0
  have hown : s.vm.findClass "com/example/lapse/lapse/MarkingCode" = some m.cls := findClass_of_methodNamed Bd.named
  have hnm := (name_of_methodNamed Bd.named Bd.method).1
  have hret : meth.sig.returnType = none := Bd.returns
  have hlk : meth.locks = false := BodyLoose.notSynchronized Bd
  have X0 : Stand p l e ({ frames := 0, cells := 0, slots := 0, locals := 0 } : Room) s m #[(.ref this), (.ref pk), (.int off_), (.ref in_)] below meth c T0 [] 0 0 := Stand.of_body Bd
  have e0 : T0.heap = h0 := by rw [← hh, Bd.state]; rfl
  have N0 := Fr.nil n0
  refine own_start (own_ef6 m this pk off_ in_) (Q := fun (v : Option Value) (h : Heap) (L : List Loc) => v = none ∧ Fr n0 L ∧ Keep h0 h [in_] ∧ own_Av Z h in_ .int 193 (own_fl B n g_)) (k := 0) (j := 0) ?_
  show own_Go p e below T0 (mkF m 0 #[.val (.ref this), .val (.ref pk), .val (.int off_), .val (.ref in_), .unset, .unset, .unset, .unset] []) _
  subst hoff
  show own_Go p e below T0 (mkF m 0 #[.val (.ref this), .val (.ref pk), .val (.int (Int32.ofNat o)), .val (.ref in_), .unset, .unset, .unset, .unset] []) _
  have K0 := Keep.refl h0 [in_]
  refine own_s_iconst X0.here hx (0 : Int32) (hb hby own_d6_0) rfl ?_
  refine own_s_istore X0.here hx #[.val (.ref this), .val (.ref pk), .val (.int (Int32.ofNat o)), .val (.ref in_), .val (.int (0 : Int32)), .unset, .unset, .unset] (hb hby own_d6_1) rfl ?_
  refine own_s_iconst X0.here hx (0 : Int32) (hb hby own_d6_3) rfl ?_
  refine own_s_istore X0.here hx #[.val (.ref this), .val (.ref pk), .val (.int (Int32.ofNat o)), .val (.ref in_), .val (.int (0 : Int32)), .val (.int (0 : Int32)), .unset, .unset] (hb hby own_d6_4) rfl ?_
  show own_Go p e below T0 (mkF m 6 #[.val (.ref this), .val (.ref pk), .val (.int (Int32.ofNat o)), .val (.ref in_), .val (.int (Int32.ofNat 0)), .val (.int (Int32.ofNat 0)), .unset, .unset] []) _
  exact own_u6_0 hx hZ hw hby hml hown hnm hret hlk h0 this pk in_ am aw as n o pf g_ B pw X0 e0 N0 Z0 hn ge_in_ ne_this_in_ ne_am_in_ ne_aw_in_ ne_as_in_ ne_pk_in_ ho hpw hB F_this_most A_am F_this_words A_aw F_this_shifts A_as F_this_length A_pk (A_in_.cong rfl (fun j _ => own_fl0 B g_ j)) K0
def own_f7 (a_ : Int64) (b_ : Int64) (c_ : Int64) (i_ : Int32) : Int32 := (if ((i_.toUInt32 >>> ((6 : Int32) &&& 31).toUInt32).toInt32) = 0 then ((((a_.toUInt64 >>> ((i_ &&& (63 : Int32)) &&& 0x3f).toInt64.toUInt64).toInt64) &&& (1 : Int64)).toInt32) else (if ((i_.toUInt32 >>> ((6 : Int32) &&& 31).toUInt32).toInt32) = (1 : Int32) then ((((b_.toUInt64 >>> ((i_ &&& (63 : Int32)) &&& 0x3f).toInt64.toUInt64).toInt64) &&& (1 : Int64)).toInt32) else ((((c_.toUInt64 >>> ((i_ &&& (63 : Int32)) &&& 0x3f).toInt64.toUInt64).toInt64) &&& (1 : Int64)).toInt32)))
theorem own_d7_0 : decode method_3_code 0 = .ok (.iload 6, 2) := by decide +kernel
theorem own_d7_2 : decode method_3_code 2 = .ok (.bipush 6, 2) := by decide +kernel
theorem own_d7_4 : decode method_3_code 4 = .ok (.iushr, 1) := by decide +kernel
theorem own_d7_5 : decode method_3_code 5 = .ok (.istore 7, 2) := by decide +kernel
theorem own_d7_7 : decode method_3_code 7 = .ok (.iload 7, 2) := by decide +kernel
theorem own_d7_9 : decode method_3_code 9 = .ok (.ifCond .ne 9, 3) := by decide +kernel
theorem own_d7_12 : decode method_3_code 12 = .ok (.lload_n 0, 1) := by decide +kernel
theorem own_d7_13 : decode method_3_code 13 = .ok (.lstore 8, 2) := by decide +kernel
theorem own_d7_15 : decode method_3_code 15 = .ok (.goto 19, 3) := by decide +kernel
theorem own_d7_18 : decode method_3_code 18 = .ok (.iload 7, 2) := by decide +kernel
theorem own_d7_20 : decode method_3_code 20 = .ok (.iconst 1, 1) := by decide +kernel
theorem own_d7_21 : decode method_3_code 21 = .ok (.if_icmp .ne 9, 3) := by decide +kernel
theorem own_d7_24 : decode method_3_code 24 = .ok (.lload_n 2, 1) := by decide +kernel
theorem own_d7_25 : decode method_3_code 25 = .ok (.lstore 8, 2) := by decide +kernel
theorem own_d7_27 : decode method_3_code 27 = .ok (.goto 7, 3) := by decide +kernel
theorem own_d7_30 : decode method_3_code 30 = .ok (.lload 4, 2) := by decide +kernel
theorem own_d7_32 : decode method_3_code 32 = .ok (.lstore 8, 2) := by decide +kernel
theorem own_d7_34 : decode method_3_code 34 = .ok (.lload 8, 2) := by decide +kernel
theorem own_d7_36 : decode method_3_code 36 = .ok (.iload 6, 2) := by decide +kernel
theorem own_d7_38 : decode method_3_code 38 = .ok (.bipush 63, 2) := by decide +kernel
theorem own_d7_40 : decode method_3_code 40 = .ok (.iand, 1) := by decide +kernel
theorem own_d7_41 : decode method_3_code 41 = .ok (.lushr, 1) := by decide +kernel
theorem own_d7_42 : decode method_3_code 42 = .ok (.lconst 1, 1) := by decide +kernel
theorem own_d7_43 : decode method_3_code 43 = .ok (.land, 1) := by decide +kernel
theorem own_d7_44 : decode method_3_code 44 = .ok (.l2i, 1) := by decide +kernel
theorem own_d7_45 : decode method_3_code 45 = .ok (.ireturn, 1) := by decide +kernel
theorem own_pn_MarkingCodeUnpackPinLaw : plainName "com/example/lapse/lapse/MarkingCodeUnpackPinLaw" = true := by first | (simp [plainName, overriddenIn]; done) | decide +kernel
theorem own_ef7 (m : MethodId) (a_ : Int64) (b_ : Int64) (c_ : Int64) (i_ : Int32) : entryFrame m #[(.long a_), (.long b_), (.long c_), (.int i_)] 10 = mkF m 0 #[.val (.long a_), .second, .val (.long b_), .second, .val (.long c_), .second, .val (.int i_), .unset, .unset, .unset] [] := by first | (simp [entryFrame, mkF, argsToLocals, Value.category]; done) | rfl
def own_q_own_r7 (Z : State) (a_ : Int64) (b_ : Int64) (c_ : Int64) (i_ : Int32) (h0 : Heap) (n0 : Nat) (v : Option Value) (h : Heap) (L : List Loc) : Prop := v = some (.int (own_f7 a_ b_ c_ i_)) ∧ Fr n0 L ∧ h = h0
set_option maxRecDepth 65536 in
set_option maxHeartbeats 40000000 in
theorem own_r7 (l : Launch) (Z : State) (a0 : Array Value) (hw : ∀ d ∈ tables_1, d.before a0 Z = true) (ws : List Jvm.Cond) (a_ : Int64) (b_ : Int64) (c_ : Int64) (i_ : Int32) (h0 : Heap) (n0 : Nat) (Z0 : n0 ≤ h0.size) :
    MetFree l (⟨"com/example/lapse/lapse/MarkingCodeUnpackPinLaw", "bit", "(JJJI)I"⟩ : MethodName) (head1 (Jvm.Cond.code (⟨"com/example/lapse/lapse/MarkingCodeUnpackPinLaw", "bit", "(JJJI)I"⟩ : MethodName) method_3_code 10 (some .int) :: ws) ({ frames := 0, cells := 0, slots := 0, locals := 0 } : Room)) (fun aq Uq => aq = #[(.long a_), (.long b_), (.long c_), (.int i_)] ∧ Z.Warmed39 Uq.vm ∧ Uq.heap = h0) (fun _ _ _ _ _ => True) (fun _ Uq oq Uq' => ∃ vq Lq, oq = .returned vq ∧ own_q_own_r7 Z a_ b_ c_ i_ h0 n0 vq Uq'.heap Lq ∧ FrameEnd Uq oq Uq' Lq ({ frames := 0, cells := 0, slots := 0, locals := 0 } : Room).cells ({ frames := 0, cells := 0, slots := 0, locals := 0 } : Room).slots) := by
  refine MetFree.of_bodySF (plainFor_of_name own_pn_MarkingCodeUnpackPinLaw) hisR ?_
  intro p e s m args below meth c T0 Bd hml0 hP hK
  obtain ⟨rfl, hZ, hh⟩ := hP
  have hx := Bd.exec
  have hby := Bd.bytes
  have hml : c.maxLocals = 10 := hml0
  have hown : s.vm.findClass "com/example/lapse/lapse/MarkingCodeUnpackPinLaw" = some m.cls := findClass_of_methodNamed Bd.named
  have hnm := (name_of_methodNamed Bd.named Bd.method).1
  have hret : meth.sig.returnType = (some .int) := Bd.returns
  have hlk : meth.locks = false := BodyLoose.notSynchronized Bd
  have X0 : Stand p l e ({ frames := 0, cells := 0, slots := 0, locals := 0 } : Room) s m #[(.long a_), (.long b_), (.long c_), (.int i_)] below meth c T0 [] 0 0 := Stand.of_body Bd
  have e0 : T0.heap = h0 := by rw [← hh, Bd.state]; rfl
  have N0 := Fr.nil n0
  refine own_start (own_ef7 m a_ b_ c_ i_) (Q := fun (v : Option Value) (h : Heap) (L : List Loc) => v = some (.int (own_f7 a_ b_ c_ i_)) ∧ Fr n0 L ∧ h = h0) (k := 0) (j := 0) ?_
  show own_Go p e below T0 (mkF m 0 #[.val (.long a_), .second, .val (.long b_), .second, .val (.long c_), .second, .val (.int i_), .unset, .unset, .unset] []) _
  refine own_s_iload X0.here hx (hb hby own_d7_0) rfl ?_
  refine own_s_bipush X0.here hx (6 : Int32) (hb hby own_d7_2) rfl ?_
  refine own_s_iushr X0.here hx (hb hby own_d7_4) ?_
  refine own_s_istore X0.here hx #[.val (.long a_), .second, .val (.long b_), .second, .val (.long c_), .second, .val (.int i_), .val (.int ((i_.toUInt32 >>> ((6 : Int32) &&& 31).toUInt32).toInt32)), .unset, .unset] (hb hby own_d7_5) rfl ?_
  refine own_s_iload X0.here hx (hb hby own_d7_7) rfl ?_
  by_cases hc9 : ((i_.toUInt32 >>> ((6 : Int32) &&& 31).toUInt32).toInt32) = 0
  ·
    refine own_s_ifNo X0.here hx (hb hby own_d7_9) (Jvm.Free.XT.i0_ne_f hc9) ?_
    refine own_s_lloadN X0.here hx (hb hby own_d7_12) rfl ?_
    refine own_s_lstore X0.here hx #[.val (.long a_), .second, .val (.long b_), .second, .val (.long c_), .second, .val (.int i_), .val (.int ((i_.toUInt32 >>> ((6 : Int32) &&& 31).toUInt32).toInt32)), .val (.long a_), .second] (hb hby own_d7_13) rfl ?_
    show own_Go p e below T0 (mkF m 15 #[.val (.long a_), .second, .val (.long b_), .second, .val (.long c_), .second, .val (.int i_), .val (.int ((i_.toUInt32 >>> ((6 : Int32) &&& 31).toUInt32).toInt32)), .val (.long a_), .second] []) _
    refine own_s_goto X0.here hx 34 (hb hby own_d7_15) (by decide) (by decide) ?_
    refine own_s_lload X0.here hx (hb hby own_d7_34) rfl ?_
    refine own_s_iload X0.here hx (hb hby own_d7_36) rfl ?_
    refine own_s_bipush X0.here hx (63 : Int32) (hb hby own_d7_38) rfl ?_
    refine own_s_iand X0.here hx (hb hby own_d7_40) ?_
    refine own_s_lushr X0.here hx (hb hby own_d7_41) ?_
    refine own_s_lconst X0.here hx (1 : Int64) (hb hby own_d7_42) rfl ?_
    refine own_s_land X0.here hx (hb hby own_d7_43) ?_
    refine own_s_l2i X0.here hx (hb hby own_d7_44) ?_
    refine own_retI X0 hx hret hlk (hb hby own_d7_45) (by decide) (by decide) ?_
    exact ⟨by unfold own_f7; rw [if_pos hc9], N0, e0⟩
  ·
    show own_Go p e below T0 (mkF m 9 #[.val (.long a_), .second, .val (.long b_), .second, .val (.long c_), .second, .val (.int i_), .val (.int ((i_.toUInt32 >>> ((6 : Int32) &&& 31).toUInt32).toInt32)), .unset, .unset] [(.int ((i_.toUInt32 >>> ((6 : Int32) &&& 31).toUInt32).toInt32))]) _
    refine own_s_ifYes X0.here hx 18 (hb hby own_d7_9) (Jvm.Free.XT.i0_ne_t hc9) (by decide) (by decide) ?_
    refine own_s_iload X0.here hx (hb hby own_d7_18) rfl ?_
    refine own_s_iconst X0.here hx (1 : Int32) (hb hby own_d7_20) rfl ?_
    by_cases hc21 : ((i_.toUInt32 >>> ((6 : Int32) &&& 31).toUInt32).toInt32) = (1 : Int32)
    ·
      refine own_s_icmpNo X0.here hx (hb hby own_d7_21) (Jvm.Free.XT.ii_ne_f hc21) ?_
      refine own_s_lloadN X0.here hx (hb hby own_d7_24) rfl ?_
      refine own_s_lstore X0.here hx #[.val (.long a_), .second, .val (.long b_), .second, .val (.long c_), .second, .val (.int i_), .val (.int ((i_.toUInt32 >>> ((6 : Int32) &&& 31).toUInt32).toInt32)), .val (.long b_), .second] (hb hby own_d7_25) rfl ?_
      show own_Go p e below T0 (mkF m 27 #[.val (.long a_), .second, .val (.long b_), .second, .val (.long c_), .second, .val (.int i_), .val (.int ((i_.toUInt32 >>> ((6 : Int32) &&& 31).toUInt32).toInt32)), .val (.long b_), .second] []) _
      refine own_s_goto X0.here hx 34 (hb hby own_d7_27) (by decide) (by decide) ?_
      refine own_s_lload X0.here hx (hb hby own_d7_34) rfl ?_
      refine own_s_iload X0.here hx (hb hby own_d7_36) rfl ?_
      refine own_s_bipush X0.here hx (63 : Int32) (hb hby own_d7_38) rfl ?_
      refine own_s_iand X0.here hx (hb hby own_d7_40) ?_
      refine own_s_lushr X0.here hx (hb hby own_d7_41) ?_
      refine own_s_lconst X0.here hx (1 : Int64) (hb hby own_d7_42) rfl ?_
      refine own_s_land X0.here hx (hb hby own_d7_43) ?_
      refine own_s_l2i X0.here hx (hb hby own_d7_44) ?_
      refine own_retI X0 hx hret hlk (hb hby own_d7_45) (by decide) (by decide) ?_
      exact ⟨by unfold own_f7; rw [if_neg hc9, if_pos hc21], N0, e0⟩
    ·
      show own_Go p e below T0 (mkF m 21 #[.val (.long a_), .second, .val (.long b_), .second, .val (.long c_), .second, .val (.int i_), .val (.int ((i_.toUInt32 >>> ((6 : Int32) &&& 31).toUInt32).toInt32)), .unset, .unset] [(.int (1 : Int32)), (.int ((i_.toUInt32 >>> ((6 : Int32) &&& 31).toUInt32).toInt32))]) _
      refine own_s_icmpYes X0.here hx 30 (hb hby own_d7_21) (Jvm.Free.XT.ii_ne_t hc21) (by decide) (by decide) ?_
      refine own_s_lload X0.here hx (hb hby own_d7_30) rfl ?_
      refine own_s_lstore X0.here hx #[.val (.long a_), .second, .val (.long b_), .second, .val (.long c_), .second, .val (.int i_), .val (.int ((i_.toUInt32 >>> ((6 : Int32) &&& 31).toUInt32).toInt32)), .val (.long c_), .second] (hb hby own_d7_32) rfl ?_
      refine own_s_lload X0.here hx (hb hby own_d7_34) rfl ?_
      refine own_s_iload X0.here hx (hb hby own_d7_36) rfl ?_
      refine own_s_bipush X0.here hx (63 : Int32) (hb hby own_d7_38) rfl ?_
      refine own_s_iand X0.here hx (hb hby own_d7_40) ?_
      refine own_s_lushr X0.here hx (hb hby own_d7_41) ?_
      refine own_s_lconst X0.here hx (1 : Int64) (hb hby own_d7_42) rfl ?_
      refine own_s_land X0.here hx (hb hby own_d7_43) ?_
      refine own_s_l2i X0.here hx (hb hby own_d7_44) ?_
      refine own_retI X0 hx hret hlk (hb hby own_d7_45) (by decide) (by decide) ?_
      exact ⟨by unfold own_f7; rw [if_neg hc9, if_neg hc21], N0, e0⟩
def own_pw (a b c : Int64) : Nat → Int64
  | 0 => a | 1 => b | _ => c
def own_B (a b c : Int64) (j : Nat) : Int32 := ((((own_pw a b c (j / 64)).toUInt64 >>> ((Int32.ofNat (j % 64)) &&& 0x3f).toInt64.toUInt64).toInt64).toInt32 &&& (1 : Int32))
theorem own_sh6 (j : Nat) (hj : j < 1000) : (((Int32.ofNat j).toUInt32 >>> ((6 : Int32) &&& 31).toUInt32).toInt32) = Int32.ofNat (j / 64) := by
  apply Int32.toInt_inj.mp
  have e := own_toI (i := j) (by omega)
  rw [Jvm.Kit.i32_iushr (Jvm.Kit.i32_nonneg.mpr (by omega)) (k := 6) (by decide) (by decide), e, own_toI (by omega)]
  omega
theorem own_an6 (j : Nat) (hj : j < 1000) : ((Int32.ofNat j) &&& (63 : Int32)) = Int32.ofNat (j % 64) := by
  apply Int32.toInt_inj.mp
  rw [Jvm.Kit.i32_mask _ _ (k := 6) (by decide) (by decide), own_toI (by omega), own_toI (by omega)]
  omega
theorem own_bq (a_ b_ c_ : Int64) (j : Nat) (hj : j < 192) : own_B a_ b_ c_ j = own_f7 a_ b_ c_ (Int32.ofNat j) := by
  unfold own_f7 own_B
  rw [own_sh6 j (by omega), own_an6 j (by omega)]
  have h0 : Int32.ofNat (j / 64) = 0 ↔ j / 64 = 0 := own_ofeq (n := 0) (by omega) (by omega)
  have h1 : Int32.ofNat (j / 64) = (1 : Int32) ↔ j / 64 = 1 := own_ofeq (n := 1) (by omega) (by omega)
  by_cases q0 : j / 64 = 0
  · rw [if_pos (h0.mpr q0), q0, Int64.toInt32_and]; rfl
  · rw [if_neg (fun z => q0 (h0.mp z))]
    by_cases q1 : j / 64 = 1
    · rw [if_pos (h1.mpr q1), q1, Int64.toInt32_and]; rfl
    · rw [if_neg (fun z => q1 (h1.mp z)), show j / 64 = 2 from by omega, Int64.toInt32_and]; rfl
theorem own_nat {x : Int32} {k : Nat} (h0 : 0 ≤ x.toInt) (h1 : x.toInt ≤ k) (hk : k < 1000) : ∃ n : Nat, n ≤ k ∧ x = Int32.ofNat n := by
  refine ⟨x.toInt.toNat, by omega, Int32.toInt_inj.mp ?_⟩
  rw [own_toI (by omega)]
  omega
theorem own_wb (x : Int32) : ∃ n : Nat, n ≤ 192 ∧ ((x &&& (255 : Int32)) % (193 : Int32)) = Int32.ofNat n := by
  have e1 : (x &&& (255 : Int32)).toInt = x.toInt % 2 ^ 8 := Jvm.Kit.i32_mask x _ (k := 8) (by decide) (by decide)
  have e2 : ((x &&& (255 : Int32)) % (193 : Int32)).toInt = (x.toInt % 2 ^ 8) % 193 := by rw [Jvm.Kit.i32_rem_nonneg (by omega), e1, show (193 : Int32).toInt = 193 from by decide]
  exact own_nat (by omega) (by omega) (by omega)
theorem own_ob (x : Int32) : ∃ n : Nat, n ≤ 3 ∧ (x &&& (3 : Int32)) = Int32.ofNat n := by
  have e1 : (x &&& (3 : Int32)).toInt = x.toInt % 2 ^ 2 := Jvm.Kit.i32_mask x _ (k := 2) (by decide) (by decide)
  exact own_nat (by omega) (by omega) (by omega)
theorem own_nzn {n : Nat} (h : 0 < n) (h2 : n < 1000) : Int32.ofNat n ≠ 0 := fun q => by
  have := (own_ofeq (n := 0) (by omega) (by omega)).mp q; omega
theorem own_qb (x : Int32) (n : Nat) (h : 0 < n) (h2 : n ≤ 192) : ∃ q : Nat, q < n ∧ ((x &&& (2147483647 : Int32)) % (Int32.ofNat n)) = Int32.ofNat q := by
  have e1 : (x &&& (2147483647 : Int32)).toInt = x.toInt % 2 ^ 31 := Jvm.Kit.i32_mask x _ (k := 31) (by decide) (by decide)
  have e2 : ((x &&& (2147483647 : Int32)) % (Int32.ofNat n)).toInt = (x.toInt % 2 ^ 31) % n := by rw [Jvm.Kit.i32_rem_nonneg (by omega), e1, own_toI (by omega)]
  have h3 : 0 ≤ (x.toInt % 2 ^ 31) % (n : Int) := Int.emod_nonneg _ (by omega)
  have h4 : (x.toInt % 2 ^ 31) % (n : Int) < n := Int.emod_lt_of_pos _ (by omega)
  obtain ⟨q, hq, e⟩ := own_nat (k := n - 1) (x := (x &&& (2147483647 : Int32)) % (Int32.ofNat n)) (by omega) (by omega) (by omega)
  exact ⟨q, by omega, e⟩
theorem own_last (n : Nat) (h : 0 < n) (h2 : n ≤ 192) : Int32.ofNat n - (1 : Int32) = Int32.ofNat (n - 1) := by
  obtain ⟨k, rfl⟩ : ∃ k, n = k + 1 := ⟨n - 1, by omega⟩
  rw [← own_ofs, Int32.add_sub_cancel, show k + 1 - 1 = k from by omega]
theorem own_ml : maxLocals = 17 := rfl
theorem own_ef0 (m : MethodId) (a_ : Int64) (b_ : Int64) (c_ : Int64) (w0 : Int32) (f0 : Int32) (p0 : Int32) : entryFrame m #[(.long a_), (.long b_), (.long c_), (.int w0), (.int f0), (.int p0)] maxLocals = mkF m 0 #[.val (.long a_), .second, .val (.long b_), .second, .val (.long c_), .second, .val (.int w0), .val (.int f0), .val (.int p0), .unset, .unset, .unset, .unset, .unset, .unset, .unset, .unset] [] := by first | (simp [entryFrame, mkF, argsToLocals, Value.category, maxLocals]; done) | rfl
theorem own_pd_0 : parseMethodDescriptor "(I)V" = some ⟨[.int], none⟩ := by decide +kernel
theorem own_pd_5 : parseMethodDescriptor "([JI[I)V" = some ⟨[(.array .long), .int, (.array .int)], none⟩ := by decide +kernel
theorem own_pd_6 : parseMethodDescriptor "(JJJI)I" = some ⟨[.long, .long, .long, .int], some .int⟩ := by decide +kernel
def own_q_own_r0 (Z : State) (a_ : Int64) (b_ : Int64) (c_ : Int64) (w0 : Int32) (f0 : Int32) (p0 : Int32) (h0 : Heap) (n0 : Nat) (v : Option Value) (h : Heap) (L : List Loc) : Prop := v = some (.int 1) ∧ Fr n0 L
set_option maxRecDepth 65536 in
set_option maxHeartbeats 40000000 in
theorem own_r0 (l : Launch) (Z : State) (a0 : Array Value) (hw : ∀ d ∈ tables_1, d.before a0 Z = true) (ws : List Jvm.Cond) (a_ : Int64) (b_ : Int64) (c_ : Int64) (w0 : Int32) (f0 : Int32) (p0 : Int32) (h0 : Heap) (n0 : Nat) (Z0 : n0 ≤ h0.size) :
    MetFree l x (head1 (Jvm.Cond.code x code maxLocals ret :: ws) room_1) (fun aq Uq => aq = #[(.long a_), (.long b_), (.long c_), (.int w0), (.int f0), (.int p0)] ∧ Z.Warmed39 Uq.vm ∧ Uq.heap = h0) (fun _ _ _ _ _ => True) (fun _ Uq oq Uq' => ∃ vq Lq, oq = .returned vq ∧ own_q_own_r0 Z a_ b_ c_ w0 f0 p0 h0 n0 vq Uq'.heap Lq ∧ FrameEnd Uq oq Uq' Lq 24 2048) := by
  refine MetFree.of_bodySF (plainFor_of_name own_pn_MarkingCodeUnpackPinLaw) hisR ?_
  intro p e s m args below meth c T0 Bd hml0 hP hK
  obtain ⟨rfl, hZ, hh⟩ := hP
  have hx := Bd.exec
  have hby := Bd.bytes
  have hml : c.maxLocals = 17 := hml0
  have hown : s.vm.findClass "com/example/lapse/lapse/MarkingCodeUnpackPinLaw" = some m.cls := findClass_of_methodNamed Bd.named
  have hnm := (name_of_methodNamed Bd.named Bd.method).1
  have hret : meth.sig.returnType = (some .boolean) := Bd.returns
  have hlk : meth.locks = false := BodyLoose.notSynchronized Bd
  have X0 : Stand p l e room_1 s m #[(.long a_), (.long b_), (.long c_), (.int w0), (.int f0), (.int p0)] below meth c T0 [] 0 0 := Stand.of_body Bd
  have e0 : T0.heap = h0 := by rw [← hh, Bd.state]; rfl
  have N0 := Fr.nil n0
  refine own_start (own_ef0 m a_ b_ c_ w0 f0 p0) (Q := fun (v : Option Value) (h : Heap) (L : List Loc) => v = some (.int 1) ∧ Fr n0 L) (k := 24) (j := 2048) ?_
  show own_Go p e below T0 (mkF m 0 #[.val (.long a_), .second, .val (.long b_), .second, .val (.long c_), .second, .val (.int w0), .val (.int f0), .val (.int p0), .unset, .unset, .unset, .unset, .unset, .unset, .unset, .unset] []) _
  refine own_s_iload X0.here hx (hb hby at_0) rfl ?_
  refine own_s_sipush X0.here hx (255 : Int32) (hb hby at_2) rfl ?_
  refine own_s_iand X0.here hx (hb hby at_5) ?_
  refine own_s_sipush X0.here hx (193 : Int32) (hb hby at_6) rfl ?_
  refine own_by (fun tq_ kq_ => iremM X0 hx rfl (hb hby at_9) rfl (by decide) kq_) ?_
  show own_Go p e below T0 (mkF m 10 #[.val (.long a_), .second, .val (.long b_), .second, .val (.long c_), .second, .val (.int w0), .val (.int f0), .val (.int p0), .unset, .unset, .unset, .unset, .unset, .unset, .unset, .unset] [(.int ((w0 &&& (255 : Int32)) % (193 : Int32)))]) _
  refine own_s_istore X0.here hx #[.val (.long a_), .second, .val (.long b_), .second, .val (.long c_), .second, .val (.int w0), .val (.int f0), .val (.int p0), .val (.int ((w0 &&& (255 : Int32)) % (193 : Int32))), .unset, .unset, .unset, .unset, .unset, .unset, .unset] (hb hby at_10) rfl ?_
  obtain ⟨n, hn, hwe⟩ := own_wb w0
  rw [hwe]
  show own_Go p e below T0 (mkF m 12 #[.val (.long a_), .second, .val (.long b_), .second, .val (.long c_), .second, .val (.int w0), .val (.int f0), .val (.int p0), .val (.int (Int32.ofNat n)), .unset, .unset, .unset, .unset, .unset, .unset, .unset] []) _
  refine own_s_iload X0.here hx (hb hby at_12) rfl ?_
  refine own_s_iconst X0.here hx (3 : Int32) (hb hby at_14) rfl ?_
  refine own_s_iand X0.here hx (hb hby at_15) ?_
  refine own_s_istore X0.here hx #[.val (.long a_), .second, .val (.long b_), .second, .val (.long c_), .second, .val (.int w0), .val (.int f0), .val (.int p0), .val (.int (Int32.ofNat n)), .val (.int (f0 &&& (3 : Int32))), .unset, .unset, .unset, .unset, .unset, .unset] (hb hby at_16) rfl ?_
  obtain ⟨o, ho, hoe⟩ := own_ob f0
  rw [hoe]
  show own_Go p e below T0 (mkF m 18 #[.val (.long a_), .second, .val (.long b_), .second, .val (.long c_), .second, .val (.int w0), .val (.int f0), .val (.int p0), .val (.int (Int32.ofNat n)), .val (.int (Int32.ofNat o)), .unset, .unset, .unset, .unset, .unset, .unset] []) _
  refine own_s_bipush X0.here hx (7 : Int32) (hb hby at_18) rfl ?_
  obtain ⟨T154, h154, k154, X154, e154, E154, A154, st154⟩ := newP X0 hx hZ (hw _ (List.mem_of_getElem? (i := 0) rfl)) e0 (g := (mkF m 20 #[.val (.long a_), .second, .val (.long b_), .second, .val (.long c_), .second, .val (.int w0), .val (.int f0), .val (.int p0), .val (.int (Int32.ofNat n)), .val (.int (Int32.ofNat o)), .unset, .unset, .unset, .unset, .unset, .unset] [(.int (7 : Int32))])) rfl (hb hby at_20) rfl (by decide) (cap := 7) (by decide) (by decide) (by decide) (by decide)
  obtain ⟨b154, g154⟩ : ∃ z, z = h0.size := ⟨_, rfl⟩
  rw [← g154] at A154 st154
  have ge_b154 : n0 ≤ b154 := Nat.le_trans Z0 (Nat.le_of_eq g154.symm)
  have SZ154 : n0 ≤ h154.size := Nat.le_trans Z0 E154.1
  have f155 : own_Av Z h154 b154 .long 7 (fun _ => (.long (0 : Int64))) := own_Av.ofnew A154 (by decide) rfl
  refine own_by st154 ?_
  show own_Go p e below T154 (mkF m 22 #[.val (.long a_), .second, .val (.long b_), .second, .val (.long c_), .second, .val (.int w0), .val (.int f0), .val (.int p0), .val (.int (Int32.ofNat n)), .val (.int (Int32.ofNat o)), .unset, .unset, .unset, .unset, .unset, .unset] [(.ref b154)]) _
  refine own_s_astore X154.here hx #[.val (.long a_), .second, .val (.long b_), .second, .val (.long c_), .second, .val (.int w0), .val (.int f0), .val (.int p0), .val (.int (Int32.ofNat n)), .val (.int (Int32.ofNat o)), .val (.ref b154), .unset, .unset, .unset, .unset, .unset] (hb hby at_22) rfl rfl ?_
  refine own_s_aload X154.here hx (hb hby at_24) rfl rfl ?_
  refine own_s_iconst X154.here hx (0 : Int32) (hb hby at_26) rfl ?_
  refine own_s_lloadN X154.here hx (hb hby at_27) rfl ?_
  refine own_by (fun tq_ kq_ => X154.ldc2Long hx hown (mvT hZ (hw _ (List.mem_of_getElem? (i := 1) rfl))) (g := (mkF m 28 #[.val (.long a_), .second, .val (.long b_), .second, .val (.long c_), .second, .val (.int w0), .val (.int f0), .val (.int p0), .val (.int (Int32.ofNat n)), .val (.int (Int32.ofNat o)), .val (.ref b154), .unset, .unset, .unset, .unset, .unset] [(.long a_), (.int (0 : Int32)), (.ref b154)])) rfl (hb hby at_28) tq_ kq_) ?_
  show own_Go p e below T154 (mkF m 31 #[.val (.long a_), .second, .val (.long b_), .second, .val (.long c_), .second, .val (.int w0), .val (.int f0), .val (.int p0), .val (.int (Int32.ofNat n)), .val (.int (Int32.ofNat o)), .val (.ref b154), .unset, .unset, .unset, .unset, .unset] [(.long (-1 : Int64)), (.long a_), (.int (0 : Int32)), (.ref b154)]) _
  refine own_s_lxor X154.here hx (hb hby at_31) ?_
  obtain ⟨T156, h156, X156, e156, W156, fa156, st156⟩ := own_stJ X154 hx hZ e154 f155 (k := 0) (by decide) (by decide) (g := (mkF m 32 #[.val (.long a_), .second, .val (.long b_), .second, .val (.long c_), .second, .val (.int w0), .val (.int f0), .val (.int p0), .val (.int (Int32.ofNat n)), .val (.int (Int32.ofNat o)), .val (.ref b154), .unset, .unset, .unset, .unset, .unset] [(.long (a_ ^^^ (-1 : Int64))), (.int (0 : Int32)), (.ref b154)])) rfl rfl (hb hby at_32)
  have N156 := Fr.snoc X156 N0 ge_b154
  have SZ156 : n0 ≤ h156.size := by rw [W156.size]; exact SZ154
  refine own_by st156 ?_
  show own_Go p e below T156 (mkF m 33 #[.val (.long a_), .second, .val (.long b_), .second, .val (.long c_), .second, .val (.int w0), .val (.int f0), .val (.int p0), .val (.int (Int32.ofNat n)), .val (.int (Int32.ofNat o)), .val (.ref b154), .unset, .unset, .unset, .unset, .unset] []) _
  refine own_s_aload X156.here hx (hb hby at_33) rfl rfl ?_
  refine own_s_iconst X156.here hx (1 : Int32) (hb hby at_35) rfl ?_
  refine own_s_lloadN X156.here hx (hb hby at_36) rfl ?_
  refine own_by (fun tq_ kq_ => X156.ldc2Long hx hown (mvT hZ (hw _ (List.mem_of_getElem? (i := 1) rfl))) (g := (mkF m 37 #[.val (.long a_), .second, .val (.long b_), .second, .val (.long c_), .second, .val (.int w0), .val (.int f0), .val (.int p0), .val (.int (Int32.ofNat n)), .val (.int (Int32.ofNat o)), .val (.ref b154), .unset, .unset, .unset, .unset, .unset] [(.long b_), (.int (1 : Int32)), (.ref b154)])) rfl (hb hby at_37) tq_ kq_) ?_
  show own_Go p e below T156 (mkF m 40 #[.val (.long a_), .second, .val (.long b_), .second, .val (.long c_), .second, .val (.int w0), .val (.int f0), .val (.int p0), .val (.int (Int32.ofNat n)), .val (.int (Int32.ofNat o)), .val (.ref b154), .unset, .unset, .unset, .unset, .unset] [(.long (-1 : Int64)), (.long b_), (.int (1 : Int32)), (.ref b154)]) _
  refine own_s_lxor X156.here hx (hb hby at_40) ?_
  obtain ⟨T157, h157, X157, e157, W157, fa157, st157⟩ := own_stJ X156 hx hZ e156 fa156 (k := 1) (by decide) (by decide) (g := (mkF m 41 #[.val (.long a_), .second, .val (.long b_), .second, .val (.long c_), .second, .val (.int w0), .val (.int f0), .val (.int p0), .val (.int (Int32.ofNat n)), .val (.int (Int32.ofNat o)), .val (.ref b154), .unset, .unset, .unset, .unset, .unset] [(.long (b_ ^^^ (-1 : Int64))), (.int (1 : Int32)), (.ref b154)])) rfl rfl (hb hby at_41)
  have N157 := Fr.snoc X157 N156 ge_b154
  have SZ157 : n0 ≤ h157.size := by rw [W157.size]; exact SZ156
  refine own_by st157 ?_
  show own_Go p e below T157 (mkF m 42 #[.val (.long a_), .second, .val (.long b_), .second, .val (.long c_), .second, .val (.int w0), .val (.int f0), .val (.int p0), .val (.int (Int32.ofNat n)), .val (.int (Int32.ofNat o)), .val (.ref b154), .unset, .unset, .unset, .unset, .unset] []) _
  refine own_s_aload X157.here hx (hb hby at_42) rfl rfl ?_
  refine own_s_iconst X157.here hx (2 : Int32) (hb hby at_44) rfl ?_
  refine own_s_lload X157.here hx (hb hby at_45) rfl ?_
  refine own_by (fun tq_ kq_ => X157.ldc2Long hx hown (mvT hZ (hw _ (List.mem_of_getElem? (i := 1) rfl))) (g := (mkF m 47 #[.val (.long a_), .second, .val (.long b_), .second, .val (.long c_), .second, .val (.int w0), .val (.int f0), .val (.int p0), .val (.int (Int32.ofNat n)), .val (.int (Int32.ofNat o)), .val (.ref b154), .unset, .unset, .unset, .unset, .unset] [(.long c_), (.int (2 : Int32)), (.ref b154)])) rfl (hb hby at_47) tq_ kq_) ?_
  show own_Go p e below T157 (mkF m 50 #[.val (.long a_), .second, .val (.long b_), .second, .val (.long c_), .second, .val (.int w0), .val (.int f0), .val (.int p0), .val (.int (Int32.ofNat n)), .val (.int (Int32.ofNat o)), .val (.ref b154), .unset, .unset, .unset, .unset, .unset] [(.long (-1 : Int64)), (.long c_), (.int (2 : Int32)), (.ref b154)]) _
  refine own_s_lxor X157.here hx (hb hby at_50) ?_
  obtain ⟨T158, h158, X158, e158, W158, fa158, st158⟩ := own_stJ X157 hx hZ e157 fa157 (k := 2) (by decide) (by decide) (g := (mkF m 51 #[.val (.long a_), .second, .val (.long b_), .second, .val (.long c_), .second, .val (.int w0), .val (.int f0), .val (.int p0), .val (.int (Int32.ofNat n)), .val (.int (Int32.ofNat o)), .val (.ref b154), .unset, .unset, .unset, .unset, .unset] [(.long (c_ ^^^ (-1 : Int64))), (.int (2 : Int32)), (.ref b154)])) rfl rfl (hb hby at_51)
  have N158 := Fr.snoc X158 N157 ge_b154
  have SZ158 : n0 ≤ h158.size := by rw [W158.size]; exact SZ157
  refine own_by st158 ?_
  show own_Go p e below T158 (mkF m 52 #[.val (.long a_), .second, .val (.long b_), .second, .val (.long c_), .second, .val (.int w0), .val (.int f0), .val (.int p0), .val (.int (Int32.ofNat n)), .val (.int (Int32.ofNat o)), .val (.ref b154), .unset, .unset, .unset, .unset, .unset] []) _
  refine own_s_aload X158.here hx (hb hby at_52) rfl rfl ?_
  refine own_s_iconst X158.here hx (3 : Int32) (hb hby at_54) rfl ?_
  refine own_s_lloadN X158.here hx (hb hby at_55) rfl ?_
  refine own_by (fun tq_ kq_ => X158.ldc2Long hx hown (mvT hZ (hw _ (List.mem_of_getElem? (i := 1) rfl))) (g := (mkF m 56 #[.val (.long a_), .second, .val (.long b_), .second, .val (.long c_), .second, .val (.int w0), .val (.int f0), .val (.int p0), .val (.int (Int32.ofNat n)), .val (.int (Int32.ofNat o)), .val (.ref b154), .unset, .unset, .unset, .unset, .unset] [(.long a_), (.int (3 : Int32)), (.ref b154)])) rfl (hb hby at_56) tq_ kq_) ?_
  show own_Go p e below T158 (mkF m 59 #[.val (.long a_), .second, .val (.long b_), .second, .val (.long c_), .second, .val (.int w0), .val (.int f0), .val (.int p0), .val (.int (Int32.ofNat n)), .val (.int (Int32.ofNat o)), .val (.ref b154), .unset, .unset, .unset, .unset, .unset] [(.long (-1 : Int64)), (.long a_), (.int (3 : Int32)), (.ref b154)]) _
  refine own_s_lxor X158.here hx (hb hby at_59) ?_
  obtain ⟨T159, h159, X159, e159, W159, fa159, st159⟩ := own_stJ X158 hx hZ e158 fa158 (k := 3) (by decide) (by decide) (g := (mkF m 60 #[.val (.long a_), .second, .val (.long b_), .second, .val (.long c_), .second, .val (.int w0), .val (.int f0), .val (.int p0), .val (.int (Int32.ofNat n)), .val (.int (Int32.ofNat o)), .val (.ref b154), .unset, .unset, .unset, .unset, .unset] [(.long (a_ ^^^ (-1 : Int64))), (.int (3 : Int32)), (.ref b154)])) rfl rfl (hb hby at_60)
  have N159 := Fr.snoc X159 N158 ge_b154
  have SZ159 : n0 ≤ h159.size := by rw [W159.size]; exact SZ158
  refine own_by st159 ?_
  show own_Go p e below T159 (mkF m 61 #[.val (.long a_), .second, .val (.long b_), .second, .val (.long c_), .second, .val (.int w0), .val (.int f0), .val (.int p0), .val (.int (Int32.ofNat n)), .val (.int (Int32.ofNat o)), .val (.ref b154), .unset, .unset, .unset, .unset, .unset] []) _
  refine own_s_aload X159.here hx (hb hby at_61) rfl rfl ?_
  refine own_s_iconst X159.here hx (4 : Int32) (hb hby at_63) rfl ?_
  refine own_s_lloadN X159.here hx (hb hby at_64) rfl ?_
  refine own_by (fun tq_ kq_ => X159.ldc2Long hx hown (mvT hZ (hw _ (List.mem_of_getElem? (i := 1) rfl))) (g := (mkF m 65 #[.val (.long a_), .second, .val (.long b_), .second, .val (.long c_), .second, .val (.int w0), .val (.int f0), .val (.int p0), .val (.int (Int32.ofNat n)), .val (.int (Int32.ofNat o)), .val (.ref b154), .unset, .unset, .unset, .unset, .unset] [(.long b_), (.int (4 : Int32)), (.ref b154)])) rfl (hb hby at_65) tq_ kq_) ?_
  show own_Go p e below T159 (mkF m 68 #[.val (.long a_), .second, .val (.long b_), .second, .val (.long c_), .second, .val (.int w0), .val (.int f0), .val (.int p0), .val (.int (Int32.ofNat n)), .val (.int (Int32.ofNat o)), .val (.ref b154), .unset, .unset, .unset, .unset, .unset] [(.long (-1 : Int64)), (.long b_), (.int (4 : Int32)), (.ref b154)]) _
  refine own_s_lxor X159.here hx (hb hby at_68) ?_
  obtain ⟨T160, h160, X160, e160, W160, fa160, st160⟩ := own_stJ X159 hx hZ e159 fa159 (k := 4) (by decide) (by decide) (g := (mkF m 69 #[.val (.long a_), .second, .val (.long b_), .second, .val (.long c_), .second, .val (.int w0), .val (.int f0), .val (.int p0), .val (.int (Int32.ofNat n)), .val (.int (Int32.ofNat o)), .val (.ref b154), .unset, .unset, .unset, .unset, .unset] [(.long (b_ ^^^ (-1 : Int64))), (.int (4 : Int32)), (.ref b154)])) rfl rfl (hb hby at_69)
  have N160 := Fr.snoc X160 N159 ge_b154
  have SZ160 : n0 ≤ h160.size := by rw [W160.size]; exact SZ159
  refine own_by st160 ?_
  show own_Go p e below T160 (mkF m 70 #[.val (.long a_), .second, .val (.long b_), .second, .val (.long c_), .second, .val (.int w0), .val (.int f0), .val (.int p0), .val (.int (Int32.ofNat n)), .val (.int (Int32.ofNat o)), .val (.ref b154), .unset, .unset, .unset, .unset, .unset] []) _
  refine own_s_aload X160.here hx (hb hby at_70) rfl rfl ?_
  refine own_s_iconst X160.here hx (5 : Int32) (hb hby at_72) rfl ?_
  refine own_s_lload X160.here hx (hb hby at_73) rfl ?_
  refine own_by (fun tq_ kq_ => X160.ldc2Long hx hown (mvT hZ (hw _ (List.mem_of_getElem? (i := 1) rfl))) (g := (mkF m 75 #[.val (.long a_), .second, .val (.long b_), .second, .val (.long c_), .second, .val (.int w0), .val (.int f0), .val (.int p0), .val (.int (Int32.ofNat n)), .val (.int (Int32.ofNat o)), .val (.ref b154), .unset, .unset, .unset, .unset, .unset] [(.long c_), (.int (5 : Int32)), (.ref b154)])) rfl (hb hby at_75) tq_ kq_) ?_
  show own_Go p e below T160 (mkF m 78 #[.val (.long a_), .second, .val (.long b_), .second, .val (.long c_), .second, .val (.int w0), .val (.int f0), .val (.int p0), .val (.int (Int32.ofNat n)), .val (.int (Int32.ofNat o)), .val (.ref b154), .unset, .unset, .unset, .unset, .unset] [(.long (-1 : Int64)), (.long c_), (.int (5 : Int32)), (.ref b154)]) _
  refine own_s_lxor X160.here hx (hb hby at_78) ?_
  obtain ⟨T161, h161, X161, e161, W161, fa161, st161⟩ := own_stJ X160 hx hZ e160 fa160 (k := 5) (by decide) (by decide) (g := (mkF m 79 #[.val (.long a_), .second, .val (.long b_), .second, .val (.long c_), .second, .val (.int w0), .val (.int f0), .val (.int p0), .val (.int (Int32.ofNat n)), .val (.int (Int32.ofNat o)), .val (.ref b154), .unset, .unset, .unset, .unset, .unset] [(.long (c_ ^^^ (-1 : Int64))), (.int (5 : Int32)), (.ref b154)])) rfl rfl (hb hby at_79)
  have N161 := Fr.snoc X161 N160 ge_b154
  have SZ161 : n0 ≤ h161.size := by rw [W161.size]; exact SZ160
  refine own_by st161 ?_
  show own_Go p e below T161 (mkF m 80 #[.val (.long a_), .second, .val (.long b_), .second, .val (.long c_), .second, .val (.int w0), .val (.int f0), .val (.int p0), .val (.int (Int32.ofNat n)), .val (.int (Int32.ofNat o)), .val (.ref b154), .unset, .unset, .unset, .unset, .unset] []) _
  refine own_s_aload X161.here hx (hb hby at_80) rfl rfl ?_
  refine own_s_bipush X161.here hx (6 : Int32) (hb hby at_82) rfl ?_
  refine own_s_lloadN X161.here hx (hb hby at_84) rfl ?_
  refine own_by (fun tq_ kq_ => X161.ldc2Long hx hown (mvT hZ (hw _ (List.mem_of_getElem? (i := 1) rfl))) (g := (mkF m 85 #[.val (.long a_), .second, .val (.long b_), .second, .val (.long c_), .second, .val (.int w0), .val (.int f0), .val (.int p0), .val (.int (Int32.ofNat n)), .val (.int (Int32.ofNat o)), .val (.ref b154), .unset, .unset, .unset, .unset, .unset] [(.long a_), (.int (6 : Int32)), (.ref b154)])) rfl (hb hby at_85) tq_ kq_) ?_
  show own_Go p e below T161 (mkF m 88 #[.val (.long a_), .second, .val (.long b_), .second, .val (.long c_), .second, .val (.int w0), .val (.int f0), .val (.int p0), .val (.int (Int32.ofNat n)), .val (.int (Int32.ofNat o)), .val (.ref b154), .unset, .unset, .unset, .unset, .unset] [(.long (-1 : Int64)), (.long a_), (.int (6 : Int32)), (.ref b154)]) _
  refine own_s_lxor X161.here hx (hb hby at_88) ?_
  obtain ⟨T162, h162, X162, e162, W162, fa162, st162⟩ := own_stJ X161 hx hZ e161 fa161 (k := 6) (by decide) (by decide) (g := (mkF m 89 #[.val (.long a_), .second, .val (.long b_), .second, .val (.long c_), .second, .val (.int w0), .val (.int f0), .val (.int p0), .val (.int (Int32.ofNat n)), .val (.int (Int32.ofNat o)), .val (.ref b154), .unset, .unset, .unset, .unset, .unset] [(.long (a_ ^^^ (-1 : Int64))), (.int (6 : Int32)), (.ref b154)])) rfl rfl (hb hby at_89)
  have N162 := Fr.snoc X162 N161 ge_b154
  have SZ162 : n0 ≤ h162.size := by rw [W162.size]; exact SZ161
  refine own_by st162 ?_
  show own_Go p e below T162 (mkF m 90 #[.val (.long a_), .second, .val (.long b_), .second, .val (.long c_), .second, .val (.int w0), .val (.int f0), .val (.int p0), .val (.int (Int32.ofNat n)), .val (.int (Int32.ofNat o)), .val (.ref b154), .unset, .unset, .unset, .unset, .unset] []) _
  refine own_s_aload X162.here hx (hb hby at_90) rfl rfl ?_
  refine own_s_iload X162.here hx (hb hby at_92) rfl ?_
  refine own_s_lloadN X162.here hx (hb hby at_94) rfl ?_
  obtain ⟨T163, h163, X163, e163, W163, fa163, st163⟩ := own_stJ X162 hx hZ e162 fa162 (k := o) (own_ix (by omega)) (by omega) (g := (mkF m 95 #[.val (.long a_), .second, .val (.long b_), .second, .val (.long c_), .second, .val (.int w0), .val (.int f0), .val (.int p0), .val (.int (Int32.ofNat n)), .val (.int (Int32.ofNat o)), .val (.ref b154), .unset, .unset, .unset, .unset, .unset] [(.long a_), (.int (Int32.ofNat o)), (.ref b154)])) rfl rfl (hb hby at_95)
  have N163 := Fr.snoc X163 N162 ge_b154
  have SZ163 : n0 ≤ h163.size := by rw [W163.size]; exact SZ162
  refine own_by st163 ?_
  show own_Go p e below T163 (mkF m 96 #[.val (.long a_), .second, .val (.long b_), .second, .val (.long c_), .second, .val (.int w0), .val (.int f0), .val (.int p0), .val (.int (Int32.ofNat n)), .val (.int (Int32.ofNat o)), .val (.ref b154), .unset, .unset, .unset, .unset, .unset] []) _
  refine own_s_aload X163.here hx (hb hby at_96) rfl rfl ?_
  refine own_s_iload X163.here hx (hb hby at_98) rfl ?_
  refine own_s_iconst X163.here hx (1 : Int32) (hb hby at_100) rfl ?_
  refine own_s_iadd X163.here hx (hb hby at_101) ?_
  refine own_s_lloadN X163.here hx (hb hby at_102) rfl ?_
  obtain ⟨T164, h164, X164, e164, W164, fa164, st164⟩ := own_stJ X163 hx hZ e163 fa163 (k := (o + 1)) (own_ix2 (w := 1) (by omega)) (by omega) (g := (mkF m 103 #[.val (.long a_), .second, .val (.long b_), .second, .val (.long c_), .second, .val (.int w0), .val (.int f0), .val (.int p0), .val (.int (Int32.ofNat n)), .val (.int (Int32.ofNat o)), .val (.ref b154), .unset, .unset, .unset, .unset, .unset] [(.long b_), (.int ((Int32.ofNat o) + (1 : Int32))), (.ref b154)])) rfl rfl (hb hby at_103)
  have N164 := Fr.snoc X164 N163 ge_b154
  have SZ164 : n0 ≤ h164.size := by rw [W164.size]; exact SZ163
  refine own_by st164 ?_
  show own_Go p e below T164 (mkF m 104 #[.val (.long a_), .second, .val (.long b_), .second, .val (.long c_), .second, .val (.int w0), .val (.int f0), .val (.int p0), .val (.int (Int32.ofNat n)), .val (.int (Int32.ofNat o)), .val (.ref b154), .unset, .unset, .unset, .unset, .unset] []) _
  refine own_s_aload X164.here hx (hb hby at_104) rfl rfl ?_
  refine own_s_iload X164.here hx (hb hby at_106) rfl ?_
  refine own_s_iconst X164.here hx (2 : Int32) (hb hby at_108) rfl ?_
  refine own_s_iadd X164.here hx (hb hby at_109) ?_
  refine own_s_lload X164.here hx (hb hby at_110) rfl ?_
  obtain ⟨T165, h165, X165, e165, W165, fa165, st165⟩ := own_stJ X164 hx hZ e164 fa164 (k := (o + 2)) (own_ix2 (w := 2) (by omega)) (by omega) (g := (mkF m 112 #[.val (.long a_), .second, .val (.long b_), .second, .val (.long c_), .second, .val (.int w0), .val (.int f0), .val (.int p0), .val (.int (Int32.ofNat n)), .val (.int (Int32.ofNat o)), .val (.ref b154), .unset, .unset, .unset, .unset, .unset] [(.long c_), (.int ((Int32.ofNat o) + (2 : Int32))), (.ref b154)])) rfl rfl (hb hby at_112)
  have N165 := Fr.snoc X165 N164 ge_b154
  have SZ165 : n0 ≤ h165.size := by rw [W165.size]; exact SZ164
  refine own_by st165 ?_
  show own_Go p e below T165 (mkF m 113 #[.val (.long a_), .second, .val (.long b_), .second, .val (.long c_), .second, .val (.int w0), .val (.int f0), .val (.int p0), .val (.int (Int32.ofNat n)), .val (.int (Int32.ofNat o)), .val (.ref b154), .unset, .unset, .unset, .unset, .unset] []) _
  refine own_s_sipush X165.here hx (193 : Int32) (hb hby at_113) rfl ?_
  obtain ⟨T166, h166, k166, X166, e166, E166, A166, st166⟩ := newP X165 hx hZ (hw _ (List.mem_of_getElem? (i := 2) rfl)) e165 (g := (mkF m 116 #[.val (.long a_), .second, .val (.long b_), .second, .val (.long c_), .second, .val (.int w0), .val (.int f0), .val (.int p0), .val (.int (Int32.ofNat n)), .val (.int (Int32.ofNat o)), .val (.ref b154), .unset, .unset, .unset, .unset, .unset] [(.int (193 : Int32))])) rfl (hb hby at_116) rfl (by decide) (cap := 193) (by decide) (by decide) (by decide) (by decide)
  obtain ⟨b166, g166⟩ : ∃ z, z = h165.size := ⟨_, rfl⟩
  rw [← g166] at A166 st166
  have ge_b166 : n0 ≤ b166 := Nat.le_trans SZ165 (Nat.le_of_eq g166.symm)
  have ne_b154_b166 : b154 ≠ b166 := Nat.ne_of_lt (Nat.lt_of_lt_of_le fa165.lt (Nat.le_of_eq g166.symm))
  have f167 := fa165.ext E166
  have SZ166 : n0 ≤ h166.size := Nat.le_trans SZ165 E166.1
  have f168 : own_Av Z h166 b166 .int 193 (fun _ => (.int (0 : Int32))) := own_Av.ofnew A166 (by decide) rfl
  refine own_by st166 ?_
  show own_Go p e below T166 (mkF m 118 #[.val (.long a_), .second, .val (.long b_), .second, .val (.long c_), .second, .val (.int w0), .val (.int f0), .val (.int p0), .val (.int (Int32.ofNat n)), .val (.int (Int32.ofNat o)), .val (.ref b154), .unset, .unset, .unset, .unset, .unset] [(.ref b166)]) _
  refine own_s_astore X166.here hx #[.val (.long a_), .second, .val (.long b_), .second, .val (.long c_), .second, .val (.int w0), .val (.int f0), .val (.int p0), .val (.int (Int32.ofNat n)), .val (.int (Int32.ofNat o)), .val (.ref b154), .val (.ref b166), .unset, .unset, .unset, .unset] (hb hby at_118) rfl rfl ?_
  refine own_s_aload X166.here hx (hb hby at_120) rfl rfl ?_
  refine own_s_iload X166.here hx (hb hby at_122) rfl ?_
  refine own_s_bipush X166.here hx (-5 : Int32) (hb hby at_124) rfl ?_
  obtain ⟨T169, h169, X169, e169, W169, fa169, st169⟩ := own_stI X166 hx hZ e166 f168 (k := n) (own_ix (by omega)) (by omega) (g := (mkF m 126 #[.val (.long a_), .second, .val (.long b_), .second, .val (.long c_), .second, .val (.int w0), .val (.int f0), .val (.int p0), .val (.int (Int32.ofNat n)), .val (.int (Int32.ofNat o)), .val (.ref b154), .val (.ref b166), .unset, .unset, .unset, .unset] [(.int (-5 : Int32)), (.int (Int32.ofNat n)), (.ref b166)])) rfl rfl (hb hby at_126)
  have f170 := f167.other W169 ne_b154_b166
  have N169 := Fr.snoc X169 N165 ge_b166
  have SZ169 : n0 ≤ h169.size := by rw [W169.size]; exact SZ166
  refine own_by st169 ?_
  show own_Go p e below T169 (mkF m 127 #[.val (.long a_), .second, .val (.long b_), .second, .val (.long c_), .second, .val (.int w0), .val (.int f0), .val (.int p0), .val (.int (Int32.ofNat n)), .val (.int (Int32.ofNat o)), .val (.ref b154), .val (.ref b166), .unset, .unset, .unset, .unset] []) _
  obtain ⟨T171, h171, X171, e171, E171, A171, D171, -, st171⟩ := newO X169 hx hZ hown (hw _ (List.mem_of_getElem? (i := 3) rfl)) (hw _ (List.mem_of_getElem? (i := 4) rfl)) (hw _ (List.mem_of_getElem? (i := 5) rfl)) e169 (g := (mkF m 127 #[.val (.long a_), .second, .val (.long b_), .second, .val (.long c_), .second, .val (.int w0), .val (.int f0), .val (.int p0), .val (.int (Int32.ofNat n)), .val (.int (Int32.ofNat o)), .val (.ref b154), .val (.ref b166), .unset, .unset, .unset, .unset] [])) rfl (hb hby at_127) (by decide) (by decide)
  obtain ⟨b171, g171⟩ : ∃ z, z = h169.size := ⟨_, rfl⟩
  rw [← g171] at A171 D171 st171
  have ge_b171 : n0 ≤ b171 := Nat.le_trans SZ169 (Nat.le_of_eq g171.symm)
  have ne_b154_b171 : b154 ≠ b171 := Nat.ne_of_lt (Nat.lt_of_lt_of_le f170.lt (Nat.le_of_eq g171.symm))
  have ne_b166_b171 : b166 ≠ b171 := Nat.ne_of_lt (Nat.lt_of_lt_of_le fa169.lt (Nat.le_of_eq g171.symm))
  have f172 := f170.ext E171
  have f173 := fa169.ext E171
  have SZ171 : n0 ≤ h171.size := Nat.le_trans SZ169 E171.1
  have f174 : Fld Z h171 b171 "com/example/lapse/lapse/MarkingCode" "most" "[I" .null := D171 (Or.inr (hw _ (List.mem_of_getElem? (i := 23) rfl))) (ty := (.array .int)) (by decide)
  have f175 : Fld Z h171 b171 "com/example/lapse/lapse/MarkingCode" "words" "[I" .null := D171 (Or.inr (hw _ (List.mem_of_getElem? (i := 25) rfl))) (ty := (.array .int)) (by decide)
  have f176 : Fld Z h171 b171 "com/example/lapse/lapse/MarkingCode" "shifts" "[I" .null := D171 (Or.inr (hw _ (List.mem_of_getElem? (i := 27) rfl))) (ty := (.array .int)) (by decide)
  have f177 : Fld Z h171 b171 "com/example/lapse/lapse/MarkingCode" "length" "I" (.int (0 : Int32)) := D171 (Or.inr (hw _ (List.mem_of_getElem? (i := 29) rfl))) (ty := .int) (by decide)
  refine own_by st171 ?_
  show own_Go p e below T171 (mkF m 130 #[.val (.long a_), .second, .val (.long b_), .second, .val (.long c_), .second, .val (.int w0), .val (.int f0), .val (.int p0), .val (.int (Int32.ofNat n)), .val (.int (Int32.ofNat o)), .val (.ref b154), .val (.ref b166), .unset, .unset, .unset, .unset] [(.ref b171)]) _
  refine own_s_dup X171.here hx (hb hby at_130) rfl ?_
  refine own_s_iload X171.here hx (hb hby at_131) rfl ?_
  obtain ⟨_, _, ⟨T178, L178, k178, n178⟩, -, X178, ⟨Lc178, hQ178, l178, y178, z178⟩, st178⟩ := X171.specialBack hx (y := (⟨"com/example/lapse/lapse/MarkingCode", "<init>", "(I)V"⟩ : MethodName)) rfl hown (mvT hZ (hw _ (List.mem_of_getElem? (i := 6) rfl))) (mvT hZ (hw _ (List.mem_of_getElem? (i := 7) rfl))) (mvT hZ (hw _ (List.mem_of_getElem? (i := 8) rfl))) (by decide) (backOf (W := 1) (own_r1 l Z a0 hw [] b171 (Int32.ofNat n) n h171 n0 SZ171 ((own_ix (by omega)).2) ((own_ix (by omega)).1) hn A171 f174 f175 f176 f177 ge_b171) hZ (hw _ (List.mem_of_getElem? (i := 8) rfl)) (hw _ (List.mem_of_getElem? (i := 5) rfl)) (by decide) (by decide)) (g := (mkF m 133 #[.val (.long a_), .second, .val (.long b_), .second, .val (.long c_), .second, .val (.int w0), .val (.int f0), .val (.int p0), .val (.int (Int32.ofNat n)), .val (.int (Int32.ofNat o)), .val (.ref b154), .val (.ref b166), .unset, .unset, .unset, .unset] [(.int (Int32.ofNat n)), (.ref b171), (.ref b171)])) rfl (by rw [hml]; rfl) (Steps.refl _) (a := b171) (argsL := [(.int (Int32.ofNat n))]) (rest := [(.ref b171)]) (lenOf own_pd_0 rfl) rfl (by show 2 * 0 + _ ≤ _; exact Nat.le_of_eq rfl) (hb hby at_133) (fun _ _ => ⟨rfl, e171, (by decide : 3 + 4 ≤ _), (by decide : 204 + 768 ≤ _)⟩)
  dsimp only [Pt.U, Pt.locs, Pt.cells, Pt.slots] at X178 l178 y178 z178 st178 hQ178
  subst l178 y178 z178
  obtain ⟨rfl, N178q, K178, am178, aw178, as178, gm178, gw178, gs178, zm178, zw178, zs178, nmw178, nms178, nws178, fm178, Am178, fw178, Aw178, fs178, As178, fl178⟩ := hQ178
  have N178 := Fr.app N169 N178q
  have f179 := f172.keep K178 (ninS ne_b154_b171 nin0)
  have f180 := f173.keep K178 (ninS ne_b166_b171 nin0)
  have f181 := A171.keep K178
  have SZ178 : n0 ≤ T178.heap.size := Nat.le_trans SZ171 K178.1
  refine own_by (fun t k => st178.trans k) ?_
  have ne_b154_am178 : b154 ≠ am178 := Nat.ne_of_lt (Nat.lt_of_lt_of_le f172.lt zm178)
  have ne_b166_am178 : b166 ≠ am178 := Nat.ne_of_lt (Nat.lt_of_lt_of_le f173.lt zm178)
  have ne_b171_am178 : b171 ≠ am178 := Nat.ne_of_lt (Nat.lt_of_lt_of_le A171.lt zm178)
  have ne_b154_aw178 : b154 ≠ aw178 := Nat.ne_of_lt (Nat.lt_of_lt_of_le f172.lt zw178)
  have ne_b166_aw178 : b166 ≠ aw178 := Nat.ne_of_lt (Nat.lt_of_lt_of_le f173.lt zw178)
  have ne_b171_aw178 : b171 ≠ aw178 := Nat.ne_of_lt (Nat.lt_of_lt_of_le A171.lt zw178)
  have ne_b154_as178 : b154 ≠ as178 := Nat.ne_of_lt (Nat.lt_of_lt_of_le f172.lt zs178)
  have ne_b166_as178 : b166 ≠ as178 := Nat.ne_of_lt (Nat.lt_of_lt_of_le f173.lt zs178)
  have ne_b171_as178 : b171 ≠ as178 := Nat.ne_of_lt (Nat.lt_of_lt_of_le A171.lt zs178)
  show own_Go p e below T178 (mkF m 136 #[.val (.long a_), .second, .val (.long b_), .second, .val (.long c_), .second, .val (.int w0), .val (.int f0), .val (.int p0), .val (.int (Int32.ofNat n)), .val (.int (Int32.ofNat o)), .val (.ref b154), .val (.ref b166), .unset, .unset, .unset, .unset] [(.ref b171)]) _
  refine own_s_astore X178.here hx #[.val (.long a_), .second, .val (.long b_), .second, .val (.long c_), .second, .val (.int w0), .val (.int f0), .val (.int p0), .val (.int (Int32.ofNat n)), .val (.int (Int32.ofNat o)), .val (.ref b154), .val (.ref b166), .val (.ref b171), .unset, .unset, .unset] (hb hby at_136) rfl rfl ?_
  have f182 : own_Av Z T178.heap am178 .int n (fun _ => .int (1 : Int32)) := Am178.cong rfl (fun j _ => congrArg Value.int own_mo1)
  have f183 : own_Av Z T178.heap aw178 .int n (fun j => .int (Int32.ofNat (j / 64))) := Aw178.cong rfl (fun j hj => congrArg Value.int (own_cfW j (by omega)))
  have f184 : own_Av Z T178.heap as178 .int n (fun j => .int (Int32.ofNat (j % 64))) := As178.cong rfl (fun j hj => congrArg Value.int (own_cfS j (by omega)))
  have f185 := fl178
  rw [own_cfL n (by omega)] at f185
  have hpw : ∀ w, w < 3 → (own_upd (own_upd (own_upd (own_upd (own_upd (own_upd (own_upd (own_upd (own_upd (own_upd (fun _ => (.long (0 : Int64))) 0 (.long (a_ ^^^ (-1 : Int64)))) 1 (.long (b_ ^^^ (-1 : Int64)))) 2 (.long (c_ ^^^ (-1 : Int64)))) 3 (.long (a_ ^^^ (-1 : Int64)))) 4 (.long (b_ ^^^ (-1 : Int64)))) 5 (.long (c_ ^^^ (-1 : Int64)))) 6 (.long (a_ ^^^ (-1 : Int64)))) o (.long a_)) (o + 1) (.long b_)) (o + 2) (.long c_)) (o + w) = .long (own_pw a_ b_ c_ w) := by
    intro w hw'
    match w, hw' with
    | 0, _ => rw [own_upd_miss (by omega), own_upd_miss (by omega), own_upd_hit (by omega)]; rfl
    | 1, _ => rw [own_upd_miss (by omega), own_upd_hit (by omega)]; rfl
    | 2, _ => rw [own_upd_hit (by omega)]; rfl
  refine own_s_iload X178.here hx (hb hby at_138) rfl ?_
  by_cases hc140 : (Int32.ofNat n) = 0
  ·
    refine own_s_ifNo X178.here hx (hb hby at_140) (Jvm.Free.XT.i0_ne_f hc140) ?_
    have hn0 : n = 0 := (own_ofeq (n := 0) (by omega) (by omega)).mp hc140
    refine own_s_aload X178.here hx (hb hby at_143) rfl rfl ?_
    refine own_s_aload X178.here hx (hb hby at_145) rfl rfl ?_
    refine own_s_iload X178.here hx (hb hby at_147) rfl ?_
    refine own_s_aload X178.here hx (hb hby at_149) rfl rfl ?_
    obtain ⟨cq186, kq186, q186a, q186b, q186c⟩ := isOf hZ rfl f181
    obtain ⟨_, _, ⟨T186, L186, k186, n186⟩, -, X186, ⟨Lc186, hQ186, l186, y186, z186⟩, st186⟩ := X178.virtualBack hx (y := (⟨"com/example/lapse/lapse/MarkingCode", "unpack", "([JI[I)V"⟩ : MethodName)) (z := (⟨"com/example/lapse/lapse/MarkingCode", "unpack", "([JI[I)V"⟩ : MethodName)) hown (mvT hZ (hw _ (List.mem_of_getElem? (i := 31) rfl))) (mvT hZ (hw _ (List.mem_of_getElem? (i := 32) rfl))) (notFace_of_selects (args := #[]) (mvT hZ (hw _ (List.mem_of_getElem? (i := 34) rfl)))) (mvT hZ (hw _ (List.mem_of_getElem? (i := 34) rfl))) (mvT hZ (hw _ (List.mem_of_getElem? (i := 33) rfl))) (by decide) (backOf (W := 0) (own_r6 l Z a0 hw [] b171 b154 (Int32.ofNat o) b166 am178 aw178 as178 n o (own_upd (own_upd (own_upd (own_upd (own_upd (own_upd (own_upd (own_upd (own_upd (own_upd (fun _ => (.long (0 : Int64))) 0 (.long (a_ ^^^ (-1 : Int64)))) 1 (.long (b_ ^^^ (-1 : Int64)))) 2 (.long (c_ ^^^ (-1 : Int64)))) 3 (.long (a_ ^^^ (-1 : Int64)))) 4 (.long (b_ ^^^ (-1 : Int64)))) 5 (.long (c_ ^^^ (-1 : Int64)))) 6 (.long (a_ ^^^ (-1 : Int64)))) o (.long a_)) (o + 1) (.long b_)) (o + 2) (.long c_)) (own_upd (fun _ => (.int (0 : Int32))) n (.int (-5 : Int32))) (own_B a_ b_ c_) (own_pw a_ b_ c_) T178.heap n0 SZ178 rfl hn ho hpw (fun j _ => rfl) fm178 fw178 fs178 f185 f182 f183 f184 f179 f180 ge_b166 (Ne.symm ne_b166_b171) (Ne.symm ne_b166_am178) (Ne.symm ne_b166_aw178) (Ne.symm ne_b166_as178) ne_b154_b166) hZ (hw _ (List.mem_of_getElem? (i := 35) rfl)) (hw _ (List.mem_of_getElem? (i := 5) rfl)) (by decide) (by decide)) q186a q186c (g := (mkF m 151 #[.val (.long a_), .second, .val (.long b_), .second, .val (.long c_), .second, .val (.int w0), .val (.int f0), .val (.int p0), .val (.int (Int32.ofNat n)), .val (.int (Int32.ofNat o)), .val (.ref b154), .val (.ref b166), .val (.ref b171), .unset, .unset, .unset] [(.ref b166), (.int (Int32.ofNat o)), (.ref b154), (.ref b171)])) rfl (by rw [hml]; rfl) (Steps.refl _) (argsL := [(.ref b154), (.int (Int32.ofNat o)), (.ref b166)]) (rest := []) (lenOf own_pd_5 rfl) rfl (by show 2 * 0 + _ ≤ _; exact Nat.le_of_eq rfl) (hb hby at_151) (fun _ _ => ⟨rfl, rfl, (by decide : 7 + 0 ≤ _), (by decide : 972 + 0 ≤ _)⟩)
    dsimp only [Pt.U, Pt.locs, Pt.cells, Pt.slots] at X186 l186 y186 z186 st186 hQ186
    subst l186 y186 z186
    obtain ⟨rfl, N186q, K186, fa186⟩ := hQ186
    have N186 := Fr.app N178 N186q
    have f187 := f179.keep K186 (ninS ne_b154_b166 nin0)
    have f188 := f181.keep K186
    have f189 := fm178.keep K186 (ninS (Ne.symm ne_b166_b171) nin0)
    have f190 := fw178.keep K186 (ninS (Ne.symm ne_b166_b171) nin0)
    have f191 := fs178.keep K186 (ninS (Ne.symm ne_b166_b171) nin0)
    have f192 := f185.keep K186 (ninS (Ne.symm ne_b166_b171) nin0)
    have f193 := f182.keep K186 (ninS (Ne.symm ne_b166_am178) nin0)
    have f194 := f183.keep K186 (ninS (Ne.symm ne_b166_aw178) nin0)
    have f195 := f184.keep K186 (ninS (Ne.symm ne_b166_as178) nin0)
    have SZ186 : n0 ≤ T186.heap.size := Nat.le_trans SZ178 K186.1
    refine own_by (fun t k => st186.trans k) ?_
    show own_Go p e below T186 (mkF m 154 #[.val (.long a_), .second, .val (.long b_), .second, .val (.long c_), .second, .val (.int w0), .val (.int f0), .val (.int p0), .val (.int (Int32.ofNat n)), .val (.int (Int32.ofNat o)), .val (.ref b154), .val (.ref b166), .val (.ref b171), .unset, .unset, .unset] []) _
    refine own_s_aload X186.here hx (hb hby at_154) rfl rfl ?_
    refine own_s_iconst X186.here hx (0 : Int32) (hb hby at_156) rfl ?_
    refine own_by (fun tq_ kq_ => own_ldI X186 hx hZ rfl fa186 (k := 0) (v := (.int (-5 : Int32))) (by decide) (by decide) ((own_fl_out (by omega)).trans (own_upd_hit (by omega))) (g := (mkF m 157 #[.val (.long a_), .second, .val (.long b_), .second, .val (.long c_), .second, .val (.int w0), .val (.int f0), .val (.int p0), .val (.int (Int32.ofNat n)), .val (.int (Int32.ofNat o)), .val (.ref b154), .val (.ref b166), .val (.ref b171), .unset, .unset, .unset] [(.int (0 : Int32)), (.ref b166)])) rfl rfl (hb hby at_157) tq_ kq_) ?_
    show own_Go p e below T186 (mkF m 158 #[.val (.long a_), .second, .val (.long b_), .second, .val (.long c_), .second, .val (.int w0), .val (.int f0), .val (.int p0), .val (.int (Int32.ofNat n)), .val (.int (Int32.ofNat o)), .val (.ref b154), .val (.ref b166), .val (.ref b171), .unset, .unset, .unset] [(.int (-5 : Int32))]) _
    refine own_s_bipush X186.here hx (-5 : Int32) (hb hby at_158) rfl ?_
    refine own_s_icmpNo X186.here hx (hb hby at_160) (Jvm.Free.XT.ii_ne_f ((by decide))) ?_
    refine own_s_iconst X186.here hx (1 : Int32) (hb hby at_163) rfl ?_
    show own_Go p e below T186 (mkF m 164 #[.val (.long a_), .second, .val (.long b_), .second, .val (.long c_), .second, .val (.int w0), .val (.int f0), .val (.int p0), .val (.int (Int32.ofNat n)), .val (.int (Int32.ofNat o)), .val (.ref b154), .val (.ref b166), .val (.ref b171), .unset, .unset, .unset] [(.int (1 : Int32))]) _
    refine own_s_goto X186.here hx 168 (hb hby at_164) (by decide) (by decide) ?_
    refine own_retZ X186 hx hret hlk (hb hby at_168) rfl (by decide) (by decide) ?_
    exact ⟨rfl, N186⟩
  ·
    show own_Go p e below T178 (mkF m 140 #[.val (.long a_), .second, .val (.long b_), .second, .val (.long c_), .second, .val (.int w0), .val (.int f0), .val (.int p0), .val (.int (Int32.ofNat n)), .val (.int (Int32.ofNat o)), .val (.ref b154), .val (.ref b166), .val (.ref b171), .unset, .unset, .unset] [(.int (Int32.ofNat n))]) _
    refine own_s_ifYes X178.here hx 169 (hb hby at_140) (Jvm.Free.XT.i0_ne_t hc140) (by decide) (by decide) ?_
    have hn0 : 0 < n := by
      have : ¬ n = 0 := fun q => hc140 ((own_ofeq (n := 0) (by omega) (by omega)).mpr q)
      omega
    refine own_s_iload X178.here hx (hb hby at_169) rfl ?_
    refine own_by (fun tq_ kq_ => X178.ldcInt hx hown (mvT hZ (hw _ (List.mem_of_getElem? (i := 30) rfl))) (g := (mkF m 171 #[.val (.long a_), .second, .val (.long b_), .second, .val (.long c_), .second, .val (.int w0), .val (.int f0), .val (.int p0), .val (.int (Int32.ofNat n)), .val (.int (Int32.ofNat o)), .val (.ref b154), .val (.ref b166), .val (.ref b171), .unset, .unset, .unset] [(.int p0)])) rfl (hb hby at_171) tq_ kq_) ?_
    show own_Go p e below T178 (mkF m 173 #[.val (.long a_), .second, .val (.long b_), .second, .val (.long c_), .second, .val (.int w0), .val (.int f0), .val (.int p0), .val (.int (Int32.ofNat n)), .val (.int (Int32.ofNat o)), .val (.ref b154), .val (.ref b166), .val (.ref b171), .unset, .unset, .unset] [(.int (2147483647 : Int32)), (.int p0)]) _
    refine own_s_iand X178.here hx (hb hby at_173) ?_
    refine own_s_iload X178.here hx (hb hby at_174) rfl ?_
    refine own_by (fun tq_ kq_ => iremM X178 hx rfl (hb hby at_176) rfl (own_nzn hn0 (by omega)) kq_) ?_
    show own_Go p e below T178 (mkF m 177 #[.val (.long a_), .second, .val (.long b_), .second, .val (.long c_), .second, .val (.int w0), .val (.int f0), .val (.int p0), .val (.int (Int32.ofNat n)), .val (.int (Int32.ofNat o)), .val (.ref b154), .val (.ref b166), .val (.ref b171), .unset, .unset, .unset] [(.int ((p0 &&& (2147483647 : Int32)) % (Int32.ofNat n)))]) _
    obtain ⟨q, hq, hqe⟩ := own_qb p0 n hn0 hn
    rw [hqe]
    show own_Go p e below T178 (mkF m 177 #[.val (.long a_), .second, .val (.long b_), .second, .val (.long c_), .second, .val (.int w0), .val (.int f0), .val (.int p0), .val (.int (Int32.ofNat n)), .val (.int (Int32.ofNat o)), .val (.ref b154), .val (.ref b166), .val (.ref b171), .unset, .unset, .unset] [(.int (Int32.ofNat q))]) _
    refine own_s_istore X178.here hx #[.val (.long a_), .second, .val (.long b_), .second, .val (.long c_), .second, .val (.int w0), .val (.int f0), .val (.int p0), .val (.int (Int32.ofNat n)), .val (.int (Int32.ofNat o)), .val (.ref b154), .val (.ref b166), .val (.ref b171), .val (.int (Int32.ofNat q)), .unset, .unset] (hb hby at_177) rfl ?_
    refine own_s_iload X178.here hx (hb hby at_179) rfl ?_
    refine own_s_iconst X178.here hx (1 : Int32) (hb hby at_181) rfl ?_
    refine own_s_isub X178.here hx (hb hby at_182) ?_
    rw [own_last n hn0 hn]
    show own_Go p e below T178 (mkF m 183 #[.val (.long a_), .second, .val (.long b_), .second, .val (.long c_), .second, .val (.int w0), .val (.int f0), .val (.int p0), .val (.int (Int32.ofNat n)), .val (.int (Int32.ofNat o)), .val (.ref b154), .val (.ref b166), .val (.ref b171), .val (.int (Int32.ofNat q)), .unset, .unset] [(.int (Int32.ofNat (n - 1)))]) _
    refine own_s_istore X178.here hx #[.val (.long a_), .second, .val (.long b_), .second, .val (.long c_), .second, .val (.int w0), .val (.int f0), .val (.int p0), .val (.int (Int32.ofNat n)), .val (.int (Int32.ofNat o)), .val (.ref b154), .val (.ref b166), .val (.ref b171), .val (.int (Int32.ofNat q)), .val (.int (Int32.ofNat (n - 1))), .unset] (hb hby at_183) rfl ?_
    refine own_s_aload X178.here hx (hb hby at_185) rfl rfl ?_
    refine own_s_iload X178.here hx (hb hby at_187) rfl ?_
    refine own_s_iconst X178.here hx (-1 : Int32) (hb hby at_189) rfl ?_
    obtain ⟨T196, h196, X196, e196, W196, fa196, st196⟩ := own_stI X178 hx hZ rfl f180 (k := q) (own_ix (by omega)) (by omega) (g := (mkF m 190 #[.val (.long a_), .second, .val (.long b_), .second, .val (.long c_), .second, .val (.int w0), .val (.int f0), .val (.int p0), .val (.int (Int32.ofNat n)), .val (.int (Int32.ofNat o)), .val (.ref b154), .val (.ref b166), .val (.ref b171), .val (.int (Int32.ofNat q)), .val (.int (Int32.ofNat (n - 1))), .unset] [(.int (-1 : Int32)), (.int (Int32.ofNat q)), (.ref b166)])) rfl rfl (hb hby at_190)
    have f197 := f179.other W196 ne_b154_b166
    have f198 := f181.wr W196
    have f199 := fm178.other W196 (Or.inl (Ne.symm ne_b166_b171))
    have f200 := fw178.other W196 (Or.inl (Ne.symm ne_b166_b171))
    have f201 := fs178.other W196 (Or.inl (Ne.symm ne_b166_b171))
    have f202 := f185.other W196 (Or.inl (Ne.symm ne_b166_b171))
    have f203 := f182.other W196 (Ne.symm ne_b166_am178)
    have f204 := f183.other W196 (Ne.symm ne_b166_aw178)
    have f205 := f184.other W196 (Ne.symm ne_b166_as178)
    have N196 := Fr.snoc X196 N178 ge_b166
    have SZ196 : n0 ≤ h196.size := by rw [W196.size]; exact SZ178
    refine own_by st196 ?_
    show own_Go p e below T196 (mkF m 191 #[.val (.long a_), .second, .val (.long b_), .second, .val (.long c_), .second, .val (.int w0), .val (.int f0), .val (.int p0), .val (.int (Int32.ofNat n)), .val (.int (Int32.ofNat o)), .val (.ref b154), .val (.ref b166), .val (.ref b171), .val (.int (Int32.ofNat q)), .val (.int (Int32.ofNat (n - 1))), .unset] []) _
    refine own_s_aload X196.here hx (hb hby at_191) rfl rfl ?_
    refine own_s_iload X196.here hx (hb hby at_193) rfl ?_
    refine own_s_iconst X196.here hx (-1 : Int32) (hb hby at_195) rfl ?_
    obtain ⟨T206, h206, X206, e206, W206, fa206, st206⟩ := own_stI X196 hx hZ e196 fa196 (k := (n - 1)) (own_ix (by omega)) (by omega) (g := (mkF m 196 #[.val (.long a_), .second, .val (.long b_), .second, .val (.long c_), .second, .val (.int w0), .val (.int f0), .val (.int p0), .val (.int (Int32.ofNat n)), .val (.int (Int32.ofNat o)), .val (.ref b154), .val (.ref b166), .val (.ref b171), .val (.int (Int32.ofNat q)), .val (.int (Int32.ofNat (n - 1))), .unset] [(.int (-1 : Int32)), (.int (Int32.ofNat (n - 1))), (.ref b166)])) rfl rfl (hb hby at_196)
    have f207 := f197.other W206 ne_b154_b166
    have f208 := f198.wr W206
    have f209 := f199.other W206 (Or.inl (Ne.symm ne_b166_b171))
    have f210 := f200.other W206 (Or.inl (Ne.symm ne_b166_b171))
    have f211 := f201.other W206 (Or.inl (Ne.symm ne_b166_b171))
    have f212 := f202.other W206 (Or.inl (Ne.symm ne_b166_b171))
    have f213 := f203.other W206 (Ne.symm ne_b166_am178)
    have f214 := f204.other W206 (Ne.symm ne_b166_aw178)
    have f215 := f205.other W206 (Ne.symm ne_b166_as178)
    have N206 := Fr.snoc X206 N196 ge_b166
    have SZ206 : n0 ≤ h206.size := by rw [W206.size]; exact SZ196
    refine own_by st206 ?_
    show own_Go p e below T206 (mkF m 197 #[.val (.long a_), .second, .val (.long b_), .second, .val (.long c_), .second, .val (.int w0), .val (.int f0), .val (.int p0), .val (.int (Int32.ofNat n)), .val (.int (Int32.ofNat o)), .val (.ref b154), .val (.ref b166), .val (.ref b171), .val (.int (Int32.ofNat q)), .val (.int (Int32.ofNat (n - 1))), .unset] []) _
    refine own_s_aload X206.here hx (hb hby at_197) rfl rfl ?_
    refine own_s_aload X206.here hx (hb hby at_199) rfl rfl ?_
    refine own_s_iload X206.here hx (hb hby at_201) rfl ?_
    refine own_s_aload X206.here hx (hb hby at_203) rfl rfl ?_
    obtain ⟨cq216, kq216, q216a, q216b, q216c⟩ := isOf hZ e206 f208
    obtain ⟨_, _, ⟨T216, L216, k216, n216⟩, -, X216, ⟨Lc216, hQ216, l216, y216, z216⟩, st216⟩ := X206.virtualBack hx (y := (⟨"com/example/lapse/lapse/MarkingCode", "unpack", "([JI[I)V"⟩ : MethodName)) (z := (⟨"com/example/lapse/lapse/MarkingCode", "unpack", "([JI[I)V"⟩ : MethodName)) hown (mvT hZ (hw _ (List.mem_of_getElem? (i := 31) rfl))) (mvT hZ (hw _ (List.mem_of_getElem? (i := 32) rfl))) (notFace_of_selects (args := #[]) (mvT hZ (hw _ (List.mem_of_getElem? (i := 34) rfl)))) (mvT hZ (hw _ (List.mem_of_getElem? (i := 34) rfl))) (mvT hZ (hw _ (List.mem_of_getElem? (i := 33) rfl))) (by decide) (backOf (W := 0) (own_r6 l Z a0 hw [] b171 b154 (Int32.ofNat o) b166 am178 aw178 as178 n o (own_upd (own_upd (own_upd (own_upd (own_upd (own_upd (own_upd (own_upd (own_upd (own_upd (fun _ => (.long (0 : Int64))) 0 (.long (a_ ^^^ (-1 : Int64)))) 1 (.long (b_ ^^^ (-1 : Int64)))) 2 (.long (c_ ^^^ (-1 : Int64)))) 3 (.long (a_ ^^^ (-1 : Int64)))) 4 (.long (b_ ^^^ (-1 : Int64)))) 5 (.long (c_ ^^^ (-1 : Int64)))) 6 (.long (a_ ^^^ (-1 : Int64)))) o (.long a_)) (o + 1) (.long b_)) (o + 2) (.long c_)) (own_upd (own_upd (own_upd (fun _ => (.int (0 : Int32))) n (.int (-5 : Int32))) q (.int (-1 : Int32))) (n - 1) (.int (-1 : Int32))) (own_B a_ b_ c_) (own_pw a_ b_ c_) h206 n0 SZ206 rfl hn ho hpw (fun j _ => rfl) f209 f210 f211 f212 f213 f214 f215 f207 fa206 ge_b166 (Ne.symm ne_b166_b171) (Ne.symm ne_b166_am178) (Ne.symm ne_b166_aw178) (Ne.symm ne_b166_as178) ne_b154_b166) hZ (hw _ (List.mem_of_getElem? (i := 35) rfl)) (hw _ (List.mem_of_getElem? (i := 5) rfl)) (by decide) (by decide)) q216a q216c (g := (mkF m 205 #[.val (.long a_), .second, .val (.long b_), .second, .val (.long c_), .second, .val (.int w0), .val (.int f0), .val (.int p0), .val (.int (Int32.ofNat n)), .val (.int (Int32.ofNat o)), .val (.ref b154), .val (.ref b166), .val (.ref b171), .val (.int (Int32.ofNat q)), .val (.int (Int32.ofNat (n - 1))), .unset] [(.ref b166), (.int (Int32.ofNat o)), (.ref b154), (.ref b171)])) rfl (by rw [hml]; rfl) (Steps.refl _) (argsL := [(.ref b154), (.int (Int32.ofNat o)), (.ref b166)]) (rest := []) (lenOf own_pd_5 rfl) rfl (by show 2 * 0 + _ ≤ _; exact Nat.le_of_eq rfl) (hb hby at_205) (fun _ _ => ⟨rfl, e206, (by decide : 7 + 0 ≤ _), (by decide : 972 + 0 ≤ _)⟩)
    dsimp only [Pt.U, Pt.locs, Pt.cells, Pt.slots] at X216 l216 y216 z216 st216 hQ216
    subst l216 y216 z216
    obtain ⟨rfl, N216q, K216, fa216⟩ := hQ216
    have N216 := Fr.app N206 N216q
    have f217 := f207.keep K216 (ninS ne_b154_b166 nin0)
    have f218 := f208.keep K216
    have f219 := f209.keep K216 (ninS (Ne.symm ne_b166_b171) nin0)
    have f220 := f210.keep K216 (ninS (Ne.symm ne_b166_b171) nin0)
    have f221 := f211.keep K216 (ninS (Ne.symm ne_b166_b171) nin0)
    have f222 := f212.keep K216 (ninS (Ne.symm ne_b166_b171) nin0)
    have f223 := f213.keep K216 (ninS (Ne.symm ne_b166_am178) nin0)
    have f224 := f214.keep K216 (ninS (Ne.symm ne_b166_aw178) nin0)
    have f225 := f215.keep K216 (ninS (Ne.symm ne_b166_as178) nin0)
    have SZ216 : n0 ≤ T216.heap.size := Nat.le_trans SZ206 K216.1
    refine own_by (fun t k => st216.trans k) ?_
    show own_Go p e below T216 (mkF m 208 #[.val (.long a_), .second, .val (.long b_), .second, .val (.long c_), .second, .val (.int w0), .val (.int f0), .val (.int p0), .val (.int (Int32.ofNat n)), .val (.int (Int32.ofNat o)), .val (.ref b154), .val (.ref b166), .val (.ref b171), .val (.int (Int32.ofNat q)), .val (.int (Int32.ofNat (n - 1))), .unset] []) _
    refine own_s_aload X216.here hx (hb hby at_208) rfl rfl ?_
    refine own_s_iload X216.here hx (hb hby at_210) rfl ?_
    refine own_by (fun tq_ kq_ => own_ldI X216 hx hZ rfl fa216 (k := n) (v := (.int (-5 : Int32))) (own_ix (by omega)) (by omega) ((own_fl_out (by omega)).trans ((own_upd_miss (by omega)).trans ((own_upd_miss (by omega)).trans (own_upd_hit rfl)))) (g := (mkF m 212 #[.val (.long a_), .second, .val (.long b_), .second, .val (.long c_), .second, .val (.int w0), .val (.int f0), .val (.int p0), .val (.int (Int32.ofNat n)), .val (.int (Int32.ofNat o)), .val (.ref b154), .val (.ref b166), .val (.ref b171), .val (.int (Int32.ofNat q)), .val (.int (Int32.ofNat (n - 1))), .unset] [(.int (Int32.ofNat n)), (.ref b166)])) rfl rfl (hb hby at_212) tq_ kq_) ?_
    show own_Go p e below T216 (mkF m 213 #[.val (.long a_), .second, .val (.long b_), .second, .val (.long c_), .second, .val (.int w0), .val (.int f0), .val (.int p0), .val (.int (Int32.ofNat n)), .val (.int (Int32.ofNat o)), .val (.ref b154), .val (.ref b166), .val (.ref b171), .val (.int (Int32.ofNat q)), .val (.int (Int32.ofNat (n - 1))), .unset] [(.int (-5 : Int32))]) _
    refine own_s_bipush X216.here hx (-5 : Int32) (hb hby at_213) rfl ?_
    refine own_s_icmpNo X216.here hx (hb hby at_215) (Jvm.Free.XT.ii_ne_f ((by decide))) ?_
    refine own_s_aload X216.here hx (hb hby at_218) rfl rfl ?_
    refine own_s_iload X216.here hx (hb hby at_220) rfl ?_
    refine own_by (fun tq_ kq_ => own_ldI X216 hx hZ rfl fa216 (k := q) (v := (.int (own_B a_ b_ c_ q))) (own_ix (by omega)) (by omega) (own_fl_in (by omega)) (g := (mkF m 222 #[.val (.long a_), .second, .val (.long b_), .second, .val (.long c_), .second, .val (.int w0), .val (.int f0), .val (.int p0), .val (.int (Int32.ofNat n)), .val (.int (Int32.ofNat o)), .val (.ref b154), .val (.ref b166), .val (.ref b171), .val (.int (Int32.ofNat q)), .val (.int (Int32.ofNat (n - 1))), .unset] [(.int (Int32.ofNat q)), (.ref b166)])) rfl rfl (hb hby at_222) tq_ kq_) ?_
    show own_Go p e below T216 (mkF m 223 #[.val (.long a_), .second, .val (.long b_), .second, .val (.long c_), .second, .val (.int w0), .val (.int f0), .val (.int p0), .val (.int (Int32.ofNat n)), .val (.int (Int32.ofNat o)), .val (.ref b154), .val (.ref b166), .val (.ref b171), .val (.int (Int32.ofNat q)), .val (.int (Int32.ofNat (n - 1))), .unset] [(.int (own_B a_ b_ c_ q))]) _
    refine own_s_lloadN X216.here hx (hb hby at_223) rfl ?_
    refine own_s_lloadN X216.here hx (hb hby at_224) rfl ?_
    refine own_s_lload X216.here hx (hb hby at_225) rfl ?_
    refine own_s_iload X216.here hx (hb hby at_227) rfl ?_
    obtain ⟨_, _, ⟨T226, L226, k226, n226⟩, -, X226, ⟨Lc226, hQ226, l226, y226, z226⟩, st226⟩ := Jvm.LawKit.callS X216 hx (y := (⟨"com/example/lapse/lapse/MarkingCodeUnpackPinLaw", "bit", "(JJJI)I"⟩ : MethodName)) hown (mvT hZ (hw _ (List.mem_of_getElem? (i := 36) rfl))) (mvT hZ (hw _ (List.mem_of_getElem? (i := 37) rfl))) (mvT hZ (hw _ (List.mem_of_getElem? (i := 38) rfl))) (mvT hZ (hw _ (List.mem_of_getElem? (i := 39) rfl))) (by decide) (backOf (W := 1) (own_r7 l Z a0 hw [] a_ b_ c_ (Int32.ofNat q)  T216.heap n0 SZ216 ) hZ (hw _ (List.mem_of_getElem? (i := 39) rfl)) (hw _ (List.mem_of_getElem? (i := 38) rfl)) (by decide) (by decide)) (g := (mkF m 229 #[.val (.long a_), .second, .val (.long b_), .second, .val (.long c_), .second, .val (.int w0), .val (.int f0), .val (.int p0), .val (.int (Int32.ofNat n)), .val (.int (Int32.ofNat o)), .val (.ref b154), .val (.ref b166), .val (.ref b171), .val (.int (Int32.ofNat q)), .val (.int (Int32.ofNat (n - 1))), .unset] [(.int (Int32.ofNat q)), (.long c_), (.long b_), (.long a_), (.int (own_B a_ b_ c_ q))])) rfl (by rw [hml]; rfl) (argsL := [(.long a_), (.long b_), (.long c_), (.int (Int32.ofNat q))]) (rest := [(.int (own_B a_ b_ c_ q))]) (lenOf own_pd_6 rfl) rfl (by show 2 * 0 + _ ≤ _; exact Nat.le_of_eq rfl) (hb hby at_229) (fun _ _ => ⟨rfl, rfl, (by decide : 7 + 0 ≤ _), (by decide : 972 + 0 ≤ _)⟩)
    dsimp only [Pt.U, Pt.locs, Pt.cells, Pt.slots] at X226 l226 y226 z226 st226 hQ226
    subst l226 y226 z226
    obtain ⟨rfl, N226q, e226⟩ := hQ226
    have N226 := Fr.app N216 N226q
    refine own_by st226 ?_
    show own_Go p e below T226 (mkF m 232 #[.val (.long a_), .second, .val (.long b_), .second, .val (.long c_), .second, .val (.int w0), .val (.int f0), .val (.int p0), .val (.int (Int32.ofNat n)), .val (.int (Int32.ofNat o)), .val (.ref b154), .val (.ref b166), .val (.ref b171), .val (.int (Int32.ofNat q)), .val (.int (Int32.ofNat (n - 1))), .unset] [(.int (own_f7 a_ b_ c_ (Int32.ofNat q))), (.int (own_B a_ b_ c_ q))]) _
    refine own_s_icmpNo X226.here hx (hb hby at_232) (Jvm.Free.XT.ii_ne_f ((own_bq a_ b_ c_ q (by omega)))) ?_
    refine own_s_aload X226.here hx (hb hby at_235) rfl rfl ?_
    refine own_s_iload X226.here hx (hb hby at_237) rfl ?_
    refine own_by (fun tq_ kq_ => own_ldI X226 hx hZ e226 fa216 (k := (n - 1)) (v := (.int (own_B a_ b_ c_ (n - 1)))) (own_ix (by omega)) (by omega) (own_fl_in (by omega)) (g := (mkF m 239 #[.val (.long a_), .second, .val (.long b_), .second, .val (.long c_), .second, .val (.int w0), .val (.int f0), .val (.int p0), .val (.int (Int32.ofNat n)), .val (.int (Int32.ofNat o)), .val (.ref b154), .val (.ref b166), .val (.ref b171), .val (.int (Int32.ofNat q)), .val (.int (Int32.ofNat (n - 1))), .unset] [(.int (Int32.ofNat (n - 1))), (.ref b166)])) rfl rfl (hb hby at_239) tq_ kq_) ?_
    show own_Go p e below T226 (mkF m 240 #[.val (.long a_), .second, .val (.long b_), .second, .val (.long c_), .second, .val (.int w0), .val (.int f0), .val (.int p0), .val (.int (Int32.ofNat n)), .val (.int (Int32.ofNat o)), .val (.ref b154), .val (.ref b166), .val (.ref b171), .val (.int (Int32.ofNat q)), .val (.int (Int32.ofNat (n - 1))), .unset] [(.int (own_B a_ b_ c_ (n - 1)))]) _
    refine own_s_lloadN X226.here hx (hb hby at_240) rfl ?_
    refine own_s_lloadN X226.here hx (hb hby at_241) rfl ?_
    refine own_s_lload X226.here hx (hb hby at_242) rfl ?_
    refine own_s_iload X226.here hx (hb hby at_244) rfl ?_
    obtain ⟨_, _, ⟨T227, L227, k227, n227⟩, -, X227, ⟨Lc227, hQ227, l227, y227, z227⟩, st227⟩ := Jvm.LawKit.callS X226 hx (y := (⟨"com/example/lapse/lapse/MarkingCodeUnpackPinLaw", "bit", "(JJJI)I"⟩ : MethodName)) hown (mvT hZ (hw _ (List.mem_of_getElem? (i := 36) rfl))) (mvT hZ (hw _ (List.mem_of_getElem? (i := 37) rfl))) (mvT hZ (hw _ (List.mem_of_getElem? (i := 38) rfl))) (mvT hZ (hw _ (List.mem_of_getElem? (i := 39) rfl))) (by decide) (backOf (W := 1) (own_r7 l Z a0 hw [] a_ b_ c_ (Int32.ofNat (n - 1))  T216.heap n0 SZ216 ) hZ (hw _ (List.mem_of_getElem? (i := 39) rfl)) (hw _ (List.mem_of_getElem? (i := 38) rfl)) (by decide) (by decide)) (g := (mkF m 246 #[.val (.long a_), .second, .val (.long b_), .second, .val (.long c_), .second, .val (.int w0), .val (.int f0), .val (.int p0), .val (.int (Int32.ofNat n)), .val (.int (Int32.ofNat o)), .val (.ref b154), .val (.ref b166), .val (.ref b171), .val (.int (Int32.ofNat q)), .val (.int (Int32.ofNat (n - 1))), .unset] [(.int (Int32.ofNat (n - 1))), (.long c_), (.long b_), (.long a_), (.int (own_B a_ b_ c_ (n - 1)))])) rfl (by rw [hml]; rfl) (argsL := [(.long a_), (.long b_), (.long c_), (.int (Int32.ofNat (n - 1)))]) (rest := [(.int (own_B a_ b_ c_ (n - 1)))]) (lenOf own_pd_6 rfl) rfl (by show 2 * 0 + _ ≤ _; exact Nat.le_of_eq rfl) (hb hby at_246) (fun _ _ => ⟨rfl, e226, (by decide : 7 + 0 ≤ _), (by decide : 972 + 0 ≤ _)⟩)
    dsimp only [Pt.U, Pt.locs, Pt.cells, Pt.slots] at X227 l227 y227 z227 st227 hQ227
    subst l227 y227 z227
    obtain ⟨rfl, N227q, e227⟩ := hQ227
    have N227 := Fr.app N226 N227q
    refine own_by st227 ?_
    show own_Go p e below T227 (mkF m 249 #[.val (.long a_), .second, .val (.long b_), .second, .val (.long c_), .second, .val (.int w0), .val (.int f0), .val (.int p0), .val (.int (Int32.ofNat n)), .val (.int (Int32.ofNat o)), .val (.ref b154), .val (.ref b166), .val (.ref b171), .val (.int (Int32.ofNat q)), .val (.int (Int32.ofNat (n - 1))), .unset] [(.int (own_f7 a_ b_ c_ (Int32.ofNat (n - 1)))), (.int (own_B a_ b_ c_ (n - 1)))]) _
    refine own_s_icmpNo X227.here hx (hb hby at_249) (Jvm.Free.XT.ii_ne_f ((own_bq a_ b_ c_ (n - 1) (by omega)))) ?_
    refine own_s_iconst X227.here hx (1 : Int32) (hb hby at_252) rfl ?_
    show own_Go p e below T227 (mkF m 253 #[.val (.long a_), .second, .val (.long b_), .second, .val (.long c_), .second, .val (.int w0), .val (.int f0), .val (.int p0), .val (.int (Int32.ofNat n)), .val (.int (Int32.ofNat o)), .val (.ref b154), .val (.ref b166), .val (.ref b171), .val (.int (Int32.ofNat q)), .val (.int (Int32.ofNat (n - 1))), .unset] [(.int (1 : Int32))]) _
    refine own_s_goto X227.here hx 257 (hb hby at_253) (by decide) (by decide) ?_
    refine own_s_istore X227.here hx #[.val (.long a_), .second, .val (.long b_), .second, .val (.long c_), .second, .val (.int w0), .val (.int f0), .val (.int p0), .val (.int (Int32.ofNat n)), .val (.int (Int32.ofNat o)), .val (.ref b154), .val (.ref b166), .val (.ref b171), .val (.int (Int32.ofNat q)), .val (.int (Int32.ofNat (n - 1))), .val (.int (1 : Int32))] (hb hby at_257) rfl ?_
    refine own_s_iload X227.here hx (hb hby at_259) rfl ?_
    refine own_s_ifNo X227.here hx (hb hby at_261) (Jvm.Free.XT.i0_eq_f ((by decide))) ?_
    refine own_s_aload X227.here hx (hb hby at_264) rfl rfl ?_
    refine own_s_iload X227.here hx (hb hby at_266) rfl ?_
    refine own_by (fun tq_ kq_ => own_ldJ X227 hx hZ e227 f217 (k := (o + 0)) (v := (.long a_)) (own_ix (by omega)) (by omega) (hpw 0 (by decide)) (g := (mkF m 268 #[.val (.long a_), .second, .val (.long b_), .second, .val (.long c_), .second, .val (.int w0), .val (.int f0), .val (.int p0), .val (.int (Int32.ofNat n)), .val (.int (Int32.ofNat o)), .val (.ref b154), .val (.ref b166), .val (.ref b171), .val (.int (Int32.ofNat q)), .val (.int (Int32.ofNat (n - 1))), .val (.int (1 : Int32))] [(.int (Int32.ofNat o)), (.ref b154)])) rfl rfl (hb hby at_268) tq_ kq_) ?_
    show own_Go p e below T227 (mkF m 269 #[.val (.long a_), .second, .val (.long b_), .second, .val (.long c_), .second, .val (.int w0), .val (.int f0), .val (.int p0), .val (.int (Int32.ofNat n)), .val (.int (Int32.ofNat o)), .val (.ref b154), .val (.ref b166), .val (.ref b171), .val (.int (Int32.ofNat q)), .val (.int (Int32.ofNat (n - 1))), .val (.int (1 : Int32))] [(.long a_)]) _
    refine own_s_lloadN X227.here hx (hb hby at_269) rfl ?_
    refine own_s_lcmp X227.here hx (hb hby at_270) ?_
    refine own_s_ifNo X227.here hx (hb hby at_271) (Jvm.Free.XT.ll_ne_f rfl) ?_
    refine own_s_aload X227.here hx (hb hby at_274) rfl rfl ?_
    refine own_s_iload X227.here hx (hb hby at_276) rfl ?_
    refine own_s_iconst X227.here hx (1 : Int32) (hb hby at_278) rfl ?_
    refine own_s_iadd X227.here hx (hb hby at_279) ?_
    refine own_by (fun tq_ kq_ => own_ldJ X227 hx hZ e227 f217 (k := (o + 1)) (v := (.long b_)) (own_ix2 (w := 1) (by omega)) (by omega) (hpw 1 (by decide)) (g := (mkF m 280 #[.val (.long a_), .second, .val (.long b_), .second, .val (.long c_), .second, .val (.int w0), .val (.int f0), .val (.int p0), .val (.int (Int32.ofNat n)), .val (.int (Int32.ofNat o)), .val (.ref b154), .val (.ref b166), .val (.ref b171), .val (.int (Int32.ofNat q)), .val (.int (Int32.ofNat (n - 1))), .val (.int (1 : Int32))] [(.int ((Int32.ofNat o) + (1 : Int32))), (.ref b154)])) rfl rfl (hb hby at_280) tq_ kq_) ?_
    show own_Go p e below T227 (mkF m 281 #[.val (.long a_), .second, .val (.long b_), .second, .val (.long c_), .second, .val (.int w0), .val (.int f0), .val (.int p0), .val (.int (Int32.ofNat n)), .val (.int (Int32.ofNat o)), .val (.ref b154), .val (.ref b166), .val (.ref b171), .val (.int (Int32.ofNat q)), .val (.int (Int32.ofNat (n - 1))), .val (.int (1 : Int32))] [(.long b_)]) _
    refine own_s_lloadN X227.here hx (hb hby at_281) rfl ?_
    refine own_s_lcmp X227.here hx (hb hby at_282) ?_
    refine own_s_ifNo X227.here hx (hb hby at_283) (Jvm.Free.XT.ll_ne_f rfl) ?_
    refine own_s_aload X227.here hx (hb hby at_286) rfl rfl ?_
    refine own_s_iload X227.here hx (hb hby at_288) rfl ?_
    refine own_s_iconst X227.here hx (2 : Int32) (hb hby at_290) rfl ?_
    refine own_s_iadd X227.here hx (hb hby at_291) ?_
    refine own_by (fun tq_ kq_ => own_ldJ X227 hx hZ e227 f217 (k := (o + 2)) (v := (.long c_)) (own_ix2 (w := 2) (by omega)) (by omega) (hpw 2 (by decide)) (g := (mkF m 292 #[.val (.long a_), .second, .val (.long b_), .second, .val (.long c_), .second, .val (.int w0), .val (.int f0), .val (.int p0), .val (.int (Int32.ofNat n)), .val (.int (Int32.ofNat o)), .val (.ref b154), .val (.ref b166), .val (.ref b171), .val (.int (Int32.ofNat q)), .val (.int (Int32.ofNat (n - 1))), .val (.int (1 : Int32))] [(.int ((Int32.ofNat o) + (2 : Int32))), (.ref b154)])) rfl rfl (hb hby at_292) tq_ kq_) ?_
    show own_Go p e below T227 (mkF m 293 #[.val (.long a_), .second, .val (.long b_), .second, .val (.long c_), .second, .val (.int w0), .val (.int f0), .val (.int p0), .val (.int (Int32.ofNat n)), .val (.int (Int32.ofNat o)), .val (.ref b154), .val (.ref b166), .val (.ref b171), .val (.int (Int32.ofNat q)), .val (.int (Int32.ofNat (n - 1))), .val (.int (1 : Int32))] [(.long c_)]) _
    refine own_s_lload X227.here hx (hb hby at_293) rfl ?_
    refine own_s_lcmp X227.here hx (hb hby at_295) ?_
    refine own_s_ifNo X227.here hx (hb hby at_296) (Jvm.Free.XT.ll_ne_f rfl) ?_
    refine own_s_iconst X227.here hx (1 : Int32) (hb hby at_299) rfl ?_
    show own_Go p e below T227 (mkF m 300 #[.val (.long a_), .second, .val (.long b_), .second, .val (.long c_), .second, .val (.int w0), .val (.int f0), .val (.int p0), .val (.int (Int32.ofNat n)), .val (.int (Int32.ofNat o)), .val (.ref b154), .val (.ref b166), .val (.ref b171), .val (.int (Int32.ofNat q)), .val (.int (Int32.ofNat (n - 1))), .val (.int (1 : Int32))] [(.int (1 : Int32))]) _
    refine own_s_goto X227.here hx 304 (hb hby at_300) (by decide) (by decide) ?_
    refine own_s_istore X227.here hx #[.val (.long a_), .second, .val (.long b_), .second, .val (.long c_), .second, .val (.int w0), .val (.int f0), .val (.int p0), .val (.int (Int32.ofNat n)), .val (.int (Int32.ofNat o)), .val (.ref b154), .val (.ref b166), .val (.ref b171), .val (.int (Int32.ofNat q)), .val (.int (Int32.ofNat (n - 1))), .val (.int (1 : Int32))] (hb hby at_304) rfl ?_
    refine own_s_iload X227.here hx (hb hby at_306) rfl ?_
    refine own_retZ X227 hx hret hlk (hb hby at_308) rfl (by decide) (by decide) ?_
    exact ⟨rfl, N227⟩
set_option maxRecDepth 65536 in
set_option maxHeartbeats 40000000 in
theorem own_comes {Post : Tables → Env → Array Value → State → Outcome → State → Prop} (hpost : ∀ tb e args s v u, (limb_1_1.after args s (.returned v) u = true ∧ limb_1_2.after args s (.returned v) u = true ∧ True) → FrameEnd s (.returned v) u (Jvm.fieldLocs frame_1_writes args s ++ Jvm.arrayLocs frame_1_arrays args s ++ Jvm.staticLocs frame_1_statics s) 24 2048 → Post tb e args s (.returned v) u) :
    ArmFor flags0 classFile x code maxLocals ret World_1 tables_1 room_1 Calls_1 rest_1 Pre_1 Post := by
  intro l hfl _ _ p e ha hc hk s m args below hf hA hF happ hP
  obtain ⟨hcalls, hrest, hpre⟩ := hP
  obtain ⟨-, -, -, hnamed, -, -, -, hat⟩ := (Spec.applies_iff hf).mp happ
  obtain ⟨hg, hn⟩ := and_e (Cond.before_iff.mp (show (Jvm.Cond.and given_1 narrow_1).before args s = true from hpre))
  obtain ⟨g1, g2⟩ := and_e hg
  obtain ⟨g3, g4⟩ := and_e g2
  obtain ⟨g5, g6⟩ := and_e g4
  obtain ⟨g7, g8⟩ := and_e g6
  obtain ⟨g9, g10⟩ := and_e g8
  obtain ⟨g11, g12⟩ := and_e g10
  obtain ⟨w0, w1, w2, w3, w4, w5, rfl⟩ : ∃ w0 w1 w2 w3 w4 w5 : Value, args = #[w0, w1, w2, w3, w4, w5] := by
    have hs : args.size = 6 := by simpa [Cond.value, given_1] using g1
    obtain ⟨L⟩ := args
    match L, hs with
    | [w0, w1, w2, w3, w4, w5], _ => exact ⟨w0, w1, w2, w3, w4, w5, rfl⟩
  have hw := fun d (hd : d ∈ tables_1) => atoms_spec (ws := Jvm.Cond.code x code maxLocals ret :: tables_1) hat d (List.mem_cons_of_mem _ hd)
  obtain ⟨i0, ei0⟩ := isL_v g3
  obtain rfl : w0 = (.long i0) := Option.some.inj ei0
  obtain ⟨i1, ei1⟩ := isL_v g5
  obtain rfl : w1 = (.long i1) := Option.some.inj ei1
  obtain ⟨i2, ei2⟩ := isL_v g7
  obtain rfl : w2 = (.long i2) := Option.some.inj ei2
  obtain ⟨i3, ei3⟩ := is_v g9
  obtain rfl : w3 = (.int i3) := Option.some.inj ei3
  obtain ⟨i4, ei4⟩ := is_v g11
  obtain rfl : w4 = (.int i4) := Option.some.inj ei4
  obtain ⟨i5, ei5⟩ := is_v g12
  obtain rfl : w5 = (.int i5) := Option.some.inj ei5
  obtain ⟨n, o, h1, h2, h3, _, L, rfl, ⟨rfl, N⟩, hq⟩ := own_r0 l s _ hw tables_1 i0 i1 i2 i3 i4 i5 s.heap s.heap.size (Nat.le_refl _) p e ha hc hk s m _ below hf ((Spec.applies_iff_loose hf).mp happ).1 ⟨rfl, State.Warmed39.refl s, rfl⟩ trivial
  refine ⟨n, _, h1, h2, h3, hpost _ _ _ _ _ _ ⟨Cond.after_iff.mpr rfl, Cond.after_iff.mpr (eq_i res_at (Term.int_eval (1)) rfl), trivial⟩ ⟨hq.1, hq.2.1, (hq.2.2.sift fun y hy => Or.inr (N y hy)).mono (by decide) (by decide)⟩⟩
theorem main_1_1 : Claimed_1_1 := own_comes fun _ _ _ _ _ _ h hF => ⟨h.1, hF⟩
theorem main_1_2 : Claimed_1_2 := own_comes fun _ _ _ _ _ _ h hF => ⟨h.2.1, hF⟩
end Jvm.Pilot.@@N@@
namespace Jvm.Pilot.@@N@@
open Jvm Jvm.ClassFile Sem Op Lib Jvm.Free Jvm.Stand Jvm.Pilot.@@N@@.Jvm.D
/-! MADE BY PROGRAM (witnessworld.py) out of the Statement's table words and the real class files: 12 classes; the members and pool entries that the words name. The judged class is class 1, her method 1. -/
namespace start1
open Jvm.ClassFile
def u (s : String) : CpInfo := .utf8 (stringToUtf16 s)
/-- a pool by its gaps: so many unusable entries, then the entry; so many at the end -/
def gap : Nat → List CpInfo → List CpInfo
  | 0, r => r
  | n + 1, r => .unusable :: gap n r
def poolList (es : List (Nat × CpInfo)) (last : Nat) : List CpInfo := es.foldr (fun e r => gap e.1 (e.2 :: r)) (gap last [])
def pool (es : List (Nat × CpInfo)) (last : Nat) : Array CpInfo := ⟨poolList es last⟩
def fileOf (pool : Array CpInfo) (this : Nat) (attrs : Array Attribute := #[]) (ms : Array MethodInfo := #[]) (fl : Nat := 33) (sup : Nat := 0) (ifs : Array Nat := #[]) (fds : Array FieldInfo := #[]) : ClassFile where
  minorVersion := 0
  majorVersion := 65
  constantPool := pool
  accessFlags := fl
  thisClass := this
  superClass := sup
  interfaces := ifs
  fields := fds
  methods := ms
  attributes := attrs
def plain (name : String) (sup : Option ClassId) : Class where
  name := name
  kind := .ordinary
  loader := none
  accessFlags := 33
  super := sup
  interfaces := #[]
  cf := none
  fields := #[]
  methods := #[]
  instanceTypes := #[]
  staticTypes := #[]
  resolved := #[]
  callSites := []
  init := .initialized
  statics := none
  mirror := none

def pool0 : Array CpInfo := pool [(5, u "<init>"), (0, u "()V"), (1, .class_ 10), (1, u "java/lang/Object")] 113

def k0c0 : Code := { maxStack := 0, maxLocals := 1, code := object_method_1_code, exceptionTable := #[], attributes := #[] }
def k0m0 : Method := { name := "<init>", desc := "()V", sig := { parameters := [], returnType := none }, accessFlags := 1, code := some k0c0 }
/-- java/lang/Object -/
def k0 : Class := { plain "java/lang/Object" none with
  accessFlags := 33
  interfaces := #[]
  cf := some (fileOf pool0 8 #[] #[{ accessFlags := 1, nameIndex := 5, descriptorIndex := 6, attributes := #[] }] 33 0 #[] #[])
  fields := #[]
  methods := #[k0m0]
  instanceTypes := #[]
  staticTypes := #[]
  resolved := Array.replicate 124 none
  statics := none }

def pool1 : Array CpInfo := pool [(2, .class_ 4), (1, u "java/lang/Object"), (0, u "<init>"), (0, u "()V"), (0, .long 18446744073709551615), (1, .class_ 10), (0, u "com/example/lapse/lapse/MarkingCode"), (0, .methodref 9 12), (0, .nameAndType 5 13), (0, u "(I)V"), (0, .methodref 9 15), (0, .nameAndType 16 17), (0, u "unpack"), (0, u "([JI[I)V"), (0, .integer 2147483647), (0, .methodref 20 21), (0, .class_ 22), (0, .nameAndType 23 24), (0, u "com/example/lapse/lapse/MarkingCodeUnpackPinLaw"), (0, u "bit"), (0, u "(JJJI)I"), (2, u "law"), (0, u "(JJJIII)Z")] 7

def k1m0 : Method := { name := "<init>", desc := "()V", sig := { parameters := [], returnType := none }, accessFlags := 1, code := none }
def k1c1 : Code := { maxStack := 8, maxLocals := 17, code := code, exceptionTable := #[], attributes := #[] }
def k1m1 : Method := { name := "law", desc := "(JJJIII)Z", sig := { parameters := [.long, .long, .long, .int, .int, .int], returnType := some .boolean }, accessFlags := 9, code := some k1c1 }
def k1c2 : Code := { maxStack := 4, maxLocals := 10, code := method_3_code, exceptionTable := #[], attributes := #[] }
def k1m2 : Method := { name := "bit", desc := "(JJJI)I", sig := { parameters := [.long, .long, .long, .int], returnType := some .int }, accessFlags := 10, code := some k1c2 }
/-- com/example/lapse/lapse/MarkingCodeUnpackPinLaw -/
def k1 : Class := { plain "com/example/lapse/lapse/MarkingCodeUnpackPinLaw" (some 0) with
  accessFlags := 49
  interfaces := #[]
  cf := some (fileOf pool1 20 #[] #[{ accessFlags := 1, nameIndex := 5, descriptorIndex := 6, attributes := #[] }, { accessFlags := 9, nameIndex := 27, descriptorIndex := 28, attributes := #[] }, { accessFlags := 10, nameIndex := 23, descriptorIndex := 24, attributes := #[] }] 49 2 #[] #[])
  fields := #[]
  methods := #[k1m0, k1m1, k1m2]
  instanceTypes := #[]
  staticTypes := #[]
  resolved := Array.replicate 36 none
  statics := none }

def pool2 : Array CpInfo := pool [(1, .methodref 2 3), (0, .class_ 4), (0, .nameAndType 5 6), (0, u "com/example/lapse/lapse/MarkingCode"), (0, u "ones"), (0, u "(I)[I"), (0, .methodref 2 8), (0, .nameAndType 9 10), (0, u "<init>"), (0, u "([I)V"), (0, .methodref 12 13), (0, .class_ 14), (0, .nameAndType 9 15), (0, u "java/lang/Object"), (0, u "()V"), (0, .fieldref 2 17), (0, .nameAndType 18 19), (0, u "most"), (0, u "[I"), (0, .fieldref 2 21), (0, .nameAndType 22 19), (0, u "words"), (0, .fieldref 2 24), (0, .nameAndType 25 19), (0, u "shifts"), (2, .fieldref 2 29), (0, .nameAndType 30 31), (0, u "length"), (0, u "I"), (19, .methodref 52 53), (0, .class_ 54), (0, .nameAndType 55 56), (0, u "java/util/Arrays"), (0, u "fill"), (0, u "([II)V"), (0, u "MAX_BITS"), (2, u "(I)V"), (11, u "unpack"), (0, u "([JI[I)V")] 4

def k2c0 : Code := { maxStack := 2, maxLocals := 2, code := prog_21_method_1_code, exceptionTable := #[], attributes := #[] }
def k2m0 : Method := { name := "<init>", desc := "(I)V", sig := { parameters := [.int], returnType := none }, accessFlags := 0, code := some k2c0 }
def k2c1 : Code := { maxStack := 6, maxLocals := 6, code := prog_21_method_2_code, exceptionTable := #[], attributes := #[] }
def k2m1 : Method := { name := "<init>", desc := "([I)V", sig := { parameters := [(.array .int)], returnType := none }, accessFlags := 2, code := some k2c1 }
def k2c2 : Code := { maxStack := 6, maxLocals := 8, code := prog_21_method_7_code, exceptionTable := #[], attributes := #[] }
def k2m2 : Method := { name := "unpack", desc := "([JI[I)V", sig := { parameters := [(.array .long), .int, (.array .int)], returnType := none }, accessFlags := 0, code := some k2c2 }
def k2c3 : Code := { maxStack := 2, maxLocals := 2, code := prog_21_method_10_code, exceptionTable := #[], attributes := #[] }
def k2m3 : Method := { name := "ones", desc := "(I)[I", sig := { parameters := [.int], returnType := some (.array .int) }, accessFlags := 10, code := some k2c3 }
/-- com/example/lapse/lapse/MarkingCode -/
def k2 : Class := { plain "com/example/lapse/lapse/MarkingCode" (some 0) with
  accessFlags := 48
  interfaces := #[]
  cf := some (fileOf pool2 2 #[] #[{ accessFlags := 0, nameIndex := 9, descriptorIndex := 60, attributes := #[] }, { accessFlags := 2, nameIndex := 9, descriptorIndex := 10, attributes := #[] }, { accessFlags := 0, nameIndex := 72, descriptorIndex := 73, attributes := #[] }, { accessFlags := 10, nameIndex := 5, descriptorIndex := 6, attributes := #[] }] 48 12 #[] #[{ accessFlags := 26, nameIndex := 57, descriptorIndex := 31, attributes := #[] }, { accessFlags := 18, nameIndex := 18, descriptorIndex := 19, attributes := #[] }, { accessFlags := 18, nameIndex := 22, descriptorIndex := 19, attributes := #[] }, { accessFlags := 18, nameIndex := 25, descriptorIndex := 19, attributes := #[] }, { accessFlags := 18, nameIndex := 30, descriptorIndex := 31, attributes := #[] }])
  fields := #[{ name := "MAX_BITS", type := .int, accessFlags := 26, slot := 0, constantValue := 0 }, { name := "most", type := (.array .int), accessFlags := 18, slot := 0, constantValue := 0 }, { name := "words", type := (.array .int), accessFlags := 18, slot := 1, constantValue := 0 }, { name := "shifts", type := (.array .int), accessFlags := 18, slot := 2, constantValue := 0 }, { name := "length", type := .int, accessFlags := 18, slot := 3, constantValue := 0 }]
  methods := #[k2m0, k2m1, k2m2, k2m3]
  instanceTypes := #[(.array .int), (.array .int), (.array .int), .int]
  staticTypes := #[.int]
  resolved := Array.replicate 78 none
  statics := none }

def pool3 : Array CpInfo := pool [(2, .class_ 4), (1, u "java/lang/Object"), (0, u "<init>"), (0, u "()V"), (7, .class_ 16), (1, u "java/util/Arrays"), (57, .class_ 76), (1, u "java/util/Arrays$NaturalOrder"), (36, .class_ 115), (1, u "java/util/Arrays$LegacyMergeSort"), (1, u "Z"), (257, .class_ 376), (0, u "java/util/Arrays$ArrayList"), (68, u "$assertionsDisabled"), (269, u "MIN_ARRAY_SORT_GRAN"), (0, u "I"), (2, u "INSERTIONSORT_THRESHOLD"), (120, u "fill"), (4, u "([II)V"), (129, .class_ 976), (0, u "java/util/Arrays$ArrayItr")] 52

def k3m0 : Method := { name := "<init>", desc := "()V", sig := { parameters := [], returnType := none }, accessFlags := 2, code := none }
def k3c1 : Code := { maxStack := 3, maxLocals := 4, code := jdk_65_method_103_code, exceptionTable := #[], attributes := #[] }
def k3m1 : Method := { name := "fill", desc := "([II)V", sig := { parameters := [(.array .int), .int], returnType := none }, accessFlags := 9, code := some k3c1 }
/-- java/util/Arrays -/
def k3 : Class := { plain "java/util/Arrays" (some 0) with
  accessFlags := 49
  interfaces := #[]
  cf := some (fileOf pool3 14 #[.nestMembers #[975, 375, 113, 74]] #[{ accessFlags := 2, nameIndex := 5, descriptorIndex := 6, attributes := #[] }, { accessFlags := 9, nameIndex := 840, descriptorIndex := 845, attributes := #[] }] 49 2 #[] #[{ accessFlags := 26, nameIndex := 715, descriptorIndex := 716, attributes := #[] }, { accessFlags := 26, nameIndex := 719, descriptorIndex := 716, attributes := #[] }, { accessFlags := 4120, nameIndex := 445, descriptorIndex := 117, attributes := #[] }])
  fields := #[{ name := "MIN_ARRAY_SORT_GRAN", type := .int, accessFlags := 26, slot := 0, constantValue := 0 }, { name := "INSERTIONSORT_THRESHOLD", type := .int, accessFlags := 26, slot := 1, constantValue := 0 }, { name := "$assertionsDisabled", type := .boolean, accessFlags := 4120, slot := 2, constantValue := 0 }]
  methods := #[k3m0, k3m1]
  instanceTypes := #[]
  staticTypes := #[.int, .int, .boolean]
  resolved := Array.replicate 1029 none
  statics := none }

def pool4 : Array CpInfo := pool [(1, u "java/lang/Cloneable"), (0, .class_ 1), (0, u "java/lang/Object"), (0, .class_ 3)] 3

/-- java/lang/Cloneable -/
def k4 : Class := { plain "java/lang/Cloneable" (some 0) with
  accessFlags := 1537
  interfaces := #[]
  cf := some (fileOf pool4 2 #[] #[] 1537 4 #[] #[])
  fields := #[]
  methods := #[]
  instanceTypes := #[]
  staticTypes := #[]
  resolved := Array.replicate 8 none
  statics := none }

def pool5 : Array CpInfo := pool [(1, u "java/io/Serializable"), (0, .class_ 1), (0, u "java/lang/Object"), (0, .class_ 3)] 3

/-- java/io/Serializable -/
def k5 : Class := { plain "java/io/Serializable" (some 0) with
  accessFlags := 1537
  interfaces := #[]
  cf := some (fileOf pool5 2 #[] #[] 1537 4 #[] #[])
  fields := #[]
  methods := #[]
  instanceTypes := #[]
  staticTypes := #[]
  resolved := Array.replicate 8 none
  statics := none }

/-- the primitive byte -/
def k6 : Class := { plain "byte" none with kind := .primitive 'B', accessFlags := 0x411 }
/-- [B -/
def k7 : Class := { plain "[B" (some 0) with kind := .array 6 .byte, interfaces := #[4, 5], accessFlags := 1041 }

/-- the primitive int -/
def k8 : Class := { plain "int" none with kind := .primitive 'I', accessFlags := 0x411 }
/-- [I -/
def k9 : Class := { plain "[I" (some 0) with kind := .array 8 .int, interfaces := #[4, 5], accessFlags := 1041 }

/-- the primitive long -/
def k10 : Class := { plain "long" none with kind := .primitive 'J', accessFlags := 0x411 }
/-- [J -/
def k11 : Class := { plain "[J" (some 0) with kind := .array 10 .long, interfaces := #[4, 5], accessFlags := 1041 }

def heap : Heap := #[]
def classes : Array Class := #[k0, k1, k2, k3, k4, k5, k6, k7, k8, k9, k10, k11]
def interned : List (Array UInt16 × Addr) := []
def slotsUsed : Nat := 0
def theMethod : MethodId := ⟨1, 1⟩
def args0 : Array Value := #[.long 5, .long 5, .long 5, .int 5, .int 5, .int 5]
def aboutOver (below : List Frame) : State where
  vm := { classes := classes, interned := interned.toArray }
  heap := heap
  slotsUsed := slotsUsed
  threads := #[{ frames := .invoking theMethod args0 :: below }]
def below0 : List Frame := [.native { method := ⟨0, 0⟩, args := #[] }]
def about1 : State := aboutOver below0
def p0 : Program := .bare "" "" ""
def e0 : Env := launch0.env 0 0 0
theorem w_frames : about1.frames = Frame.invoking theMethod args0 :: below0 := rfl
set_option maxRecDepth 65536 in
theorem w_args : argsFit about1.vm theMethod args0 = true := by decide +kernel
set_option maxRecDepth 65536 in
theorem w_heap : heapFits about1 = true := by decide +kernel
set_option maxRecDepth 65536 in
theorem w_runnable : about1.curStatus? = some .runnable := by decide +kernel
set_option maxRecDepth 65536 in
theorem w_alone : about1.alone = true := by decide +kernel
set_option maxRecDepth 65536 in
theorem w_named : about1.methodNamed? x = some theMethod := by decide +kernel
set_option maxRecDepth 65536 in
theorem w_hears : about1.hears theMethod below0 = true := by decide +kernel
set_option maxRecDepth 65536 in
theorem w_ripe : about1.ripe theMethod args0 below0 = true := by decide +kernel
theorem w_running : about1.status = .running := rfl
set_option maxRecDepth 65536 in
theorem w_room : about1.hasRoom e0.platform room_1 = true :=
  launch0.hasRoom_least _ room_1 (by decide +kernel) (by decide +kernel) (by decide +kernel) (by decide +kernel) (by decide +kernel) (by decide +kernel)
theorem allAtoms_all (ts : List Jvm.Cond) (a : Array Jvm.Value) (st : Jvm.State) : (allAtoms ts).before a st = ts.all (fun c => c.before a st) := by
  induction ts with
  | nil => rfl
  | cons c t ih =>
    show (Jvm.Cond.and c (allAtoms t)).before a st = _
    rw [Jvm.Cond.before_and, ih, List.all_cons]
def words1 : List Jvm.Cond := Jvm.Cond.code x code maxLocals ret :: tables_1
/-- a 'code' word, met by the world's own term for the bytes: nothing is compared byte by byte -/
theorem code_word {y : MethodName} {bytes : ByteArray} {mx : Nat} {rt : Option FieldType} {a : Array Value} {s : State} {m : MethodId} {meth : Method} {c : Code} (h1 : s.methodNamed? y = some m) (h2 : s.vm.method? m = some meth) (h3 : meth.code = some c) (h4 : c.code = bytes)
    (h5 : (c.maxLocals == mx && c.exceptionTable.isEmpty && decide (c.maxStack ≤ mostOperands) && decide (meth.sig.returnType = rt) && !meth.locks && decide (parseMethodDescriptor y.desc = some meth.sig)) = true) : (Jvm.Cond.code y bytes mx rt).before a s = true := by
  simp only [Bool.and_eq_true, beq_iff_eq, Bool.not_eq_true', decide_eq_true_eq] at h5
  obtain ⟨⟨⟨⟨⟨g1, g2⟩, g3⟩, g4⟩, g5⟩, g6⟩ := h5
  simp [Cond.before, Cond.holds, Cond.value, h1, h2, h3, h4, g1, g2, g3, g4, g5, g6]
def isCode : Jvm.Cond → Bool
  | .code _ _ _ _ => true
  | _ => false
theorem all_split {L : List Jvm.Cond} {P : Jvm.Cond → Bool} (h1 : L.all (fun c => isCode c || P c) = true) (h2 : ∀ c ∈ L.filter isCode, P c = true) : L.all P = true := by
  refine List.all_eq_true.mpr fun c hc => ?_
  have h := List.all_eq_true.mp h1 c hc
  rcases Bool.eq_false_or_eq_true (isCode c) with hi | hi
  · exact h2 c (List.mem_filter.mpr ⟨hc, hi⟩)
  · simpa [hi] using h
set_option maxRecDepth 65536 in
theorem w_c0 : (Jvm.Cond.code x code maxLocals ret).before args0 about1 = true := code_word (m := ⟨1, 1⟩) (meth := k1m1) (c := k1c1) (by decide +kernel) rfl rfl rfl (by decide +kernel)
set_option maxRecDepth 65536 in
theorem w_c1 : (Jvm.Cond.code ({ cls := "com/example/lapse/lapse/MarkingCode", name := "<init>", desc := "(I)V" } : Jvm.MethodName) prog_21_method_1_code (2 : Nat) (Option.none : Option Jvm.ClassFile.FieldType)).before args0 about1 = true := code_word (m := ⟨2, 0⟩) (meth := k2m0) (c := k2c0) (by decide +kernel) rfl rfl rfl (by decide +kernel)
set_option maxRecDepth 65536 in
theorem w_c2 : (Jvm.Cond.code ({ cls := "com/example/lapse/lapse/MarkingCode", name := "ones", desc := "(I)[I" } : Jvm.MethodName) prog_21_method_10_code (2 : Nat) (Option.some (Jvm.ClassFile.FieldType.array Jvm.ClassFile.FieldType.int))).before args0 about1 = true := code_word (m := ⟨2, 3⟩) (meth := k2m3) (c := k2c3) (by decide +kernel) rfl rfl rfl (by decide +kernel)
set_option maxRecDepth 65536 in
theorem w_c3 : (Jvm.Cond.code ({ cls := "java/util/Arrays", name := "fill", desc := "([II)V" } : Jvm.MethodName) jdk_65_method_103_code (4 : Nat) (Option.none : Option Jvm.ClassFile.FieldType)).before args0 about1 = true := code_word (m := ⟨3, 1⟩) (meth := k3m1) (c := k3c1) (by decide +kernel) rfl rfl rfl (by decide +kernel)
set_option maxRecDepth 65536 in
theorem w_c4 : (Jvm.Cond.code ({ cls := "com/example/lapse/lapse/MarkingCode", name := "<init>", desc := "([I)V" } : Jvm.MethodName) prog_21_method_2_code (6 : Nat) (Option.none : Option Jvm.ClassFile.FieldType)).before args0 about1 = true := code_word (m := ⟨2, 1⟩) (meth := k2m1) (c := k2c1) (by decide +kernel) rfl rfl rfl (by decide +kernel)
set_option maxRecDepth 65536 in
theorem w_c5 : (Jvm.Cond.code ({ cls := "java/lang/Object", name := "<init>", desc := "()V" } : Jvm.MethodName) object_method_1_code (1 : Nat) (Option.none : Option Jvm.ClassFile.FieldType)).before args0 about1 = true := code_word (m := ⟨0, 0⟩) (meth := k0m0) (c := k0c0) (by decide +kernel) rfl rfl rfl (by decide +kernel)
set_option maxRecDepth 65536 in
theorem w_c6 : (Jvm.Cond.code ({ cls := "com/example/lapse/lapse/MarkingCode", name := "unpack", desc := "([JI[I)V" } : Jvm.MethodName) prog_21_method_7_code (8 : Nat) (Option.none : Option Jvm.ClassFile.FieldType)).before args0 about1 = true := code_word (m := ⟨2, 2⟩) (meth := k2m2) (c := k2c2) (by decide +kernel) rfl rfl rfl (by decide +kernel)
set_option maxRecDepth 65536 in
theorem w_c7 : (Jvm.Cond.code ({ cls := "com/example/lapse/lapse/MarkingCodeUnpackPinLaw", name := "bit", desc := "(JJJI)I" } : Jvm.MethodName) method_3_code (10 : Nat) (Option.some Jvm.ClassFile.FieldType.int)).before args0 about1 = true := code_word (m := ⟨1, 2⟩) (meth := k1m2) (c := k1c2) (by decide +kernel) rfl rfl rfl (by decide +kernel)
def codes1 : List Jvm.Cond := [Jvm.Cond.code x code maxLocals ret, Jvm.Cond.code ({ cls := "com/example/lapse/lapse/MarkingCode", name := "<init>", desc := "(I)V" } : Jvm.MethodName) prog_21_method_1_code (2 : Nat) (Option.none : Option Jvm.ClassFile.FieldType), Jvm.Cond.code ({ cls := "com/example/lapse/lapse/MarkingCode", name := "ones", desc := "(I)[I" } : Jvm.MethodName) prog_21_method_10_code (2 : Nat) (Option.some (Jvm.ClassFile.FieldType.array Jvm.ClassFile.FieldType.int)), Jvm.Cond.code ({ cls := "java/util/Arrays", name := "fill", desc := "([II)V" } : Jvm.MethodName) jdk_65_method_103_code (4 : Nat) (Option.none : Option Jvm.ClassFile.FieldType), Jvm.Cond.code ({ cls := "com/example/lapse/lapse/MarkingCode", name := "<init>", desc := "([I)V" } : Jvm.MethodName) prog_21_method_2_code (6 : Nat) (Option.none : Option Jvm.ClassFile.FieldType), Jvm.Cond.code ({ cls := "java/lang/Object", name := "<init>", desc := "()V" } : Jvm.MethodName) object_method_1_code (1 : Nat) (Option.none : Option Jvm.ClassFile.FieldType), Jvm.Cond.code ({ cls := "com/example/lapse/lapse/MarkingCode", name := "unpack", desc := "([JI[I)V" } : Jvm.MethodName) prog_21_method_7_code (8 : Nat) (Option.none : Option Jvm.ClassFile.FieldType), Jvm.Cond.code ({ cls := "com/example/lapse/lapse/MarkingCodeUnpackPinLaw", name := "bit", desc := "(JJJI)I" } : Jvm.MethodName) method_3_code (10 : Nat) (Option.some Jvm.ClassFile.FieldType.int)]
set_option maxRecDepth 65536 in
theorem codes_eq : words1.filter isCode = codes1 := rfl
theorem w_codes : ∀ c ∈ words1.filter isCode, c.before args0 about1 = true := by
  rw [codes_eq]
  intro c hc
  simp only [codes1, List.mem_cons, List.not_mem_nil, or_false] at hc
  rcases hc with rfl | rfl | rfl | rfl | rfl | rfl | rfl | rfl
  · exact w_c0
  · exact w_c1
  · exact w_c2
  · exact w_c3
  · exact w_c4
  · exact w_c5
  · exact w_c6
  · exact w_c7
set_option maxRecDepth 65536 in
theorem w_t1 : (words1.take 24).all (fun c => isCode c || c.before args0 about1) = true := by decide +kernel
set_option maxRecDepth 65536 in
theorem w_t2 : (words1.drop 24).all (fun c => isCode c || c.before args0 about1) = true := by decide +kernel
theorem w_tables : (allAtoms (Jvm.Cond.code x code maxLocals ret :: tables_1)).before args0 about1 = true := by
  rw [allAtoms_all]
  show words1.all (fun c => c.before args0 about1) = true
  refine all_split ?_ w_codes
  rw [← List.take_append_drop 24 words1, List.all_append, w_t1, w_t2]
  rfl
set_option maxRecDepth 65536 in
theorem w_case : (Jvm.Cond.and given_1 narrow_1).before args0 about1 = true := by decide +kernel
theorem w_applies : (headSpec (Jvm.Cond.code x code maxLocals ret :: tables_1) room_1).applies x e0.platform about1 = true :=
  (Spec.applies_iff w_frames).mpr ⟨w_running, w_runnable, w_alone, w_named, w_hears, w_ripe, w_room, w_tables⟩
theorem atStart : AtStart classFile x code maxLocals ret World_1 tables_1 room_1 Calls_1 rest_1 Pre_1 launch0 p0 e0 about1 theMethod args0 below0 :=
  ⟨lists_1, trivial, launch0.admits_env _ _ _, launch0.least_env, fairChoices_fair.cas, fairChoices_fair.clock, w_frames, w_args, w_heap, w_applies, trivial, trivial, w_case⟩
end start1
theorem witness_1 : WitnessClaimed_1 := ⟨start1.p0, start1.e0, start1.about1, start1.theMethod, start1.args0, start1.below0, start1.atStart⟩
end Jvm.Pilot.@@N@@
