import JvmDerived
import JvmDerived.Pilot.@@N@@Statement
import JvmDerived.Pilot.@@N@@Code
set_option linter.unusedVariables false
set_option linter.unusedSimpArgs false
@@BLOCK:NumsL.lean.txt@@
namespace Jvm.Pilot.@@N@@
open Jvm Jvm.ClassFile Sem Op Lib Jvm.Free Jvm.Stand Jvm.LawKit Jvm.RoadKit Bundle Jvm.Pilot.@@N@@.Jvm.D

/-! the walk's own small kit: from the frame g over the state T the body comes to its end, with Φ -/
def own_Go (p : Program) (e : Env) (below : List Frame) (T : State) (g : JFrame) (Φ : Outcome → State → Prop) : Prop :=
  ∃ s₂ o, Steps p.tables e below (T.setTop g) s₂ ∧ s₂.status = .running ∧ Ended s₂ below o ∧ Φ o s₂
def own_Fin (s : State) (Q : Option Value → Heap → List Loc → Prop) (k j : Nat) (o : Outcome) (U' : State) : Prop :=
  ∃ v L, o = .returned v ∧ Q v U'.heap L ∧ FrameEnd s o U' L k j
theorem own_by {p : Program} {e : Env} {below : List Frame} {T T' : State} {g g' : JFrame} {Φ : Outcome → State → Prop}
    (h : ∀ t, Steps p.tables e below (T'.setTop g') t → Steps p.tables e below (T.setTop g) t) (k : own_Go p e below T' g' Φ) : own_Go p e below T g Φ := by
  obtain ⟨s₂, o, h1, h2⟩ := k
  exact ⟨s₂, o, h _ h1, h2⟩
theorem own_start {p : Program} {e : Env} {below : List Frame} {s T : State} {g g' : JFrame} {Q : Option Value → Heap → List Loc → Prop} {k j : Nat} (hg : g = g')
    (h : own_Go p e below T g' (own_Fin s Q k j)) : ∃ s₂ o, Steps p.tables e below (T.setTop g) s₂ ∧ s₂.status = .running ∧ Ended s₂ below o ∧ ∃ v L, o = .returned v ∧ Q v s₂.heap L ∧ FrameEnd s o s₂ L k j := by
  subst hg
  exact h
section OwnRet
variable {p : Program} {l : Launch} {e : Env} {R : Room} {s : State} {m : MethodId} {args : Array Value} {below : List Frame} {meth : Method} {c : Code} {T : State} {locs : List Loc} {cells slots : Nat} {Q : Option Value → Heap → List Loc → Prop} {k j pc : Nat} {Ls : Array Slot} {rest : List Value}
theorem own_retN {t : FieldType} (ht : t = .boolean ∨ t = .byte ∨ t = .char ∨ t = .short) (X : Stand p l e R s m args below meth c T locs cells slots) (hx : p.tables.exec = Jvm.exec) (hret : meth.sig.returnType = some t) (hlk : meth.locks = false) {z : Int32} (hd : decode c.code pc = .ok (.ireturn, 1))
    (hz : nar t z = z) (hk : cells ≤ k) (hj : slots ≤ j) (q : Q (some (.int z)) T.heap locs) : own_Go p e below T (mkF m pc Ls (.int z :: rest)) (own_Fin s Q k j) := by
  obtain ⟨fs, hr, hrun, hended, hW, hsame⟩ := X.leave (v := some (.int z)) (fun h => by rw [hret] at h; cases h)
  exact ⟨_, _, retN X hx hret ht hd (by rw [hz]; exact hr), hrun, hended, _, _, rfl, q, ⟨_, rfl⟩, hW, hsame.mono hk hj⟩
theorem own_retZ (X : Stand p l e R s m args below meth c T locs cells slots) (hx : p.tables.exec = Jvm.exec) (hret : meth.sig.returnType = some .boolean) (hlk : meth.locks = false) {z : Int32} (hd : decode c.code pc = .ok (.ireturn, 1))
    (hz : nar .boolean z = z) (hk : cells ≤ k) (hj : slots ≤ j) (q : Q (some (.int z)) T.heap locs) : own_Go p e below T (mkF m pc Ls (.int z :: rest)) (own_Fin s Q k j) := own_retN (Or.inl rfl) X hx hret hlk hd hz hk hj q
theorem own_retI (X : Stand p l e R s m args below meth c T locs cells slots) (hx : p.tables.exec = Jvm.exec) (hret : meth.sig.returnType = some .int) (hlk : meth.locks = false) {z : Int32} (hd : decode c.code pc = .ok (.ireturn, 1))
    (hk : cells ≤ k) (hj : slots ≤ j) (q : Q (some (.int z)) T.heap locs) : own_Go p e below T (mkF m pc Ls (.int z :: rest)) (own_Fin s Q k j) := by
  obtain ⟨fs, hr, hrun, hended, hW, hsame⟩ := X.leave (v := some (.int z)) (fun h => by rw [hret] at h; cases h)
  exact ⟨_, _, retOut X hx hret rfl (Or.inl ⟨rfl, Or.inl rfl, z, rfl⟩) hd hr, hrun, hended, _, _, rfl, q, ⟨_, rfl⟩, hW, hsame.mono hk hj⟩
theorem own_retJ (X : Stand p l e R s m args below meth c T locs cells slots) (hx : p.tables.exec = Jvm.exec) (hret : meth.sig.returnType = some .long) (hlk : meth.locks = false) {z : Int64} (hd : decode c.code pc = .ok (.lreturn, 1))
    (hk : cells ≤ k) (hj : slots ≤ j) (q : Q (some (.long z)) T.heap locs) : own_Go p e below T (mkF m pc Ls (.long z :: rest)) (own_Fin s Q k j) := by
  obtain ⟨fs, hr, hrun, hended, hW, hsame⟩ := X.leave (v := some (.long z)) (fun h => by rw [hret] at h; cases h)
  exact ⟨_, _, retOut X hx hret rfl (Or.inr (Or.inl ⟨rfl, rfl, z, rfl⟩)) hd hr, hrun, hended, _, _, rfl, q, ⟨_, rfl⟩, hW, hsame.mono hk hj⟩
theorem own_retA {t : FieldType} (X : Stand p l e R s m args below meth c T locs cells slots) (hx : p.tables.exec = Jvm.exec) (hret : meth.sig.returnType = some t) (hlk : meth.locks = false) {z : Value} (hd : decode c.code pc = .ok (.areturn, 1))
    (ht : t.isReference = true) (hz : z.isRef = true) (hn : narrow t z = z) (hk : cells ≤ k) (hj : slots ≤ j) (q : Q (some z) T.heap locs) : own_Go p e below T (mkF m pc Ls (z :: rest)) (own_Fin s Q k j) := by
  obtain ⟨fs, hr, hrun, hended, hW, hsame⟩ := X.leave (v := some z) (fun h => by rw [hret] at h; cases h)
  exact ⟨_, _, retOut X hx hret hn (Or.inr (Or.inr (Or.inr (Or.inr ⟨rfl, ht, hz⟩)))) hd hr, hrun, hended, _, _, rfl, q, ⟨_, rfl⟩, hW, hsame.mono hk hj⟩
theorem own_retV (X : Stand p l e R s m args below meth c T locs cells slots) (hx : p.tables.exec = Jvm.exec) (hret : meth.sig.returnType = none) (hlk : meth.locks = false) (hd : decode c.code pc = .ok (.return_, 1))
    (hk : cells ≤ k) (hj : slots ≤ j) (q : Q none T.heap locs) : own_Go p e below T (mkF m pc Ls []) (own_Fin s Q k j) := by
  obtain ⟨fs, hr, hrun, hended, hW, hsame⟩ := X.leave (v := none) (fun _ => rfl)
  exact ⟨_, _, X.returnOut hx hret hd hr, hrun, hended, _, _, rfl, q, ⟨_, rfl⟩, hW, hsame.mono hk hj⟩
theorem own_lrem_eq (x y : Int64) : x - x / y * y = x % y := Int64.toInt_inj.mp (by rw [Jvm.Kit.i64_rem, Int64.toInt_mod])
theorem own_lrem {g : JFrame} {target : State} (X : Stand p l e R s m args below meth c T locs cells slots) (hx : p.tables.exec = Jvm.exec) (hg : g.method = m) {x y : Int64} {rest : List Value} (hd : decode c.code g.pc = .ok (.lrem, 1)) (hs : g.stack = .long y :: .long x :: rest) (hy : y ≠ 0)
    (hr : Steps p.tables e below (T.setTop { g with pc := g.pc + 1, stack := .long (x % y) :: rest }) target) : Steps p.tables e below (T.setTop g) target :=
  XS.lrem X.here hx hg hd hs hy (by rw [own_lrem_eq x y]; exact hr)
end OwnRet
/-! an array: its length, and what each place holds -/
abbrev own_At (j : Int32) (k : Nat) : Prop := ¬ j < 0 ∧ j.toNatClampNeg = k
def own_upd (f : Nat → Value) (k : Nat) (v : Value) : Nat → Value := fun i => if i = k then v else f i
theorem own_upd_hit {f : Nat → Value} {k i : Nat} {v : Value} (h : i = k) : own_upd f k v i = v := if_pos h
theorem own_upd_miss {f : Nat → Value} {k i : Nat} {v : Value} (h : ¬ i = k) : own_upd f k v i = f i := if_neg h
def own_Av (Z : State) (h : Heap) (a : Addr) (ty : FieldType) (n : Nat) (f : Nat → Value) : Prop := ∃ c : Cell, Arr Z h a c ty ∧ c.slots.size = n ∧ ∀ i, i < n → c.slots[i]? = some (f i)
section OwnArr
variable {Z : State} {h h' : Heap} {a b : Addr} {ty : FieldType} {n k sl : Nat} {f : Nat → Value} {v : Value} {ws : List Addr}
theorem own_Av.ext (F : own_Av Z h a ty n f) (E : Ext h h') : own_Av Z h' a ty n f := by obtain ⟨c, A, r⟩ := F; exact ⟨c, A.ext E, r⟩
theorem own_Av.other (F : own_Av Z h b ty n f) (W : Wr h h' a sl v) (q : b ≠ a) : own_Av Z h' b ty n f := by obtain ⟨c, A, r⟩ := F; exact ⟨c, A.other W q, r⟩
theorem own_Av.keep (F : own_Av Z h a ty n f) (K : Keep h h' ws) (q : a ∉ ws) : own_Av Z h' a ty n f := by obtain ⟨c, A, r⟩ := F; exact ⟨c, ⟨K.2.1 a c A.1 q, A.2⟩, r⟩
theorem own_Av.lt (F : own_Av Z h a ty n f) : a < h.size := by obtain ⟨c, A, -⟩ := F; exact A.lt
theorem own_Av.ofnew {z : Int32} {kc : ClassId} {d : Value} (A : Arr Z h a (newA kc ty z) ty) (hn : z.toNatClampNeg = n) (hd : defaultValue ty = d) : own_Av Z h a ty n (fun _ => d) := by
  subst hn hd
  exact ⟨_, A, sz_new _ _ _, fun i hi => by simp [newA, hi]⟩
theorem own_Av.set (F : own_Av Z h a ty n f) (W : Wr h h' a k v) : own_Av Z h' a ty n (own_upd f k v) := by
  obtain ⟨c, A, S, H⟩ := F
  refine ⟨_, A.same W, by rw [sz_set]; exact S, fun i hi => ?_⟩
  by_cases q : i = k
  · subst q
    rw [own_upd_hit rfl]
    simp [Cell.setSlot, S, hi]
  · rw [own_upd_miss q, ← H i hi]
    exact Array.getElem?_setIfInBounds_ne fun u => q u.symm
theorem own_Av.cong {g : Nat → Value} {n' : Nat} (F : own_Av Z h a ty n f) (hn : n = n') (q : ∀ i, i < n → f i = g i) : own_Av Z h a ty n' g := by
  subst hn
  obtain ⟨c, A, S, H⟩ := F
  exact ⟨c, A, S, fun i hi => by rw [← q i hi]; exact H i hi⟩
theorem own_in {j : Int32} (hj : own_At j k) (hk : k < n) {c : Cell} (S : c.slots.size = n) : ¬ (j < 0 ∨ c.slots.size ≤ j.toNatClampNeg) := by
  intro q
  rcases q with q | q
  · exact hj.1 q
  · rw [hj.2, S] at q; omega
variable {p : Program} {l : Launch} {e : Env} {R : Room} {s : State} {m : MethodId} {args : Array Value} {below : List Frame} {meth : Method} {c : Code} {T : State} {locs : List Loc} {cells slots : Nat}
theorem own_ldI (X : Stand p l e R s m args below meth c T locs cells slots) (hx : p.tables.exec = Jvm.exec) (hZ : Z.Warmed39 s.vm) (eT : T.heap = h) (F : own_Av Z h a .int n f) {j : Int32} (hj : own_At j k) (hk : k < n) (hv : f k = v)
    {g : JFrame} (hg : g.method = m) {rest : List Value} (hs : g.stack = .int j :: .ref a :: rest) (hd : decode c.code g.pc = .ok (.iaload, 1)) (t : State)
    (hr : Steps p.tables e below (T.setTop { g with pc := g.pc + 1, stack := v :: rest }) t) : Steps p.tables e below (T.setTop g) t := by
  obtain ⟨cl, A, S, H⟩ := F
  exact X.iaload hx (by rw [eT]; exact A.1) (State.isArrayOf_alike hZ.alike A.2.1) A.2.2 (own_in hj hk S) (by rw [hj.2, H k hk, hv]) hg hs hd t hr
theorem own_ldJ (X : Stand p l e R s m args below meth c T locs cells slots) (hx : p.tables.exec = Jvm.exec) (hZ : Z.Warmed39 s.vm) (eT : T.heap = h) (F : own_Av Z h a .long n f) {j : Int32} (hj : own_At j k) (hk : k < n) (hv : f k = v)
    {g : JFrame} (hg : g.method = m) {rest : List Value} (hs : g.stack = .int j :: .ref a :: rest) (hd : decode c.code g.pc = .ok (.laload, 1)) (t : State)
    (hr : Steps p.tables e below (T.setTop { g with pc := g.pc + 1, stack := v :: rest }) t) : Steps p.tables e below (T.setTop g) t := by
  obtain ⟨cl, A, S, H⟩ := F
  exact X.laload hx (by rw [eT]; exact A.1) (State.isArrayOf_alike hZ.alike A.2.1) A.2.2 (own_in hj hk S) (by rw [hj.2, H k hk, hv]) hg hs hd t hr
theorem own_ldS (X : Stand p l e R s m args below meth c T locs cells slots) (hx : p.tables.exec = Jvm.exec) (hZ : Z.Warmed39 s.vm) (eT : T.heap = h) (F : own_Av Z h a .short n f) {j : Int32} (hj : own_At j k) (hk : k < n) (hv : f k = v)
    {g : JFrame} (hg : g.method = m) {rest : List Value} (hs : g.stack = .int j :: .ref a :: rest) (hd : decode c.code g.pc = .ok (.saload, 1)) (t : State)
    (hr : Steps p.tables e below (T.setTop { g with pc := g.pc + 1, stack := v :: rest }) t) : Steps p.tables e below (T.setTop g) t := by
  obtain ⟨cl, A, S, H⟩ := F
  exact X.saload hx (by rw [eT]; exact A.1) (State.isArrayOf_alike hZ.alike A.2.1) A.2.2 (own_in hj hk S) (by rw [hj.2, H k hk, hv]) hg hs hd t hr
theorem own_ldC (X : Stand p l e R s m args below meth c T locs cells slots) (hx : p.tables.exec = Jvm.exec) (hZ : Z.Warmed39 s.vm) (eT : T.heap = h) (F : own_Av Z h a .char n f) {j : Int32} (hj : own_At j k) (hk : k < n) (hv : f k = v)
    {g : JFrame} (hg : g.method = m) {rest : List Value} (hs : g.stack = .int j :: .ref a :: rest) (hd : decode c.code g.pc = .ok (.caload, 1)) (t : State)
    (hr : Steps p.tables e below (T.setTop { g with pc := g.pc + 1, stack := v :: rest }) t) : Steps p.tables e below (T.setTop g) t := by
  obtain ⟨cl, A, S, H⟩ := F
  exact X.caload hx (by rw [eT]; exact A.1) (State.isArrayOf_alike hZ.alike A.2.1) A.2.2 (own_in hj hk S) (by rw [hj.2, H k hk, hv]) hg hs hd t hr
theorem own_ldB (X : Stand p l e R s m args below meth c T locs cells slots) (hx : p.tables.exec = Jvm.exec) (hZ : Z.Warmed39 s.vm) (eT : T.heap = h) (F : own_Av Z h a .byte n f) {j : Int32} (hj : own_At j k) (hk : k < n) (hv : f k = v)
    {g : JFrame} (hg : g.method = m) {rest : List Value} (hs : g.stack = .int j :: .ref a :: rest) (hd : decode c.code g.pc = .ok (.baload, 1)) (t : State)
    (hr : Steps p.tables e below (T.setTop { g with pc := g.pc + 1, stack := v :: rest }) t) : Steps p.tables e below (T.setTop g) t := by
  obtain ⟨cl, A, S, H⟩ := F
  exact X.baloadBytes hx (by rw [eT]; exact A.1) (State.isArrayOf_alike hZ.alike A.2.1) A.2.2 (own_in hj hk S) (by rw [hj.2, H k hk, hv]) hg hs hd t hr
theorem own_ldZ (X : Stand p l e R s m args below meth c T locs cells slots) (hx : p.tables.exec = Jvm.exec) (hZ : Z.Warmed39 s.vm) (eT : T.heap = h) (F : own_Av Z h a .boolean n f) {j : Int32} (hj : own_At j k) (hk : k < n) (hv : f k = v)
    {g : JFrame} (hg : g.method = m) {rest : List Value} (hs : g.stack = .int j :: .ref a :: rest) (hd : decode c.code g.pc = .ok (.baload, 1)) (t : State)
    (hr : Steps p.tables e below (T.setTop { g with pc := g.pc + 1, stack := v :: rest }) t) : Steps p.tables e below (T.setTop g) t := by
  obtain ⟨cl, A, S, H⟩ := F
  exact X.baloadBooleans hx (by rw [eT]; exact A.1) (State.isArrayOf_alike hZ.alike A.2.1) A.2.2 (own_in hj hk S) (by rw [hj.2, H k hk, hv]) hg hs hd t hr
theorem own_len (X : Stand p l e R s m args below meth c T locs cells slots) (hx : p.tables.exec = Jvm.exec) (hZ : Z.Warmed39 s.vm) (eT : T.heap = h) (F : own_Av Z h a ty n f) {z : Int32} (hz : n.toInt32 = z)
    {g : JFrame} (hg : g.method = m) {rest : List Value} (hs : g.stack = .ref a :: rest) (hd : decode c.code g.pc = .ok (.arraylength, 1)) (t : State)
    (hr : Steps p.tables e below (T.setTop { g with pc := g.pc + 1, stack := .int z :: rest }) t) : Steps p.tables e below (T.setTop g) t := by
  obtain ⟨cl, A, S, H⟩ := F
  exact X.arraylength hx (by rw [eT]; exact A.1) (State.isArrayOf_alike hZ.alike A.2.1) hg hs hd t (by rw [S, hz]; exact hr)
theorem own_stI (X : Stand p l e R s m args below meth c T locs cells slots) (hx : p.tables.exec = Jvm.exec) (hZ : Z.Warmed39 s.vm) (eT : T.heap = h) (F : own_Av Z h a .int n f) {j x : Int32} (hj : own_At j k) (hk : k < n)
    {g : JFrame} (hg : g.method = m) {rest : List Value} (hs : g.stack = .int x :: .int j :: .ref a :: rest) (hd : decode c.code g.pc = .ok (.iastore, 1)) :
    ∃ T' h', Stand p l e R s m args below meth c T' (locs ++ [⟨a, k⟩]) cells slots ∧ T'.heap = h' ∧ Wr h h' a k (.int x) ∧ own_Av Z h' a .int n (own_upd f k (.int x)) ∧ ∀ target, Steps p.tables e below (T'.setTop { g with pc := g.pc + 1, stack := rest }) target → Steps p.tables e below (T.setTop g) target := by
  obtain ⟨cl, A, S, H⟩ := id F
  obtain ⟨T', h', X', e', W', st⟩ := stI X hx hZ eT A (own_in hj hk S) hg hs hd
  rw [hj.2] at X' W'
  exact ⟨T', h', X', e', W', F.set W', st⟩
theorem own_stJ (X : Stand p l e R s m args below meth c T locs cells slots) (hx : p.tables.exec = Jvm.exec) (hZ : Z.Warmed39 s.vm) (eT : T.heap = h) (F : own_Av Z h a .long n f) {j : Int32} {x : Int64} (hj : own_At j k) (hk : k < n)
    {g : JFrame} (hg : g.method = m) {rest : List Value} (hs : g.stack = .long x :: .int j :: .ref a :: rest) (hd : decode c.code g.pc = .ok (.lastore, 1)) :
    ∃ T' h', Stand p l e R s m args below meth c T' (locs ++ [⟨a, k⟩]) cells slots ∧ T'.heap = h' ∧ Wr h h' a k (.long x) ∧ own_Av Z h' a .long n (own_upd f k (.long x)) ∧ ∀ target, Steps p.tables e below (T'.setTop { g with pc := g.pc + 1, stack := rest }) target → Steps p.tables e below (T.setTop g) target := by
  obtain ⟨cl, A, S, H⟩ := id F
  obtain ⟨T', h', X', e', W', st⟩ := stJ X hx hZ eT A (own_in hj hk S) hg hs hd
  rw [hj.2] at X' W'
  exact ⟨T', h', X', e', W', F.set W', st⟩
theorem own_stB (X : Stand p l e R s m args below meth c T locs cells slots) (hx : p.tables.exec = Jvm.exec) (hZ : Z.Warmed39 s.vm) (eT : T.heap = h) (F : own_Av Z h a .byte n f) {j x : Int32} (hj : own_At j k) (hk : k < n)
    {g : JFrame} (hg : g.method = m) {rest : List Value} (hs : g.stack = .int x :: .int j :: .ref a :: rest) (hd : decode c.code g.pc = .ok (.bastore, 1)) :
    ∃ T' h', Stand p l e R s m args below meth c T' (locs ++ [⟨a, k⟩]) cells slots ∧ T'.heap = h' ∧ Wr h h' a k (.int x.toInt8.toInt32) ∧ own_Av Z h' a .byte n (own_upd f k (.int x.toInt8.toInt32)) ∧ ∀ target, Steps p.tables e below (T'.setTop { g with pc := g.pc + 1, stack := rest }) target → Steps p.tables e below (T.setTop g) target := by
  obtain ⟨cl, A, S, H⟩ := id F
  obtain ⟨T', h', X', e', W', st⟩ := stB X hx hZ eT A (own_in hj hk S) hg hs hd
  rw [hj.2] at X' W'
  exact ⟨T', h', X', e', W', F.set W', st⟩
theorem own_stZ (X : Stand p l e R s m args below meth c T locs cells slots) (hx : p.tables.exec = Jvm.exec) (hZ : Z.Warmed39 s.vm) (eT : T.heap = h) (F : own_Av Z h a .boolean n f) {j x : Int32} (hj : own_At j k) (hk : k < n)
    {g : JFrame} (hg : g.method = m) {rest : List Value} (hs : g.stack = .int x :: .int j :: .ref a :: rest) (hd : decode c.code g.pc = .ok (.bastore, 1)) :
    ∃ T' h', Stand p l e R s m args below meth c T' (locs ++ [⟨a, k⟩]) cells slots ∧ T'.heap = h' ∧ Wr h h' a k (.int (x &&& 1)) ∧ own_Av Z h' a .boolean n (own_upd f k (.int (x &&& 1))) ∧ ∀ target, Steps p.tables e below (T'.setTop { g with pc := g.pc + 1, stack := rest }) target → Steps p.tables e below (T.setTop g) target := by
  obtain ⟨cl, A, S, H⟩ := id F
  obtain ⟨T', h', X', e', W', st⟩ := stZ X hx hZ eT A (own_in hj hk S) hg hs hd
  rw [hj.2] at X' W'
  exact ⟨T', h', X', e', W', F.set W', st⟩
theorem own_stC (X : Stand p l e R s m args below meth c T locs cells slots) (hx : p.tables.exec = Jvm.exec) (hZ : Z.Warmed39 s.vm) (eT : T.heap = h) (F : own_Av Z h a .char n f) {j x : Int32} (hj : own_At j k) (hk : k < n)
    {g : JFrame} (hg : g.method = m) {rest : List Value} (hs : g.stack = .int x :: .int j :: .ref a :: rest) (hd : decode c.code g.pc = .ok (.castore, 1)) :
    ∃ T' h', Stand p l e R s m args below meth c T' (locs ++ [⟨a, k⟩]) cells slots ∧ T'.heap = h' ∧ Wr h h' a k (.int (nar .char x)) ∧ own_Av Z h' a .char n (own_upd f k (.int (nar .char x))) ∧ ∀ target, Steps p.tables e below (T'.setTop { g with pc := g.pc + 1, stack := rest }) target → Steps p.tables e below (T.setTop g) target := by
  obtain ⟨cl, A, S, H⟩ := id F
  obtain ⟨T', h', X', e', W', st⟩ := stC X hx hZ eT A (own_in hj hk S) hg hs hd
  rw [hj.2] at X' W'
  exact ⟨T', h', X', e', W', F.set W', st⟩
theorem own_stS (X : Stand p l e R s m args below meth c T locs cells slots) (hx : p.tables.exec = Jvm.exec) (hZ : Z.Warmed39 s.vm) (eT : T.heap = h) (F : own_Av Z h a .short n f) {j x : Int32} (hj : own_At j k) (hk : k < n)
    {g : JFrame} (hg : g.method = m) {rest : List Value} (hs : g.stack = .int x :: .int j :: .ref a :: rest) (hd : decode c.code g.pc = .ok (.sastore, 1)) :
    ∃ T' h', Stand p l e R s m args below meth c T' (locs ++ [⟨a, k⟩]) cells slots ∧ T'.heap = h' ∧ Wr h h' a k (.int (nar .short x)) ∧ own_Av Z h' a .short n (own_upd f k (.int (nar .short x))) ∧ ∀ target, Steps p.tables e below (T'.setTop { g with pc := g.pc + 1, stack := rest }) target → Steps p.tables e below (T.setTop g) target := by
  obtain ⟨cl, A, S, H⟩ := id F
  obtain ⟨T', h', X', e', W', st⟩ := stS X hx hZ eT A (own_in hj hk S) hg hs hd
  rw [hj.2] at X' W'
  exact ⟨T', h', X', e', W', F.set W', st⟩
end OwnArr
theorem own_selP {Z s : State} {a0 args : Array Value} {y : MethodName} {n : Nat} (hZ : Z.Warmed39 s.vm) (wi : (Cond.instantiable y.cls n).before a0 Z = true) (wp : (Cond.privateMethod y).before a0 Z = true) (wm : (Cond.instanceMethod y).before a0 Z = true)
    (hy : y.cls ≠ "java/lang/invoke/MethodHandle" ∧ y.cls ≠ "java/lang/invoke/VarHandle") : (Cond.selects y.cls y y).before args s = true := by
  have w : (Cond.instantiable y.cls n).before args s = true := mvT hZ wi
  obtain ⟨c, k, h1, h2, -, h4, -⟩ := Cond.instantiable_spec w
  exact Jvm.Stand.selects_self_of_private h1 h2 (Bool.or_eq_false_iff.mp h4).1 (Cond.privateMethod_at (mvP hZ wp (args := args))) (mvT hZ wm) hy
theorem own_narZ {x : Int32} (h : x &&& 1 = x) : narrow .boolean (.int x) = .int x := by
  show Value.int (x &&& 1) = _
  rw [h]
theorem own_fitZ {x : Int32} (h : x &&& 1 = x) : fits .boolean (.int x) = true := by
  have q := fits_nar_bool x
  rw [show nar .boolean x = x from h] at q
  exact q
theorem own_mono {p : Program} {e : Env} {below : List Frame} {s T : State} {g : JFrame} {Q Q' : Option Value → Heap → List Loc → Prop} {k j : Nat} (h : ∀ v h L, Q v h L → Q' v h L) (G : own_Go p e below T g (own_Fin s Q k j)) : own_Go p e below T g (own_Fin s Q' k j) := by
  obtain ⟨s₂, o, h1, h2, h3, v, L, h4, h5, h6⟩ := G
  exact ⟨s₂, o, h1, h2, h3, v, L, h4, h _ _ _ h5, h6⟩
theorem own_ofs (i : Nat) : Int32.ofNat i + (1 : Int32) = Int32.ofNat (i + 1) := (Int32.ofNat_add i 1).symm
theorem own_toI {i : Nat} (h : i < 2147483648) : (Int32.ofNat i).toInt = i := Int32.toInt_ofNat_small h
theorem own_ix {i : Nat} (h : i < 2147483648) : own_At (Int32.ofNat i) i := by
  have e := own_toI h
  refine ⟨?_, ?_⟩
  · rw [Int32.lt_iff_toInt_lt, e, show (0 : Int32).toInt = 0 from by decide]; omega
  · simp only [Int32.toNatClampNeg, e]; omega
theorem own_oflt {i n : Nat} (hi : i < 2147483648) (hn : n < 2147483648) : Int32.ofNat i < Int32.ofNat n ↔ i < n := by
  rw [Int32.lt_iff_toInt_lt, own_toI hi, own_toI hn]; omega
theorem own_ofeq {i n : Nat} (hi : i < 2147483648) (hn : n < 2147483648) : Int32.ofNat i = Int32.ofNat n ↔ i = n := by
  rw [← Int32.toInt_inj, own_toI hi, own_toI hn]; omega
def own_fl (F : Nat → Int32) (i : Nat) (g : Nat → Value) (j : Nat) : Value := if j < i then .int (F j) else g j
theorem own_fl_up (F : Nat → Int32) (i : Nat) (g : Nat → Value) : ∀ j, own_upd (own_fl F i g) i (.int (F i)) j = own_fl F (i + 1) g j := fun j => by
  unfold own_fl
  by_cases q : j = i
  · subst q; rw [own_upd_hit rfl, if_pos (by omega)]
  · rw [own_upd_miss q]
    by_cases q2 : j < i
    · rw [if_pos q2, if_pos (by omega)]
    · rw [if_neg q2, if_neg (by omega)]
theorem own_fl0 (F : Nat → Int32) (g : Nat → Value) : ∀ j, g j = own_fl F 0 g j := fun j => by unfold own_fl; rw [if_neg (by omega)]
theorem own_fl_in {F : Nat → Int32} {i j : Nat} {g : Nat → Value} (h : j < i) : own_fl F i g j = .int (F j) := if_pos h
theorem own_fl_out {F : Nat → Int32} {i j : Nat} {g : Nat → Value} (h : ¬ j < i) : own_fl F i g j = g j := if_neg h

/-! single steps over own_Go -/
theorem own_s_iadd {p : Program} {e : Env} {below : List Frame} {T : State} {m : MethodId} {c : Code} {Φ : Outcome → State → Prop} {pc : Nat} {L : Array Slot} {S : List Value} (h : At T m c below) (hx : p.tables.exec = Jvm.exec) {x y : Int32} (hd : decode c.code pc = .ok (.iadd, 1)) (G : own_Go p e below T (mkF m (pc + 1) L (.int (x + y) :: S)) Φ) : own_Go p e below T (mkF m pc L (.int y :: .int x :: S)) Φ := own_by (fun t k => XS.iadd h hx rfl hd rfl k) G
theorem own_s_isub {p : Program} {e : Env} {below : List Frame} {T : State} {m : MethodId} {c : Code} {Φ : Outcome → State → Prop} {pc : Nat} {L : Array Slot} {S : List Value} (h : At T m c below) (hx : p.tables.exec = Jvm.exec) {x y : Int32} (hd : decode c.code pc = .ok (.isub, 1)) (G : own_Go p e below T (mkF m (pc + 1) L (.int (x - y) :: S)) Φ) : own_Go p e below T (mkF m pc L (.int y :: .int x :: S)) Φ := own_by (fun t k => XS.isub h hx rfl hd rfl k) G
theorem own_s_imul {p : Program} {e : Env} {below : List Frame} {T : State} {m : MethodId} {c : Code} {Φ : Outcome → State → Prop} {pc : Nat} {L : Array Slot} {S : List Value} (h : At T m c below) (hx : p.tables.exec = Jvm.exec) {x y : Int32} (hd : decode c.code pc = .ok (.imul, 1)) (G : own_Go p e below T (mkF m (pc + 1) L (.int (x * y) :: S)) Φ) : own_Go p e below T (mkF m pc L (.int y :: .int x :: S)) Φ := own_by (fun t k => XS.imul h hx rfl hd rfl k) G
theorem own_s_iand {p : Program} {e : Env} {below : List Frame} {T : State} {m : MethodId} {c : Code} {Φ : Outcome → State → Prop} {pc : Nat} {L : Array Slot} {S : List Value} (h : At T m c below) (hx : p.tables.exec = Jvm.exec) {x y : Int32} (hd : decode c.code pc = .ok (.iand, 1)) (G : own_Go p e below T (mkF m (pc + 1) L (.int (x &&& y) :: S)) Φ) : own_Go p e below T (mkF m pc L (.int y :: .int x :: S)) Φ := own_by (fun t k => XS.iand h hx rfl hd rfl k) G
theorem own_s_ior {p : Program} {e : Env} {below : List Frame} {T : State} {m : MethodId} {c : Code} {Φ : Outcome → State → Prop} {pc : Nat} {L : Array Slot} {S : List Value} (h : At T m c below) (hx : p.tables.exec = Jvm.exec) {x y : Int32} (hd : decode c.code pc = .ok (.ior, 1)) (G : own_Go p e below T (mkF m (pc + 1) L (.int (x ||| y) :: S)) Φ) : own_Go p e below T (mkF m pc L (.int y :: .int x :: S)) Φ := own_by (fun t k => XS.ior h hx rfl hd rfl k) G
theorem own_s_ixor {p : Program} {e : Env} {below : List Frame} {T : State} {m : MethodId} {c : Code} {Φ : Outcome → State → Prop} {pc : Nat} {L : Array Slot} {S : List Value} (h : At T m c below) (hx : p.tables.exec = Jvm.exec) {x y : Int32} (hd : decode c.code pc = .ok (.ixor, 1)) (G : own_Go p e below T (mkF m (pc + 1) L (.int (x ^^^ y) :: S)) Φ) : own_Go p e below T (mkF m pc L (.int y :: .int x :: S)) Φ := own_by (fun t k => XS.ixor h hx rfl hd rfl k) G
theorem own_s_ladd {p : Program} {e : Env} {below : List Frame} {T : State} {m : MethodId} {c : Code} {Φ : Outcome → State → Prop} {pc : Nat} {L : Array Slot} {S : List Value} (h : At T m c below) (hx : p.tables.exec = Jvm.exec) {x y : Int64} (hd : decode c.code pc = .ok (.ladd, 1)) (G : own_Go p e below T (mkF m (pc + 1) L (.long (x + y) :: S)) Φ) : own_Go p e below T (mkF m pc L (.long y :: .long x :: S)) Φ := own_by (fun t k => XS.ladd h hx rfl hd rfl k) G
theorem own_s_lsub {p : Program} {e : Env} {below : List Frame} {T : State} {m : MethodId} {c : Code} {Φ : Outcome → State → Prop} {pc : Nat} {L : Array Slot} {S : List Value} (h : At T m c below) (hx : p.tables.exec = Jvm.exec) {x y : Int64} (hd : decode c.code pc = .ok (.lsub, 1)) (G : own_Go p e below T (mkF m (pc + 1) L (.long (x - y) :: S)) Φ) : own_Go p e below T (mkF m pc L (.long y :: .long x :: S)) Φ := own_by (fun t k => XS.lsub h hx rfl hd rfl k) G
theorem own_s_lmul {p : Program} {e : Env} {below : List Frame} {T : State} {m : MethodId} {c : Code} {Φ : Outcome → State → Prop} {pc : Nat} {L : Array Slot} {S : List Value} (h : At T m c below) (hx : p.tables.exec = Jvm.exec) {x y : Int64} (hd : decode c.code pc = .ok (.lmul, 1)) (G : own_Go p e below T (mkF m (pc + 1) L (.long (x * y) :: S)) Φ) : own_Go p e below T (mkF m pc L (.long y :: .long x :: S)) Φ := own_by (fun t k => XS.lmul h hx rfl hd rfl k) G
theorem own_s_land {p : Program} {e : Env} {below : List Frame} {T : State} {m : MethodId} {c : Code} {Φ : Outcome → State → Prop} {pc : Nat} {L : Array Slot} {S : List Value} (h : At T m c below) (hx : p.tables.exec = Jvm.exec) {x y : Int64} (hd : decode c.code pc = .ok (.land, 1)) (G : own_Go p e below T (mkF m (pc + 1) L (.long (x &&& y) :: S)) Φ) : own_Go p e below T (mkF m pc L (.long y :: .long x :: S)) Φ := own_by (fun t k => XS.land h hx rfl hd rfl k) G
theorem own_s_lor {p : Program} {e : Env} {below : List Frame} {T : State} {m : MethodId} {c : Code} {Φ : Outcome → State → Prop} {pc : Nat} {L : Array Slot} {S : List Value} (h : At T m c below) (hx : p.tables.exec = Jvm.exec) {x y : Int64} (hd : decode c.code pc = .ok (.lor, 1)) (G : own_Go p e below T (mkF m (pc + 1) L (.long (x ||| y) :: S)) Φ) : own_Go p e below T (mkF m pc L (.long y :: .long x :: S)) Φ := own_by (fun t k => XS.lor h hx rfl hd rfl k) G
theorem own_s_lxor {p : Program} {e : Env} {below : List Frame} {T : State} {m : MethodId} {c : Code} {Φ : Outcome → State → Prop} {pc : Nat} {L : Array Slot} {S : List Value} (h : At T m c below) (hx : p.tables.exec = Jvm.exec) {x y : Int64} (hd : decode c.code pc = .ok (.lxor, 1)) (G : own_Go p e below T (mkF m (pc + 1) L (.long (x ^^^ y) :: S)) Φ) : own_Go p e below T (mkF m pc L (.long y :: .long x :: S)) Φ := own_by (fun t k => XS.lxor h hx rfl hd rfl k) G
theorem own_s_ishl {p : Program} {e : Env} {below : List Frame} {T : State} {m : MethodId} {c : Code} {Φ : Outcome → State → Prop} {pc : Nat} {L : Array Slot} {S : List Value} (h : At T m c below) (hx : p.tables.exec = Jvm.exec) {x y : Int32} (hd : decode c.code pc = .ok (.ishl, 1)) (G : own_Go p e below T (mkF m (pc + 1) L (.int (x <<< (y &&& 31)) :: S)) Φ) : own_Go p e below T (mkF m pc L (.int y :: .int x :: S)) Φ := own_by (fun t k => XS.ishl h hx rfl hd rfl k) G
theorem own_s_ishr {p : Program} {e : Env} {below : List Frame} {T : State} {m : MethodId} {c : Code} {Φ : Outcome → State → Prop} {pc : Nat} {L : Array Slot} {S : List Value} (h : At T m c below) (hx : p.tables.exec = Jvm.exec) {x y : Int32} (hd : decode c.code pc = .ok (.ishr, 1)) (G : own_Go p e below T (mkF m (pc + 1) L (.int (x >>> (y &&& 31)) :: S)) Φ) : own_Go p e below T (mkF m pc L (.int y :: .int x :: S)) Φ := own_by (fun t k => XS.ishr h hx rfl hd rfl k) G
theorem own_s_iushr {p : Program} {e : Env} {below : List Frame} {T : State} {m : MethodId} {c : Code} {Φ : Outcome → State → Prop} {pc : Nat} {L : Array Slot} {S : List Value} (h : At T m c below) (hx : p.tables.exec = Jvm.exec) {x y : Int32} (hd : decode c.code pc = .ok (.iushr, 1)) (G : own_Go p e below T (mkF m (pc + 1) L (.int ((x.toUInt32 >>> (y &&& 31).toUInt32).toInt32) :: S)) Φ) : own_Go p e below T (mkF m pc L (.int y :: .int x :: S)) Φ := own_by (fun t k => XS.iushr h hx rfl hd rfl k) G
theorem own_s_lshl {p : Program} {e : Env} {below : List Frame} {T : State} {m : MethodId} {c : Code} {Φ : Outcome → State → Prop} {pc : Nat} {L : Array Slot} {S : List Value} (h : At T m c below) (hx : p.tables.exec = Jvm.exec) {x : Int64} {y : Int32} (hd : decode c.code pc = .ok (.lshl, 1)) (G : own_Go p e below T (mkF m (pc + 1) L (.long (x <<< (y &&& 0x3f).toInt64) :: S)) Φ) : own_Go p e below T (mkF m pc L (.int y :: .long x :: S)) Φ := own_by (fun t k => XS.lshl h hx rfl hd rfl k) G
theorem own_s_lshr {p : Program} {e : Env} {below : List Frame} {T : State} {m : MethodId} {c : Code} {Φ : Outcome → State → Prop} {pc : Nat} {L : Array Slot} {S : List Value} (h : At T m c below) (hx : p.tables.exec = Jvm.exec) {x : Int64} {y : Int32} (hd : decode c.code pc = .ok (.lshr, 1)) (G : own_Go p e below T (mkF m (pc + 1) L (.long (x >>> (y &&& 0x3f).toInt64) :: S)) Φ) : own_Go p e below T (mkF m pc L (.int y :: .long x :: S)) Φ := own_by (fun t k => XS.lshr h hx rfl hd rfl k) G
theorem own_s_lushr {p : Program} {e : Env} {below : List Frame} {T : State} {m : MethodId} {c : Code} {Φ : Outcome → State → Prop} {pc : Nat} {L : Array Slot} {S : List Value} (h : At T m c below) (hx : p.tables.exec = Jvm.exec) {x : Int64} {y : Int32} (hd : decode c.code pc = .ok (.lushr, 1)) (G : own_Go p e below T (mkF m (pc + 1) L (.long ((x.toUInt64 >>> (y &&& 0x3f).toInt64.toUInt64).toInt64) :: S)) Φ) : own_Go p e below T (mkF m pc L (.int y :: .long x :: S)) Φ := own_by (fun t k => XS.lushr h hx rfl hd rfl k) G
theorem own_s_ineg {p : Program} {e : Env} {below : List Frame} {T : State} {m : MethodId} {c : Code} {Φ : Outcome → State → Prop} {pc : Nat} {L : Array Slot} {S : List Value} (h : At T m c below) (hx : p.tables.exec = Jvm.exec) {x : Int32} (hd : decode c.code pc = .ok (.ineg, 1)) (G : own_Go p e below T (mkF m (pc + 1) L (.int (-x) :: S)) Φ) : own_Go p e below T (mkF m pc L (.int x :: S)) Φ := own_by (fun t k => XS.ineg h hx rfl hd rfl k) G
theorem own_s_lneg {p : Program} {e : Env} {below : List Frame} {T : State} {m : MethodId} {c : Code} {Φ : Outcome → State → Prop} {pc : Nat} {L : Array Slot} {S : List Value} (h : At T m c below) (hx : p.tables.exec = Jvm.exec) {x : Int64} (hd : decode c.code pc = .ok (.lneg, 1)) (G : own_Go p e below T (mkF m (pc + 1) L (.long (-x) :: S)) Φ) : own_Go p e below T (mkF m pc L (.long x :: S)) Φ := own_by (fun t k => XS.lneg h hx rfl hd rfl k) G
theorem own_s_i2l {p : Program} {e : Env} {below : List Frame} {T : State} {m : MethodId} {c : Code} {Φ : Outcome → State → Prop} {pc : Nat} {L : Array Slot} {S : List Value} (h : At T m c below) (hx : p.tables.exec = Jvm.exec) {x : Int32} (hd : decode c.code pc = .ok (.i2l, 1)) (G : own_Go p e below T (mkF m (pc + 1) L (.long (x.toInt64) :: S)) Φ) : own_Go p e below T (mkF m pc L (.int x :: S)) Φ := own_by (fun t k => XS.i2l h hx rfl hd rfl k) G
theorem own_s_l2i {p : Program} {e : Env} {below : List Frame} {T : State} {m : MethodId} {c : Code} {Φ : Outcome → State → Prop} {pc : Nat} {L : Array Slot} {S : List Value} (h : At T m c below) (hx : p.tables.exec = Jvm.exec) {x : Int64} (hd : decode c.code pc = .ok (.l2i, 1)) (G : own_Go p e below T (mkF m (pc + 1) L (.int (x.toInt32) :: S)) Φ) : own_Go p e below T (mkF m pc L (.long x :: S)) Φ := own_by (fun t k => XS.l2i h hx rfl hd rfl k) G
theorem own_s_i2b {p : Program} {e : Env} {below : List Frame} {T : State} {m : MethodId} {c : Code} {Φ : Outcome → State → Prop} {pc : Nat} {L : Array Slot} {S : List Value} (h : At T m c below) (hx : p.tables.exec = Jvm.exec) {x : Int32} (hd : decode c.code pc = .ok (.i2b, 1)) (G : own_Go p e below T (mkF m (pc + 1) L (.int (x.toInt8.toInt32) :: S)) Φ) : own_Go p e below T (mkF m pc L (.int x :: S)) Φ := own_by (fun t k => XS.i2b h hx rfl hd rfl k) G
theorem own_s_i2s {p : Program} {e : Env} {below : List Frame} {T : State} {m : MethodId} {c : Code} {Φ : Outcome → State → Prop} {pc : Nat} {L : Array Slot} {S : List Value} (h : At T m c below) (hx : p.tables.exec = Jvm.exec) {x : Int32} (hd : decode c.code pc = .ok (.i2s, 1)) (G : own_Go p e below T (mkF m (pc + 1) L (.int (x.toInt16.toInt32) :: S)) Φ) : own_Go p e below T (mkF m pc L (.int x :: S)) Φ := own_by (fun t k => XS.i2s h hx rfl hd rfl k) G
theorem own_s_i2c {p : Program} {e : Env} {below : List Frame} {T : State} {m : MethodId} {c : Code} {Φ : Outcome → State → Prop} {pc : Nat} {L : Array Slot} {S : List Value} (h : At T m c below) (hx : p.tables.exec = Jvm.exec) {x : Int32} (hd : decode c.code pc = .ok (.i2c, 1)) (G : own_Go p e below T (mkF m (pc + 1) L (.int (x.toUInt32.toUInt16.toUInt32.toInt32) :: S)) Φ) : own_Go p e below T (mkF m pc L (.int x :: S)) Φ := own_by (fun t k => XS.i2c h hx rfl hd rfl k) G
theorem own_s_iloadN {p : Program} {e : Env} {below : List Frame} {T : State} {m : MethodId} {c : Code} {Φ : Outcome → State → Prop} {pc : Nat} {L : Array Slot} {S : List Value} (h : At T m c below) (hx : p.tables.exec = Jvm.exec) {i : Fin 4} {v : Int32} (hd : decode c.code pc = .ok (.iload_n i, 1)) (hl : L[i.val]? = some (.val (.int v))) (G : own_Go p e below T (mkF m (pc + 1) L (.int v :: S)) Φ) : own_Go p e below T (mkF m pc L S) Φ := own_by (fun t k => XS.iloadN h hx rfl hd hl k) G
theorem own_s_iload {p : Program} {e : Env} {below : List Frame} {T : State} {m : MethodId} {c : Code} {Φ : Outcome → State → Prop} {pc : Nat} {L : Array Slot} {S : List Value} (h : At T m c below) (hx : p.tables.exec = Jvm.exec) {i : Nat} {v : Int32} (hd : decode c.code pc = .ok (.iload i, 2)) (hl : L[i]? = some (.val (.int v))) (G : own_Go p e below T (mkF m (pc + 2) L (.int v :: S)) Φ) : own_Go p e below T (mkF m pc L S) Φ := own_by (fun t k => XS.iload h hx rfl hd hl k) G
theorem own_s_lloadN {p : Program} {e : Env} {below : List Frame} {T : State} {m : MethodId} {c : Code} {Φ : Outcome → State → Prop} {pc : Nat} {L : Array Slot} {S : List Value} (h : At T m c below) (hx : p.tables.exec = Jvm.exec) {i : Fin 4} {v : Int64} (hd : decode c.code pc = .ok (.lload_n i, 1)) (hl : L[i.val]? = some (.val (.long v))) (G : own_Go p e below T (mkF m (pc + 1) L (.long v :: S)) Φ) : own_Go p e below T (mkF m pc L S) Φ := own_by (fun t k => XS.lloadN h hx rfl hd hl k) G
theorem own_s_lload {p : Program} {e : Env} {below : List Frame} {T : State} {m : MethodId} {c : Code} {Φ : Outcome → State → Prop} {pc : Nat} {L : Array Slot} {S : List Value} (h : At T m c below) (hx : p.tables.exec = Jvm.exec) {i : Nat} {v : Int64} (hd : decode c.code pc = .ok (.lload i, 2)) (hl : L[i]? = some (.val (.long v))) (G : own_Go p e below T (mkF m (pc + 2) L (.long v :: S)) Φ) : own_Go p e below T (mkF m pc L S) Φ := own_by (fun t k => XS.lload h hx rfl hd hl k) G
theorem own_s_aloadN {p : Program} {e : Env} {below : List Frame} {T : State} {m : MethodId} {c : Code} {Φ : Outcome → State → Prop} {pc : Nat} {L : Array Slot} {S : List Value} (h : At T m c below) (hx : p.tables.exec = Jvm.exec) {i : Fin 4} {v : Value} (hd : decode c.code pc = .ok (.aload_n i, 1)) (hl : L[i.val]? = some (.val v)) (hv : v.isRef = true) (G : own_Go p e below T (mkF m (pc + 1) L (v :: S)) Φ) : own_Go p e below T (mkF m pc L S) Φ := own_by (fun t k => XS.aloadN h hx rfl hd hl hv k) G
theorem own_s_aload {p : Program} {e : Env} {below : List Frame} {T : State} {m : MethodId} {c : Code} {Φ : Outcome → State → Prop} {pc : Nat} {L : Array Slot} {S : List Value} (h : At T m c below) (hx : p.tables.exec = Jvm.exec) {i : Nat} {v : Value} (hd : decode c.code pc = .ok (.aload i, 2)) (hl : L[i]? = some (.val v)) (hv : v.isRef = true) (G : own_Go p e below T (mkF m (pc + 2) L (v :: S)) Φ) : own_Go p e below T (mkF m pc L S) Φ := own_by (fun t k => XS.aload h hx rfl hd hl hv k) G
theorem own_s_istoreN {p : Program} {e : Env} {below : List Frame} {T : State} {m : MethodId} {c : Code} {Φ : Outcome → State → Prop} {pc : Nat} {L : Array Slot} {S : List Value} (h : At T m c below) (hx : p.tables.exec = Jvm.exec) {i : Fin 4} {v : Int32} (L' : Array Slot) (hd : decode c.code pc = .ok (.istore_n i, 1)) (hl : storeLocals L i.val (.int v) = some L') (G : own_Go p e below T (mkF m (pc + 1) L' S) Φ) : own_Go p e below T (mkF m pc L (.int v :: S)) Φ := own_by (fun t k => XS.istoreN h hx rfl hd rfl hl k) G
theorem own_s_istore {p : Program} {e : Env} {below : List Frame} {T : State} {m : MethodId} {c : Code} {Φ : Outcome → State → Prop} {pc : Nat} {L : Array Slot} {S : List Value} (h : At T m c below) (hx : p.tables.exec = Jvm.exec) {i : Nat} {v : Int32} (L' : Array Slot) (hd : decode c.code pc = .ok (.istore i, 2)) (hl : storeLocals L i (.int v) = some L') (G : own_Go p e below T (mkF m (pc + 2) L' S) Φ) : own_Go p e below T (mkF m pc L (.int v :: S)) Φ := own_by (fun t k => XS.istore h hx rfl hd rfl hl k) G
theorem own_s_lstoreN {p : Program} {e : Env} {below : List Frame} {T : State} {m : MethodId} {c : Code} {Φ : Outcome → State → Prop} {pc : Nat} {L : Array Slot} {S : List Value} (h : At T m c below) (hx : p.tables.exec = Jvm.exec) {i : Fin 4} {v : Int64} (L' : Array Slot) (hd : decode c.code pc = .ok (.lstore_n i, 1)) (hl : storeLocals L i.val (.long v) = some L') (G : own_Go p e below T (mkF m (pc + 1) L' S) Φ) : own_Go p e below T (mkF m pc L (.long v :: S)) Φ := own_by (fun t k => XS.lstoreN h hx rfl hd rfl hl k) G
theorem own_s_lstore {p : Program} {e : Env} {below : List Frame} {T : State} {m : MethodId} {c : Code} {Φ : Outcome → State → Prop} {pc : Nat} {L : Array Slot} {S : List Value} (h : At T m c below) (hx : p.tables.exec = Jvm.exec) {i : Nat} {v : Int64} (L' : Array Slot) (hd : decode c.code pc = .ok (.lstore i, 2)) (hl : storeLocals L i (.long v) = some L') (G : own_Go p e below T (mkF m (pc + 2) L' S) Φ) : own_Go p e below T (mkF m pc L (.long v :: S)) Φ := own_by (fun t k => XS.lstore h hx rfl hd rfl hl k) G
theorem own_s_astoreN {p : Program} {e : Env} {below : List Frame} {T : State} {m : MethodId} {c : Code} {Φ : Outcome → State → Prop} {pc : Nat} {L : Array Slot} {S : List Value} (h : At T m c below) (hx : p.tables.exec = Jvm.exec) {i : Fin 4} {v : Value} (L' : Array Slot) (hd : decode c.code pc = .ok (.astore_n i, 1)) (hv : v.isRef = true) (hl : storeLocals L i.val v = some L') (G : own_Go p e below T (mkF m (pc + 1) L' S) Φ) : own_Go p e below T (mkF m pc L (v :: S)) Φ := own_by (fun t k => XS.astoreN h hx rfl hd rfl hv hl k) G
theorem own_s_astore {p : Program} {e : Env} {below : List Frame} {T : State} {m : MethodId} {c : Code} {Φ : Outcome → State → Prop} {pc : Nat} {L : Array Slot} {S : List Value} (h : At T m c below) (hx : p.tables.exec = Jvm.exec) {i : Nat} {v : Value} (L' : Array Slot) (hd : decode c.code pc = .ok (.astore i, 2)) (hv : v.isRef = true) (hl : storeLocals L i v = some L') (G : own_Go p e below T (mkF m (pc + 2) L' S) Φ) : own_Go p e below T (mkF m pc L (v :: S)) Φ := own_by (fun t k => XS.astore h hx rfl hd rfl hv hl k) G
theorem own_s_iconst {p : Program} {e : Env} {below : List Frame} {T : State} {m : MethodId} {c : Code} {Φ : Outcome → State → Prop} {pc : Nat} {L : Array Slot} {S : List Value} (h : At T m c below) (hx : p.tables.exec = Jvm.exec) {i : Int} (v : Int32) (hd : decode c.code pc = .ok (.iconst i, 1)) (hv : Int32.ofInt i = v) (G : own_Go p e below T (mkF m (pc + 1) L (.int v :: S)) Φ) : own_Go p e below T (mkF m pc L S) Φ := own_by (fun t k => XS.iconst h hx rfl hd (by rw [hv]; exact k)) G
theorem own_s_bipush {p : Program} {e : Env} {below : List Frame} {T : State} {m : MethodId} {c : Code} {Φ : Outcome → State → Prop} {pc : Nat} {L : Array Slot} {S : List Value} (h : At T m c below) (hx : p.tables.exec = Jvm.exec) {i : Int} (v : Int32) (hd : decode c.code pc = .ok (.bipush i, 2)) (hv : (Int8.ofInt i).toInt32 = v) (G : own_Go p e below T (mkF m (pc + 2) L (.int v :: S)) Φ) : own_Go p e below T (mkF m pc L S) Φ := own_by (fun t k => XS.bipush h hx rfl hd (by rw [hv]; exact k)) G
theorem own_s_sipush {p : Program} {e : Env} {below : List Frame} {T : State} {m : MethodId} {c : Code} {Φ : Outcome → State → Prop} {pc : Nat} {L : Array Slot} {S : List Value} (h : At T m c below) (hx : p.tables.exec = Jvm.exec) {i : Int} (v : Int32) (hd : decode c.code pc = .ok (.sipush i, 3)) (hv : (Int16.ofInt i).toInt32 = v) (G : own_Go p e below T (mkF m (pc + 3) L (.int v :: S)) Φ) : own_Go p e below T (mkF m pc L S) Φ := own_by (fun t k => XS.sipush h hx rfl hd (by rw [hv]; exact k)) G
theorem own_s_lconst {p : Program} {e : Env} {below : List Frame} {T : State} {m : MethodId} {c : Code} {Φ : Outcome → State → Prop} {pc : Nat} {L : Array Slot} {S : List Value} (h : At T m c below) (hx : p.tables.exec = Jvm.exec) {i : Fin 2} (v : Int64) (hd : decode c.code pc = .ok (.lconst i, 1)) (hv : Int64.ofNat i = v) (G : own_Go p e below T (mkF m (pc + 1) L (.long v :: S)) Φ) : own_Go p e below T (mkF m pc L S) Φ := own_by (fun t k => XS.lconst h hx rfl hd (by rw [hv]; exact k)) G
theorem own_s_goto {p : Program} {e : Env} {below : List Frame} {T : State} {m : MethodId} {c : Code} {Φ : Outcome → State → Prop} {pc : Nat} {L : Array Slot} {S : List Value} (h : At T m c below) (hx : p.tables.exec = Jvm.exec) {o : Int} (pc' : Nat) (hd : decode c.code pc = .ok (.goto o, 3)) (ho : 0 ≤ (pc : Int) + o) (hp : ((pc : Int) + o).toNat = pc') (G : own_Go p e below T (mkF m pc' L S) Φ) : own_Go p e below T (mkF m pc L S) Φ := own_by (fun t k => XS.goto h hx rfl rfl hd ho hp k) G
theorem own_s_ifYes {p : Program} {e : Env} {below : List Frame} {T : State} {m : MethodId} {c : Code} {Φ : Outcome → State → Prop} {pc : Nat} {L : Array Slot} {S : List Value} (h : At T m c below) (hx : p.tables.exec = Jvm.exec) {cd : ClassFile.Cond} {x : Int32} {o : Int} (pc' : Nat) (hd : decode c.code pc = .ok (.ifCond cd o, 3)) (hc : ifCond.holds cd x = true) (ho : 0 ≤ (pc : Int) + o) (hp : ((pc : Int) + o).toNat = pc') (G : own_Go p e below T (mkF m pc' L S) Φ) : own_Go p e below T (mkF m pc L (.int x :: S)) Φ := own_by (fun t k => XS.ifYes h hx rfl rfl hd rfl hc ho hp k) G
theorem own_s_ifNo {p : Program} {e : Env} {below : List Frame} {T : State} {m : MethodId} {c : Code} {Φ : Outcome → State → Prop} {pc : Nat} {L : Array Slot} {S : List Value} (h : At T m c below) (hx : p.tables.exec = Jvm.exec) {cd : ClassFile.Cond} {x : Int32} {o : Int} (hd : decode c.code pc = .ok (.ifCond cd o, 3)) (hc : ifCond.holds cd x = false) (G : own_Go p e below T (mkF m (pc + 3) L S) Φ) : own_Go p e below T (mkF m pc L (.int x :: S)) Φ := own_by (fun t k => XS.ifNo h hx rfl hd rfl hc k) G
theorem own_s_icmpYes {p : Program} {e : Env} {below : List Frame} {T : State} {m : MethodId} {c : Code} {Φ : Outcome → State → Prop} {pc : Nat} {L : Array Slot} {S : List Value} (h : At T m c below) (hx : p.tables.exec = Jvm.exec) {cd : ClassFile.Cond} {x y : Int32} {o : Int} (pc' : Nat) (hd : decode c.code pc = .ok (.if_icmp cd o, 3)) (hc : if_icmp.holds cd x y = true) (ho : 0 ≤ (pc : Int) + o) (hp : ((pc : Int) + o).toNat = pc') (G : own_Go p e below T (mkF m pc' L S) Φ) : own_Go p e below T (mkF m pc L (.int y :: .int x :: S)) Φ := own_by (fun t k => XS.icmpYes h hx rfl rfl hd rfl hc ho hp k) G
theorem own_s_icmpNo {p : Program} {e : Env} {below : List Frame} {T : State} {m : MethodId} {c : Code} {Φ : Outcome → State → Prop} {pc : Nat} {L : Array Slot} {S : List Value} (h : At T m c below) (hx : p.tables.exec = Jvm.exec) {cd : ClassFile.Cond} {x y : Int32} {o : Int} (hd : decode c.code pc = .ok (.if_icmp cd o, 3)) (hc : if_icmp.holds cd x y = false) (G : own_Go p e below T (mkF m (pc + 3) L S) Φ) : own_Go p e below T (mkF m pc L (.int y :: .int x :: S)) Φ := own_by (fun t k => XS.icmpNo h hx rfl hd rfl hc k) G
theorem own_s_lcmp {p : Program} {e : Env} {below : List Frame} {T : State} {m : MethodId} {c : Code} {Φ : Outcome → State → Prop} {pc : Nat} {L : Array Slot} {S : List Value} (h : At T m c below) (hx : p.tables.exec = Jvm.exec) {x y : Int64} (hd : decode c.code pc = .ok (.lcmp, 1)) (G : own_Go p e below T (mkF m (pc + 1) L (.int (Jvm.Free.XT.cmpL x y) :: S)) Φ) : own_Go p e below T (mkF m pc L (.long y :: .long x :: S)) Φ := own_by (fun t k => Jvm.Free.XT.lcmp h hx rfl hd rfl k) G
theorem own_s_dup {p : Program} {e : Env} {below : List Frame} {T : State} {m : MethodId} {c : Code} {Φ : Outcome → State → Prop} {pc : Nat} {L : Array Slot} {S : List Value} (h : At T m c below) (hx : p.tables.exec = Jvm.exec) {x : Value} (hd : decode c.code pc = .ok (.dup, 1)) (hc : x.category = 1) (G : own_Go p e below T (mkF m (pc + 1) L (x :: x :: S)) Φ) : own_Go p e below T (mkF m pc L (x :: S)) Φ := own_by (fun t k => XS.dup h hx rfl hd rfl hc k) G
theorem own_s_pop {p : Program} {e : Env} {below : List Frame} {T : State} {m : MethodId} {c : Code} {Φ : Outcome → State → Prop} {pc : Nat} {L : Array Slot} {S : List Value} (h : At T m c below) (hx : p.tables.exec = Jvm.exec) {x : Value} (hd : decode c.code pc = .ok (.pop, 1)) (hc : x.category = 1) (G : own_Go p e below T (mkF m (pc + 1) L S) Φ) : own_Go p e below T (mkF m pc L (x :: S)) Φ := own_by (fun t k => XS.pop h hx rfl hd rfl hc k) G

theorem own_d3_0 : decode jdk_65_method_103_code 0 = .ok (.iconst 0, 1) := by decide +kernel
theorem own_d3_1 : decode jdk_65_method_103_code 1 = .ok (.istore_n 2, 1) := by decide +kernel
theorem own_d3_2 : decode jdk_65_method_103_code 2 = .ok (.aload_n 0, 1) := by decide +kernel
theorem own_d3_3 : decode jdk_65_method_103_code 3 = .ok (.arraylength, 1) := by decide +kernel
theorem own_d3_4 : decode jdk_65_method_103_code 4 = .ok (.istore_n 3, 1) := by decide +kernel
theorem own_d3_5 : decode jdk_65_method_103_code 5 = .ok (.iload_n 2, 1) := by decide +kernel
theorem own_d3_6 : decode jdk_65_method_103_code 6 = .ok (.iload_n 3, 1) := by decide +kernel
theorem own_d3_7 : decode jdk_65_method_103_code 7 = .ok (.if_icmp .ge 13, 3) := by decide +kernel
theorem own_d3_10 : decode jdk_65_method_103_code 10 = .ok (.aload_n 0, 1) := by decide +kernel
theorem own_d3_11 : decode jdk_65_method_103_code 11 = .ok (.iload_n 2, 1) := by decide +kernel
theorem own_d3_12 : decode jdk_65_method_103_code 12 = .ok (.iload_n 1, 1) := by decide +kernel
theorem own_d3_13 : decode jdk_65_method_103_code 13 = .ok (.iastore, 1) := by decide +kernel
theorem own_d3_14 : decode jdk_65_method_103_code 14 = .ok (.iinc 2 1, 3) := by decide +kernel
theorem own_d3_17 : decode jdk_65_method_103_code 17 = .ok (.goto (-12), 3) := by decide +kernel
theorem own_d3_20 : decode jdk_65_method_103_code 20 = .ok (.return_, 1) := by decide +kernel
theorem own_pn_Arrays : plainName "java/util/Arrays" = true := by first | (simp [plainName, overriddenIn]; done) | decide +kernel
set_option maxRecDepth 65536 in
set_option maxHeartbeats 40000000 in
theorem own_fil_x {p : Program} {l : Launch} {e : Env} {s : State} {m : MethodId} {args : Array Value} {below : List Frame} {meth : Method} {c : Code} {Z : State} {a0 : Array Value} {n0 : Nat} (hx : p.tables.exec = Jvm.exec) (hZ : Z.Warmed39 s.vm) (hw : ∀ d ∈ tables_1, d.before a0 Z = true) (hby : c.code = jdk_65_method_103_code) (hml : c.maxLocals = 4) (hown : s.vm.findClass "java/util/Arrays" = some m.cls) (hnm : meth.name = "fill") (hret : meth.sig.returnType = none) (hlk : meth.locks = false) (hs : Heap) (i : Nat) (a_ : Addr) (v_ : Int32) (n : Nat) (g_ : Nat → Value) {T0 : State} {locs : List Loc} {h0 : Heap} (X0 : Stand p l e ({ frames := 0, cells := 0, slots := 0, locals := 0 } : Room) s m args below meth c T0 locs 0 0) (e0 : T0.heap = h0) (N0 : Fr n0 locs) (Z0 : n0 ≤ h0.size) (hn : n < 2147483648) (ge_a : n0 ≤ a_) (hin : i = n) (F0 : own_Av Z h0 a_ .int n (own_fl (fun _ => v_) i g_)) (F1 : Keep hs h0 [a_]) :
    own_Go p e below T0 (mkF m 5 #[.val (.ref a_), .val (.int v_), .val (.int (Int32.ofNat i)), .val (.int (Int32.ofNat n))] []) (own_Fin s (fun (v : Option Value) (h : Heap) (L : List Loc) => v = none ∧ Fr n0 L ∧ Keep hs h [a_] ∧ own_Av Z h a_ .int n (fun _ => .int v_)) 0 0) := by
  show own_Go p e below T0 (mkF m 5 #[.val (.ref a_), .val (.int v_), .val (.int (Int32.ofNat i)), .val (.int (Int32.ofNat n))] []) _
  refine own_s_iloadN X0.here hx (hb hby own_d3_5) rfl ?_
  refine own_s_iloadN X0.here hx (hb hby own_d3_6) rfl ?_
  show own_Go p e below T0 (mkF m 7 #[.val (.ref a_), .val (.int v_), .val (.int (Int32.ofNat i)), .val (.int (Int32.ofNat n))] [(.int (Int32.ofNat n)), (.int (Int32.ofNat i))]) _
  refine own_s_icmpYes X0.here hx 20 (hb hby own_d3_7) (Jvm.Free.XT.ii_ge_t ((fun q => absurd ((own_oflt (by omega) (by omega)).mp q) (by omega)))) (by decide) (by decide) ?_
  refine own_retV X0 hx hret hlk (hb hby own_d3_20) (by decide) (by decide) ?_
  rw [e0]
  exact ⟨rfl, N0, F1, F0.cong rfl (fun j hj => own_fl_in (by omega))⟩
set_option maxRecDepth 65536 in
set_option maxHeartbeats 40000000 in
theorem own_fil_t {p : Program} {l : Launch} {e : Env} {s : State} {m : MethodId} {args : Array Value} {below : List Frame} {meth : Method} {c : Code} {Z : State} {a0 : Array Value} {n0 : Nat} (hx : p.tables.exec = Jvm.exec) (hZ : Z.Warmed39 s.vm) (hw : ∀ d ∈ tables_1, d.before a0 Z = true) (hby : c.code = jdk_65_method_103_code) (hml : c.maxLocals = 4) (hown : s.vm.findClass "java/util/Arrays" = some m.cls) (hnm : meth.name = "fill") (hret : meth.sig.returnType = none) (hlk : meth.locks = false) (hs : Heap) (i : Nat) (a_ : Addr) (v_ : Int32) (n : Nat) (g_ : Nat → Value) {T0 : State} {locs : List Loc} {h0 : Heap} (X0 : Stand p l e ({ frames := 0, cells := 0, slots := 0, locals := 0 } : Room) s m args below meth c T0 locs 0 0) (e0 : T0.heap = h0) (N0 : Fr n0 locs) (Z0 : n0 ≤ h0.size) (hn : n < 2147483648) (ge_a : n0 ≤ a_) (hin : i < n) (F0 : own_Av Z h0 a_ .int n (own_fl (fun _ => v_) i g_)) (F1 : Keep hs h0 [a_]) (hnext : ∀ (T1 : State) (locs1 : List Loc) (h1 : Heap), Stand p l e ({ frames := 0, cells := 0, slots := 0, locals := 0 } : Room) s m args below meth c T1 locs1 0 0 → T1.heap = h1 → Fr n0 locs1 → n0 ≤ h1.size → own_Av Z h1 a_ .int n (own_fl (fun _ => v_) (i + 1) g_) → Keep hs h1 [a_] → own_Go p e below T1 (mkF m 5 #[.val (.ref a_), .val (.int v_), .val (.int (Int32.ofNat (i + 1))), .val (.int (Int32.ofNat n))] []) (own_Fin s (fun (v : Option Value) (h : Heap) (L : List Loc) => v = none ∧ Fr n0 L ∧ Keep hs h [a_] ∧ own_Av Z h a_ .int n (fun _ => .int v_)) 0 0)) :
    own_Go p e below T0 (mkF m 5 #[.val (.ref a_), .val (.int v_), .val (.int (Int32.ofNat i)), .val (.int (Int32.ofNat n))] []) (own_Fin s (fun (v : Option Value) (h : Heap) (L : List Loc) => v = none ∧ Fr n0 L ∧ Keep hs h [a_] ∧ own_Av Z h a_ .int n (fun _ => .int v_)) 0 0) := by
  show own_Go p e below T0 (mkF m 5 #[.val (.ref a_), .val (.int v_), .val (.int (Int32.ofNat i)), .val (.int (Int32.ofNat n))] []) _
  refine own_s_iloadN X0.here hx (hb hby own_d3_5) rfl ?_
  refine own_s_iloadN X0.here hx (hb hby own_d3_6) rfl ?_
  refine own_s_icmpNo X0.here hx (hb hby own_d3_7) (Jvm.Free.XT.ii_ge_f (((own_oflt (by omega) (by omega)).mpr hin))) ?_
  refine own_s_aloadN X0.here hx (hb hby own_d3_10) rfl rfl ?_
  refine own_s_iloadN X0.here hx (hb hby own_d3_11) rfl ?_
  refine own_s_iloadN X0.here hx (hb hby own_d3_12) rfl ?_
  obtain ⟨T1, h1, X1, e1, W1, fa1, st1⟩ := own_stI X0 hx hZ e0 F0 (k := i) (own_ix (by omega)) hin (g := (mkF m 13 #[.val (.ref a_), .val (.int v_), .val (.int (Int32.ofNat i)), .val (.int (Int32.ofNat n))] [(.int v_), (.int (Int32.ofNat i)), (.ref a_)])) rfl rfl (hb hby own_d3_13)
  have N1 := Fr.snoc X1 N0 ge_a
  have SZ1 : n0 ≤ h1.size := by rw [W1.size]; exact Z0
  have K1 := F1.wr W1 (Or.inl (List.mem_of_getElem? (i := 0) rfl))
  refine own_by st1 ?_
  show own_Go p e below T1 (mkF m 14 #[.val (.ref a_), .val (.int v_), .val (.int (Int32.ofNat i)), .val (.int (Int32.ofNat n))] []) _
  refine own_by (fun tq_ kq_ => XS.iinc X1.here hx rfl (hb hby own_d3_14) rfl (l' := #[.val (.ref a_), .val (.int v_), .val (.int ((Int32.ofNat i) + (1 : Int32))), .val (.int (Int32.ofNat n))]) rfl kq_) ?_
  show own_Go p e below T1 (mkF m 17 #[.val (.ref a_), .val (.int v_), .val (.int ((Int32.ofNat i) + (1 : Int32))), .val (.int (Int32.ofNat n))] []) _
  refine own_s_goto X1.here hx 5 (hb hby own_d3_17) (by decide) (by decide) ?_
  rw [own_ofs]
  exact hnext _ _ _ X1 e1 N1 SZ1 (fa1.cong rfl (fun j _ => own_fl_up (fun _ => v_) i g_ j)) K1
set_option maxRecDepth 65536 in
set_option maxHeartbeats 40000000 in
theorem own_fil {p : Program} {l : Launch} {e : Env} {s : State} {m : MethodId} {args : Array Value} {below : List Frame} {meth : Method} {c : Code} {Z : State} {a0 : Array Value} {n0 : Nat} (hx : p.tables.exec = Jvm.exec) (hZ : Z.Warmed39 s.vm) (hw : ∀ d ∈ tables_1, d.before a0 Z = true) (hby : c.code = jdk_65_method_103_code) (hml : c.maxLocals = 4) (hown : s.vm.findClass "java/util/Arrays" = some m.cls) (hnm : meth.name = "fill") (hret : meth.sig.returnType = none) (hlk : meth.locks = false) (hs : Heap) (a_ : Addr) (v_ : Int32) (n : Nat) (g_ : Nat → Value) (hn : n < 2147483648) (ge_a : n0 ≤ a_) : ∀ (r i : Nat) (hin : i + r = n) {T0 : State} {locs : List Loc} {h0 : Heap} (X0 : Stand p l e ({ frames := 0, cells := 0, slots := 0, locals := 0 } : Room) s m args below meth c T0 locs 0 0) (e0 : T0.heap = h0) (N0 : Fr n0 locs) (Z0 : n0 ≤ h0.size) (F0 : own_Av Z h0 a_ .int n (own_fl (fun _ => v_) i g_)) (F1 : Keep hs h0 [a_]),
    own_Go p e below T0 (mkF m 5 #[.val (.ref a_), .val (.int v_), .val (.int (Int32.ofNat i)), .val (.int (Int32.ofNat n))] []) (own_Fin s (fun (v : Option Value) (h : Heap) (L : List Loc) => v = none ∧ Fr n0 L ∧ Keep hs h [a_] ∧ own_Av Z h a_ .int n (fun _ => .int v_)) 0 0) := by
  intro r
  induction r with
  | zero =>
    intro i hin T0 locs h0 X0 e0 N0 Z0 F0 F1
    exact own_fil_x hx hZ hw hby hml hown hnm hret hlk hs i a_ v_ n g_ X0 e0 N0 Z0 hn ge_a (by omega) F0 F1
  | succ r ih =>
    intro i hin T0 locs h0 X0 e0 N0 Z0 F0 F1
    exact own_fil_t hx hZ hw hby hml hown hnm hret hlk hs i a_ v_ n g_ X0 e0 N0 Z0 hn ge_a (by omega) F0 F1 (fun T1 locs1 h1 X1 e1 N1 Z1 G0 G1 => ih (i + 1) (by omega) X1 e1 N1 Z1 G0 G1)
theorem own_ef3 (m : MethodId) (a_ : Addr) (v_ : Int32) : entryFrame m #[(.ref a_), (.int v_)] 4 = mkF m 0 #[.val (.ref a_), .val (.int v_), .unset, .unset] [] := by first | (simp [entryFrame, mkF, argsToLocals, Value.category]; done) | rfl
def own_q_own_r3 (Z : State) (a_ : Addr) (v_ : Int32) (n : Nat) (f : Nat → Value) (h0 : Heap) (n0 : Nat) (v : Option Value) (h : Heap) (L : List Loc) : Prop := v = none ∧ Fr n0 L ∧ Keep h0 h [a_] ∧ own_Av Z h a_ .int n (fun _ => .int v_)
set_option maxRecDepth 65536 in
set_option maxHeartbeats 40000000 in
theorem own_r3 (l : Launch) (Z : State) (a0 : Array Value) (hw : ∀ d ∈ tables_1, d.before a0 Z = true) (ws : List Jvm.Cond) (a_ : Addr) (v_ : Int32) (n : Nat) (f : Nat → Value) (h0 : Heap) (n0 : Nat) (Z0 : n0 ≤ h0.size) (hn : n < 2147483648) (A_a_ : own_Av Z h0 a_ .int n f) (ge_a_ : n0 ≤ a_) :
    MetFree l (⟨"java/util/Arrays", "fill", "([II)V"⟩ : MethodName) (head1 (Jvm.Cond.code (⟨"java/util/Arrays", "fill", "([II)V"⟩ : MethodName) jdk_65_method_103_code 4 none :: ws) ({ frames := 0, cells := 0, slots := 0, locals := 0 } : Room)) (fun aq Uq => aq = #[(.ref a_), (.int v_)] ∧ Z.Warmed39 Uq.vm ∧ Uq.heap = h0) (fun _ _ _ _ _ => True) (fun _ Uq oq Uq' => ∃ vq Lq, oq = .returned vq ∧ own_q_own_r3 Z a_ v_ n f h0 n0 vq Uq'.heap Lq ∧ FrameEnd Uq oq Uq' Lq ({ frames := 0, cells := 0, slots := 0, locals := 0 } : Room).cells ({ frames := 0, cells := 0, slots := 0, locals := 0 } : Room).slots) := by
  refine MetFree.of_bodySF (plainFor_of_name own_pn_Arrays) hisR ?_
  intro p e s m args below meth c T0 Bd hml0 hP hK
  obtain ⟨rfl, hZ, hh⟩ := hP
  have hx := Bd.exec
  have hby := Bd.bytes
  have hml : c.maxLocals = 4 := hml0
  have hown : s.vm.findClass "java/util/Arrays" = some m.cls := findClass_of_methodNamed Bd.named
  have hnm := (name_of_methodNamed Bd.named Bd.method).1
  have hret : meth.sig.returnType = none := Bd.returns
  have hlk : meth.locks = false := BodyLoose.notSynchronized Bd
  have X0 : Stand p l e ({ frames := 0, cells := 0, slots := 0, locals := 0 } : Room) s m #[(.ref a_), (.int v_)] below meth c T0 [] 0 0 := Stand.of_body Bd
  have e0 : T0.heap = h0 := by rw [← hh, Bd.state]; rfl
  have N0 := Fr.nil n0
  refine own_start (own_ef3 m a_ v_) (Q := fun (v : Option Value) (h : Heap) (L : List Loc) => v = none ∧ Fr n0 L ∧ Keep h0 h [a_] ∧ own_Av Z h a_ .int n (fun _ => .int v_)) (k := 0) (j := 0) ?_
  show own_Go p e below T0 (mkF m 0 #[.val (.ref a_), .val (.int v_), .unset, .unset] []) _
  have K0 := Keep.refl h0 [a_]
  refine own_s_iconst X0.here hx (0 : Int32) (hb hby own_d3_0) rfl ?_
  refine own_s_istoreN X0.here hx #[.val (.ref a_), .val (.int v_), .val (.int (0 : Int32)), .unset] (hb hby own_d3_1) rfl ?_
  refine own_s_aloadN X0.here hx (hb hby own_d3_2) rfl rfl ?_
  refine own_by (fun tq_ kq_ => own_len X0 hx hZ e0 A_a_ (z := (Int32.ofNat n)) rfl (g := (mkF m 3 #[.val (.ref a_), .val (.int v_), .val (.int (0 : Int32)), .unset] [(.ref a_)])) rfl rfl (hb hby own_d3_3) tq_ kq_) ?_
  show own_Go p e below T0 (mkF m 4 #[.val (.ref a_), .val (.int v_), .val (.int (0 : Int32)), .unset] [(.int (Int32.ofNat n))]) _
  refine own_s_istoreN X0.here hx #[.val (.ref a_), .val (.int v_), .val (.int (0 : Int32)), .val (.int (Int32.ofNat n))] (hb hby own_d3_4) rfl ?_
  show own_Go p e below T0 (mkF m 5 #[.val (.ref a_), .val (.int v_), .val (.int (Int32.ofNat 0)), .val (.int (Int32.ofNat n))] []) _
  exact own_fil hx hZ hw hby hml hown hnm hret hlk h0 a_ v_ n f hn ge_a_ n 0 (by omega) X0 e0 N0 Z0 (A_a_.cong rfl (fun j _ => own_fl0 (fun _ => v_) f j)) K0
theorem own_d2_0 : decode prog_21_method_10_code 0 = .ok (.iload_n 0, 1) := by decide +kernel
theorem own_d2_1 : decode prog_21_method_10_code 1 = .ok (.newarray .int, 2) := by decide +kernel
theorem own_d2_3 : decode prog_21_method_10_code 3 = .ok (.astore_n 1, 1) := by decide +kernel
theorem own_d2_4 : decode prog_21_method_10_code 4 = .ok (.aload_n 1, 1) := by decide +kernel
theorem own_d2_5 : decode prog_21_method_10_code 5 = .ok (.iconst 1, 1) := by decide +kernel
theorem own_d2_6 : decode prog_21_method_10_code 6 = .ok (.invokestatic 51, 3) := by decide +kernel
theorem own_d2_9 : decode prog_21_method_10_code 9 = .ok (.aload_n 1, 1) := by decide +kernel
theorem own_d2_10 : decode prog_21_method_10_code 10 = .ok (.areturn, 1) := by decide +kernel
theorem own_pn_MarkingCode : plainName "com/example/lapse/lapse/MarkingCode" = true := by first | (simp [plainName, overriddenIn]; done) | decide +kernel
theorem own_ef2 (m : MethodId) (z_ : Int32) : entryFrame m #[(.int z_)] 2 = mkF m 0 #[.val (.int z_), .unset] [] := by first | (simp [entryFrame, mkF, argsToLocals, Value.category]; done) | rfl
theorem own_pd_2 : parseMethodDescriptor "([II)V" = some ⟨[(.array .int), .int], none⟩ := by decide +kernel
def own_q_own_r2 (Z : State) (z_ : Int32) (n : Nat) (h0 : Heap) (n0 : Nat) (v : Option Value) (h : Heap) (L : List Loc) : Prop := ∃ b : Addr, v = some (.ref b) ∧ Fr n0 L ∧ n0 ≤ b ∧ h0.size ≤ b ∧ Keep h0 h [] ∧ own_Av Z h b .int n (fun _ => .int (1 : Int32))
set_option maxRecDepth 65536 in
set_option maxHeartbeats 40000000 in
theorem own_r2 (l : Launch) (Z : State) (a0 : Array Value) (hw : ∀ d ∈ tables_1, d.before a0 Z = true) (ws : List Jvm.Cond) (z_ : Int32) (n : Nat) (h0 : Heap) (n0 : Nat) (Z0 : n0 ≤ h0.size) (hz : z_.toNatClampNeg = n) (hneg : ¬ z_ < 0) (hle : n ≤ 130) :
    MetFree l (⟨"com/example/lapse/lapse/MarkingCode", "ones", "(I)[I"⟩ : MethodName) (head1 (Jvm.Cond.code (⟨"com/example/lapse/lapse/MarkingCode", "ones", "(I)[I"⟩ : MethodName) prog_21_method_10_code 2 (some (.array .int)) :: ws) ({ frames := 1, cells := 1, slots := 130, locals := 15 } : Room)) (fun aq Uq => aq = #[(.int z_)] ∧ Z.Warmed39 Uq.vm ∧ Uq.heap = h0) (fun _ _ _ _ _ => True) (fun _ Uq oq Uq' => ∃ vq Lq, oq = .returned vq ∧ own_q_own_r2 Z z_ n h0 n0 vq Uq'.heap Lq ∧ FrameEnd Uq oq Uq' Lq ({ frames := 1, cells := 1, slots := 130, locals := 15 } : Room).cells ({ frames := 1, cells := 1, slots := 130, locals := 15 } : Room).slots) := by
  refine MetFree.of_bodySF (plainFor_of_name own_pn_MarkingCode) hisR ?_
  intro p e s m args below meth c T0 Bd hml0 hP hK
  obtain ⟨rfl, hZ, hh⟩ := hP
  have hx := Bd.exec
  have hby := Bd.bytes
  have hml : c.maxLocals = 2 := hml0
  have hown : s.vm.findClass "com/example/lapse/lapse/MarkingCode" = some m.cls := findClass_of_methodNamed Bd.named
  have hnm := (name_of_methodNamed Bd.named Bd.method).1
  have hret : meth.sig.returnType = (some (.array .int)) := Bd.returns
  have hlk : meth.locks = false := BodyLoose.notSynchronized Bd
  have X0 : Stand p l e ({ frames := 1, cells := 1, slots := 130, locals := 15 } : Room) s m #[(.int z_)] below meth c T0 [] 0 0 := Stand.of_body Bd
  have e0 : T0.heap = h0 := by rw [← hh, Bd.state]; rfl
  have N0 := Fr.nil n0
  refine own_start (own_ef2 m z_) (Q := fun (v : Option Value) (h : Heap) (L : List Loc) => ∃ b : Addr, v = some (.ref b) ∧ Fr n0 L ∧ n0 ≤ b ∧ h0.size ≤ b ∧ Keep h0 h [] ∧ own_Av Z h b .int n (fun _ => .int (1 : Int32))) (k := 1) (j := 130) ?_
  show own_Go p e below T0 (mkF m 0 #[.val (.int z_), .unset] []) _
  have K0 := Keep.refl h0 []
  refine own_s_iloadN X0.here hx (hb hby own_d2_0) rfl ?_
  obtain ⟨T2, h2, k2, X2, e2, E2, A2, st2⟩ := newP X0 hx hZ (hw _ (List.mem_of_getElem? (i := 11) rfl)) e0 (g := (mkF m 1 #[.val (.int z_), .unset] [(.int z_)])) rfl (hb hby own_d2_1) rfl hneg (cap := 130) (by rw [hz]; exact hle) (by decide) (by decide) (by decide)
  obtain ⟨b2, g2⟩ : ∃ z, z = h0.size := ⟨_, rfl⟩
  rw [← g2] at A2 st2
  have ge_b2 : n0 ≤ b2 := Nat.le_trans Z0 (Nat.le_of_eq g2.symm)
  have sz_b2 : h0.size ≤ b2 := Nat.le_trans K0.1 (Nat.le_of_eq g2.symm)
  have SZ2 : n0 ≤ h2.size := Nat.le_trans Z0 E2.1
  have K2 := K0.ext E2
  have f3 : own_Av Z h2 b2 .int n (fun _ => (.int (0 : Int32))) := own_Av.ofnew A2 hz rfl
  refine own_by st2 ?_
  show own_Go p e below T2 (mkF m 3 #[.val (.int z_), .unset] [(.ref b2)]) _
  refine own_s_astoreN X2.here hx #[.val (.int z_), .val (.ref b2)] (hb hby own_d2_3) rfl rfl ?_
  refine own_s_aloadN X2.here hx (hb hby own_d2_4) rfl rfl ?_
  refine own_s_iconst X2.here hx (1 : Int32) (hb hby own_d2_5) rfl ?_
  obtain ⟨_, _, ⟨T4, L4, k4, n4⟩, -, X4, ⟨Lc4, hQ4, l4, y4, z4⟩, st4⟩ := Jvm.LawKit.callS X2 hx (y := (⟨"java/util/Arrays", "fill", "([II)V"⟩ : MethodName)) hown (mvT hZ (hw _ (List.mem_of_getElem? (i := 12) rfl))) (mvT hZ (hw _ (List.mem_of_getElem? (i := 13) rfl))) (mvT hZ (hw _ (List.mem_of_getElem? (i := 14) rfl))) (mvT hZ (hw _ (List.mem_of_getElem? (i := 15) rfl))) (by decide) (backOf (W := 0) (own_r3 l Z a0 hw [] b2 (1 : Int32) n (fun _ => (.int (0 : Int32))) h2 n0 SZ2 (by omega) f3 ge_b2) hZ (hw _ (List.mem_of_getElem? (i := 15) rfl)) (hw _ (List.mem_of_getElem? (i := 14) rfl)) (by decide) (by decide)) (g := (mkF m 6 #[.val (.int z_), .val (.ref b2)] [(.int (1 : Int32)), (.ref b2)])) rfl (by rw [hml]; rfl) (argsL := [(.ref b2), (.int (1 : Int32))]) (rest := []) (lenOf own_pd_2 rfl) rfl (by show 2 * 0 + _ ≤ _; exact Nat.le_of_eq rfl) (hb hby own_d2_6) (fun _ _ => ⟨rfl, e2, (by decide : 1 + 0 ≤ _), (by decide : 130 + 0 ≤ _)⟩)
  dsimp only [Pt.U, Pt.locs, Pt.cells, Pt.slots] at X4 l4 y4 z4 st4 hQ4
  subst l4 y4 z4
  obtain ⟨rfl, N4q, K4, fa4⟩ := hQ4
  have N4 := Fr.app N0 N4q
  have SZ4 : n0 ≤ T4.heap.size := Nat.le_trans SZ2 K4.1
  have KC4 := K2.trans K4 (allS (Or.inr sz_b2) all0)
  refine own_by st4 ?_
  show own_Go p e below T4 (mkF m 9 #[.val (.int z_), .val (.ref b2)] []) _
  refine own_s_aloadN X4.here hx (hb hby own_d2_9) rfl rfl ?_
  refine own_retA X4 hx hret hlk (hb hby own_d2_10) rfl rfl rfl (by decide) (by decide) ?_
  exact ⟨b2, rfl, N4, ge_b2, sz_b2, KC4, fa4⟩
def own_mo (x : Int32) : Int32 := ((((1 : Int64) <<< (x &&& 0x3f).toInt64) - (1 : Int64)).toInt32)
def own_U (wd : Nat → Int32) : Nat → Int32
  | 0 => 0
  | i + 1 => (if (64 : Int32) < (own_U wd i + wd i) then (0 : Int32) else own_U wd i) + wd i
def own_S (wd : Nat → Int32) (i : Nat) : Int32 := if (64 : Int32) < (own_U wd i + wd i) then (0 : Int32) else own_U wd i
def own_W (wd : Nat → Int32) : Nat → Int32
  | 0 => 0
  | i + 1 => if (64 : Int32) < (own_U wd i + wd i) then (own_W wd i + (1 : Int32)) else own_W wd i
theorem own_U1 (wd : Nat → Int32) (i : Nat) : own_U wd (i + 1) = own_S wd i + wd i := rfl
theorem own_d4_0 : decode prog_21_method_2_code 0 = .ok (.aload_n 0, 1) := by decide +kernel
theorem own_d4_1 : decode prog_21_method_2_code 1 = .ok (.invokespecial 11, 3) := by decide +kernel
theorem own_d4_4 : decode prog_21_method_2_code 4 = .ok (.aload_n 1, 1) := by decide +kernel
theorem own_d4_5 : decode prog_21_method_2_code 5 = .ok (.arraylength, 1) := by decide +kernel
theorem own_d4_6 : decode prog_21_method_2_code 6 = .ok (.istore_n 2, 1) := by decide +kernel
theorem own_d4_7 : decode prog_21_method_2_code 7 = .ok (.aload_n 0, 1) := by decide +kernel
theorem own_d4_8 : decode prog_21_method_2_code 8 = .ok (.iload_n 2, 1) := by decide +kernel
theorem own_d4_9 : decode prog_21_method_2_code 9 = .ok (.newarray .int, 2) := by decide +kernel
theorem own_d4_11 : decode prog_21_method_2_code 11 = .ok (.putfield 16, 3) := by decide +kernel
theorem own_d4_14 : decode prog_21_method_2_code 14 = .ok (.aload_n 0, 1) := by decide +kernel
theorem own_d4_15 : decode prog_21_method_2_code 15 = .ok (.iload_n 2, 1) := by decide +kernel
theorem own_d4_16 : decode prog_21_method_2_code 16 = .ok (.newarray .int, 2) := by decide +kernel
theorem own_d4_18 : decode prog_21_method_2_code 18 = .ok (.putfield 20, 3) := by decide +kernel
theorem own_d4_21 : decode prog_21_method_2_code 21 = .ok (.aload_n 0, 1) := by decide +kernel
theorem own_d4_22 : decode prog_21_method_2_code 22 = .ok (.iload_n 2, 1) := by decide +kernel
theorem own_d4_23 : decode prog_21_method_2_code 23 = .ok (.newarray .int, 2) := by decide +kernel
theorem own_d4_25 : decode prog_21_method_2_code 25 = .ok (.putfield 23, 3) := by decide +kernel
theorem own_d4_28 : decode prog_21_method_2_code 28 = .ok (.iconst 0, 1) := by decide +kernel
theorem own_d4_29 : decode prog_21_method_2_code 29 = .ok (.istore_n 3, 1) := by decide +kernel
theorem own_d4_30 : decode prog_21_method_2_code 30 = .ok (.iconst 0, 1) := by decide +kernel
theorem own_d4_31 : decode prog_21_method_2_code 31 = .ok (.istore 4, 2) := by decide +kernel
theorem own_d4_33 : decode prog_21_method_2_code 33 = .ok (.iconst 0, 1) := by decide +kernel
theorem own_d4_34 : decode prog_21_method_2_code 34 = .ok (.istore 5, 2) := by decide +kernel
theorem own_d4_36 : decode prog_21_method_2_code 36 = .ok (.iload 5, 2) := by decide +kernel
theorem own_d4_38 : decode prog_21_method_2_code 38 = .ok (.iload_n 2, 1) := by decide +kernel
theorem own_d4_39 : decode prog_21_method_2_code 39 = .ok (.if_icmp .ge 69, 3) := by decide +kernel
theorem own_d4_42 : decode prog_21_method_2_code 42 = .ok (.iload 4, 2) := by decide +kernel
theorem own_d4_44 : decode prog_21_method_2_code 44 = .ok (.aload_n 1, 1) := by decide +kernel
theorem own_d4_45 : decode prog_21_method_2_code 45 = .ok (.iload 5, 2) := by decide +kernel
theorem own_d4_47 : decode prog_21_method_2_code 47 = .ok (.iaload, 1) := by decide +kernel
theorem own_d4_48 : decode prog_21_method_2_code 48 = .ok (.iadd, 1) := by decide +kernel
theorem own_d4_49 : decode prog_21_method_2_code 49 = .ok (.bipush 64, 2) := by decide +kernel
theorem own_d4_51 : decode prog_21_method_2_code 51 = .ok (.if_icmp .le 9, 3) := by decide +kernel
theorem own_d4_54 : decode prog_21_method_2_code 54 = .ok (.iinc 3 1, 3) := by decide +kernel
theorem own_d4_57 : decode prog_21_method_2_code 57 = .ok (.iconst 0, 1) := by decide +kernel
theorem own_d4_58 : decode prog_21_method_2_code 58 = .ok (.istore 4, 2) := by decide +kernel
theorem own_d4_60 : decode prog_21_method_2_code 60 = .ok (.aload_n 0, 1) := by decide +kernel
theorem own_d4_61 : decode prog_21_method_2_code 61 = .ok (.getfield 16, 3) := by decide +kernel
theorem own_d4_64 : decode prog_21_method_2_code 64 = .ok (.iload 5, 2) := by decide +kernel
theorem own_d4_66 : decode prog_21_method_2_code 66 = .ok (.lconst 1, 1) := by decide +kernel
theorem own_d4_67 : decode prog_21_method_2_code 67 = .ok (.aload_n 1, 1) := by decide +kernel
theorem own_d4_68 : decode prog_21_method_2_code 68 = .ok (.iload 5, 2) := by decide +kernel
theorem own_d4_70 : decode prog_21_method_2_code 70 = .ok (.iaload, 1) := by decide +kernel
theorem own_d4_71 : decode prog_21_method_2_code 71 = .ok (.lshl, 1) := by decide +kernel
theorem own_d4_72 : decode prog_21_method_2_code 72 = .ok (.lconst 1, 1) := by decide +kernel
theorem own_d4_73 : decode prog_21_method_2_code 73 = .ok (.lsub, 1) := by decide +kernel
theorem own_d4_74 : decode prog_21_method_2_code 74 = .ok (.l2i, 1) := by decide +kernel
theorem own_d4_75 : decode prog_21_method_2_code 75 = .ok (.iastore, 1) := by decide +kernel
theorem own_d4_76 : decode prog_21_method_2_code 76 = .ok (.aload_n 0, 1) := by decide +kernel
theorem own_d4_77 : decode prog_21_method_2_code 77 = .ok (.getfield 20, 3) := by decide +kernel
theorem own_d4_80 : decode prog_21_method_2_code 80 = .ok (.iload 5, 2) := by decide +kernel
theorem own_d4_82 : decode prog_21_method_2_code 82 = .ok (.iload_n 3, 1) := by decide +kernel
theorem own_d4_83 : decode prog_21_method_2_code 83 = .ok (.iastore, 1) := by decide +kernel
theorem own_d4_84 : decode prog_21_method_2_code 84 = .ok (.aload_n 0, 1) := by decide +kernel
theorem own_d4_85 : decode prog_21_method_2_code 85 = .ok (.getfield 23, 3) := by decide +kernel
theorem own_d4_88 : decode prog_21_method_2_code 88 = .ok (.iload 5, 2) := by decide +kernel
theorem own_d4_90 : decode prog_21_method_2_code 90 = .ok (.iload 4, 2) := by decide +kernel
theorem own_d4_92 : decode prog_21_method_2_code 92 = .ok (.iastore, 1) := by decide +kernel
theorem own_d4_93 : decode prog_21_method_2_code 93 = .ok (.iload 4, 2) := by decide +kernel
theorem own_d4_95 : decode prog_21_method_2_code 95 = .ok (.aload_n 1, 1) := by decide +kernel
theorem own_d4_96 : decode prog_21_method_2_code 96 = .ok (.iload 5, 2) := by decide +kernel
theorem own_d4_98 : decode prog_21_method_2_code 98 = .ok (.iaload, 1) := by decide +kernel
theorem own_d4_99 : decode prog_21_method_2_code 99 = .ok (.iadd, 1) := by decide +kernel
theorem own_d4_100 : decode prog_21_method_2_code 100 = .ok (.istore 4, 2) := by decide +kernel
theorem own_d4_102 : decode prog_21_method_2_code 102 = .ok (.iinc 5 1, 3) := by decide +kernel
theorem own_d4_105 : decode prog_21_method_2_code 105 = .ok (.goto (-69), 3) := by decide +kernel
theorem own_d4_108 : decode prog_21_method_2_code 108 = .ok (.aload_n 0, 1) := by decide +kernel
theorem own_d4_109 : decode prog_21_method_2_code 109 = .ok (.iload_n 3, 1) := by decide +kernel
theorem own_d4_110 : decode prog_21_method_2_code 110 = .ok (.iconst 1, 1) := by decide +kernel
theorem own_d4_111 : decode prog_21_method_2_code 111 = .ok (.iadd, 1) := by decide +kernel
theorem own_d4_112 : decode prog_21_method_2_code 112 = .ok (.putfield 28, 3) := by decide +kernel
theorem own_d4_115 : decode prog_21_method_2_code 115 = .ok (.return_, 1) := by decide +kernel
set_option maxRecDepth 65536 in
set_option maxHeartbeats 40000000 in
theorem own_ini_x {p : Program} {l : Launch} {e : Env} {s : State} {m : MethodId} {args : Array Value} {below : List Frame} {meth : Method} {c : Code} {Z : State} {a0 : Array Value} {n0 : Nat} (hx : p.tables.exec = Jvm.exec) (hZ : Z.Warmed39 s.vm) (hw : ∀ d ∈ tables_1, d.before a0 Z = true) (hby : c.code = prog_21_method_2_code) (hml : c.maxLocals = 6) (hown : s.vm.findClass "com/example/lapse/lapse/MarkingCode" = some m.cls) (hnm : meth.name = "<init>") (hret : meth.sig.returnType = none) (hlk : meth.locks = false) (hs : Heap) (i : Nat) (this r1 am aw as : Addr) (n : Nat) (wd : Nat → Int32) {T0 : State} {locs : List Loc} {h0 : Heap} (X0 : Stand p l e ({ frames := 1, cells := 3, slots := 390, locals := 12 } : Room) s m args below meth c T0 locs 3 390) (e0 : T0.heap = h0) (N0 : Fr n0 locs) (Z0 : n0 ≤ h0.size) (hn : n ≤ 130) (ge_this : n0 ≤ this) (ge_am : n0 ≤ am) (ge_aw : n0 ≤ aw) (ge_as : n0 ≤ as) (sz_am : hs.size ≤ am) (sz_aw : hs.size ≤ aw) (sz_as : hs.size ≤ as) (ne_this_am : this ≠ am) (ne_this_aw : this ≠ aw) (ne_this_as : this ≠ as) (ne_r1_am : r1 ≠ am) (ne_r1_aw : r1 ≠ aw) (ne_r1_as : r1 ≠ as) (ne_am_aw : am ≠ aw) (ne_am_as : am ≠ as) (ne_aw_as : aw ≠ as) (ne_r1_this : r1 ≠ this) (hin : i = n) (F0 : Exa Z h0 this "com/example/lapse/lapse/MarkingCode") (F1 : Fld Z h0 this "com/example/lapse/lapse/MarkingCode" "most" "[I" (.ref am)) (F2 : Fld Z h0 this "com/example/lapse/lapse/MarkingCode" "words" "[I" (.ref aw)) (F3 : Fld Z h0 this "com/example/lapse/lapse/MarkingCode" "shifts" "[I" (.ref as)) (F4 : Fld Z h0 this "com/example/lapse/lapse/MarkingCode" "length" "I" (.int (0 : Int32))) (F5 : own_Av Z h0 r1 .int n (fun j => .int (wd j))) (F6 : own_Av Z h0 am .int n (own_fl (fun j => own_mo (wd j)) i (fun _ => (.int (0 : Int32))))) (F7 : own_Av Z h0 aw .int n (own_fl (fun j => own_W wd (j + 1)) i (fun _ => (.int (0 : Int32))))) (F8 : own_Av Z h0 as .int n (own_fl (own_S wd) i (fun _ => (.int (0 : Int32))))) (F9 : Keep hs h0 [this]) :
    own_Go p e below T0 (mkF m 36 #[.val (.ref this), .val (.ref r1), .val (.int (Int32.ofNat n)), .val (.int (own_W wd i)), .val (.int (own_U wd i)), .val (.int (Int32.ofNat i))] []) (own_Fin s (fun (v : Option Value) (h : Heap) (L : List Loc) => v = none ∧ Fr n0 L ∧ Keep hs h [this] ∧ ∃ am aw as : Addr, n0 ≤ am ∧ n0 ≤ aw ∧ n0 ≤ as ∧ hs.size ≤ am ∧ hs.size ≤ aw ∧ hs.size ≤ as ∧ am ≠ aw ∧ am ≠ as ∧ aw ≠ as ∧ Fld Z h this "com/example/lapse/lapse/MarkingCode" "most" "[I" (.ref am) ∧ own_Av Z h am .int n (fun j => .int ((fun j => own_mo (wd j)) j)) ∧ Fld Z h this "com/example/lapse/lapse/MarkingCode" "words" "[I" (.ref aw) ∧ own_Av Z h aw .int n (fun j => .int ((fun j => own_W wd (j + 1)) j)) ∧ Fld Z h this "com/example/lapse/lapse/MarkingCode" "shifts" "[I" (.ref as) ∧ own_Av Z h as .int n (fun j => .int ((own_S wd) j)) ∧ Fld Z h this "com/example/lapse/lapse/MarkingCode" "length" "I" (.int (own_W wd n + (1 : Int32)))) 3 390) := by
  show own_Go p e below T0 (mkF m 36 #[.val (.ref this), .val (.ref r1), .val (.int (Int32.ofNat n)), .val (.int (own_W wd i)), .val (.int (own_U wd i)), .val (.int (Int32.ofNat i))] []) _
  refine own_s_iload X0.here hx (hb hby own_d4_36) rfl ?_
  refine own_s_iloadN X0.here hx (hb hby own_d4_38) rfl ?_
  show own_Go p e below T0 (mkF m 39 #[.val (.ref this), .val (.ref r1), .val (.int (Int32.ofNat n)), .val (.int (own_W wd i)), .val (.int (own_U wd i)), .val (.int (Int32.ofNat i))] [(.int (Int32.ofNat n)), (.int (Int32.ofNat i))]) _
  refine own_s_icmpYes X0.here hx 108 (hb hby own_d4_39) (Jvm.Free.XT.ii_ge_t ((fun q => absurd ((own_oflt (by omega) (by omega)).mp q) (by omega)))) (by decide) (by decide) ?_
  refine own_s_aloadN X0.here hx (hb hby own_d4_108) rfl rfl ?_
  refine own_s_iloadN X0.here hx (hb hby own_d4_109) rfl ?_
  refine own_s_iconst X0.here hx (1 : Int32) (hb hby own_d4_110) rfl ?_
  refine own_s_iadd X0.here hx (hb hby own_d4_111) ?_
  obtain ⟨T5, h5, X5, e5, W5, st5⟩ := putF X0 hx hZ hown (host := "") (Or.inl (hw _ (List.mem_of_getElem? (i := 28) rfl))) Via.refl e0 F4 F0 (Or.inr ⟨(hw _ (List.mem_of_getElem? (i := 29) rfl)), rfl, hnm⟩) (hw _ (List.mem_of_getElem? (i := 3) rfl)) (ty := .int) (by decide) rfl rfl (g := (mkF m 112 #[.val (.ref this), .val (.ref r1), .val (.int (Int32.ofNat n)), .val (.int (own_W wd i)), .val (.int (own_U wd i)), .val (.int (Int32.ofNat i))] [(.int ((own_W wd i) + (1 : Int32))), (.ref this)])) rfl rfl (hb hby own_d4_112)
  have fw5 := F4.same W5
  have f6 := F0.wr W5
  have f7 := F1.other W5 (Or.inr (slot_ne (Or.inr (hw _ (List.mem_of_getElem? (i := 23) rfl))) (Or.inr (hw _ (List.mem_of_getElem? (i := 29) rfl))) (by decide) (t := (.array .int)) (t' := .int) (by decide) (by decide)))
  have f8 := F2.other W5 (Or.inr (slot_ne (Or.inr (hw _ (List.mem_of_getElem? (i := 25) rfl))) (Or.inr (hw _ (List.mem_of_getElem? (i := 29) rfl))) (by decide) (t := (.array .int)) (t' := .int) (by decide) (by decide)))
  have f9 := F3.other W5 (Or.inr (slot_ne (Or.inr (hw _ (List.mem_of_getElem? (i := 27) rfl))) (Or.inr (hw _ (List.mem_of_getElem? (i := 29) rfl))) (by decide) (t := (.array .int)) (t' := .int) (by decide) (by decide)))
  have f10 := F5.other W5 ne_r1_this
  have f11 := F6.other W5 (Ne.symm ne_this_am)
  have f12 := F7.other W5 (Ne.symm ne_this_aw)
  have f13 := F8.other W5 (Ne.symm ne_this_as)
  have N5 := Fr.snoc X5 N0 ge_this
  have SZ5 : n0 ≤ h5.size := by rw [W5.size]; exact Z0
  have K5 := F9.wr W5 (Or.inl (List.mem_of_getElem? (i := 0) rfl))
  refine own_by st5 ?_
  show own_Go p e below T5 (mkF m 115 #[.val (.ref this), .val (.ref r1), .val (.int (Int32.ofNat n)), .val (.int (own_W wd i)), .val (.int (own_U wd i)), .val (.int (Int32.ofNat i))] []) _
  refine own_retV X5 hx hret hlk (hb hby own_d4_115) (by decide) (by decide) ?_
  rw [e5]
  exact ⟨rfl, N5, K5, am, aw, as, ge_am, ge_aw, ge_as, sz_am, sz_aw, sz_as, ne_am_aw, ne_am_as, ne_aw_as, f7, f11.cong rfl (fun j hj => own_fl_in (by omega)), f8, f12.cong rfl (fun j hj => own_fl_in (by omega)), f9, f13.cong rfl (fun j hj => own_fl_in (by omega)), by rw [← hin]; exact fw5⟩
set_option maxRecDepth 65536 in
set_option maxHeartbeats 40000000 in
theorem own_ini_t {p : Program} {l : Launch} {e : Env} {s : State} {m : MethodId} {args : Array Value} {below : List Frame} {meth : Method} {c : Code} {Z : State} {a0 : Array Value} {n0 : Nat} (hx : p.tables.exec = Jvm.exec) (hZ : Z.Warmed39 s.vm) (hw : ∀ d ∈ tables_1, d.before a0 Z = true) (hby : c.code = prog_21_method_2_code) (hml : c.maxLocals = 6) (hown : s.vm.findClass "com/example/lapse/lapse/MarkingCode" = some m.cls) (hnm : meth.name = "<init>") (hret : meth.sig.returnType = none) (hlk : meth.locks = false) (hs : Heap) (i : Nat) (this r1 am aw as : Addr) (n : Nat) (wd : Nat → Int32) {T0 : State} {locs : List Loc} {h0 : Heap} (X0 : Stand p l e ({ frames := 1, cells := 3, slots := 390, locals := 12 } : Room) s m args below meth c T0 locs 3 390) (e0 : T0.heap = h0) (N0 : Fr n0 locs) (Z0 : n0 ≤ h0.size) (hn : n ≤ 130) (ge_this : n0 ≤ this) (ge_am : n0 ≤ am) (ge_aw : n0 ≤ aw) (ge_as : n0 ≤ as) (sz_am : hs.size ≤ am) (sz_aw : hs.size ≤ aw) (sz_as : hs.size ≤ as) (ne_this_am : this ≠ am) (ne_this_aw : this ≠ aw) (ne_this_as : this ≠ as) (ne_r1_am : r1 ≠ am) (ne_r1_aw : r1 ≠ aw) (ne_r1_as : r1 ≠ as) (ne_am_aw : am ≠ aw) (ne_am_as : am ≠ as) (ne_aw_as : aw ≠ as) (ne_r1_this : r1 ≠ this) (hin : i < n) (F0 : Exa Z h0 this "com/example/lapse/lapse/MarkingCode") (F1 : Fld Z h0 this "com/example/lapse/lapse/MarkingCode" "most" "[I" (.ref am)) (F2 : Fld Z h0 this "com/example/lapse/lapse/MarkingCode" "words" "[I" (.ref aw)) (F3 : Fld Z h0 this "com/example/lapse/lapse/MarkingCode" "shifts" "[I" (.ref as)) (F4 : Fld Z h0 this "com/example/lapse/lapse/MarkingCode" "length" "I" (.int (0 : Int32))) (F5 : own_Av Z h0 r1 .int n (fun j => .int (wd j))) (F6 : own_Av Z h0 am .int n (own_fl (fun j => own_mo (wd j)) i (fun _ => (.int (0 : Int32))))) (F7 : own_Av Z h0 aw .int n (own_fl (fun j => own_W wd (j + 1)) i (fun _ => (.int (0 : Int32))))) (F8 : own_Av Z h0 as .int n (own_fl (own_S wd) i (fun _ => (.int (0 : Int32))))) (F9 : Keep hs h0 [this]) (hnext : ∀ (T1 : State) (locs1 : List Loc) (h1 : Heap), Stand p l e ({ frames := 1, cells := 3, slots := 390, locals := 12 } : Room) s m args below meth c T1 locs1 3 390 → T1.heap = h1 → Fr n0 locs1 → n0 ≤ h1.size → Exa Z h1 this "com/example/lapse/lapse/MarkingCode" → Fld Z h1 this "com/example/lapse/lapse/MarkingCode" "most" "[I" (.ref am) → Fld Z h1 this "com/example/lapse/lapse/MarkingCode" "words" "[I" (.ref aw) → Fld Z h1 this "com/example/lapse/lapse/MarkingCode" "shifts" "[I" (.ref as) → Fld Z h1 this "com/example/lapse/lapse/MarkingCode" "length" "I" (.int (0 : Int32)) → own_Av Z h1 r1 .int n (fun j => .int (wd j)) → own_Av Z h1 am .int n (own_fl (fun j => own_mo (wd j)) (i + 1) (fun _ => (.int (0 : Int32)))) → own_Av Z h1 aw .int n (own_fl (fun j => own_W wd (j + 1)) (i + 1) (fun _ => (.int (0 : Int32)))) → own_Av Z h1 as .int n (own_fl (own_S wd) (i + 1) (fun _ => (.int (0 : Int32)))) → Keep hs h1 [this] → own_Go p e below T1 (mkF m 36 #[.val (.ref this), .val (.ref r1), .val (.int (Int32.ofNat n)), .val (.int (own_W wd (i + 1))), .val (.int (own_U wd (i + 1))), .val (.int (Int32.ofNat (i + 1)))] []) (own_Fin s (fun (v : Option Value) (h : Heap) (L : List Loc) => v = none ∧ Fr n0 L ∧ Keep hs h [this] ∧ ∃ am aw as : Addr, n0 ≤ am ∧ n0 ≤ aw ∧ n0 ≤ as ∧ hs.size ≤ am ∧ hs.size ≤ aw ∧ hs.size ≤ as ∧ am ≠ aw ∧ am ≠ as ∧ aw ≠ as ∧ Fld Z h this "com/example/lapse/lapse/MarkingCode" "most" "[I" (.ref am) ∧ own_Av Z h am .int n (fun j => .int ((fun j => own_mo (wd j)) j)) ∧ Fld Z h this "com/example/lapse/lapse/MarkingCode" "words" "[I" (.ref aw) ∧ own_Av Z h aw .int n (fun j => .int ((fun j => own_W wd (j + 1)) j)) ∧ Fld Z h this "com/example/lapse/lapse/MarkingCode" "shifts" "[I" (.ref as) ∧ own_Av Z h as .int n (fun j => .int ((own_S wd) j)) ∧ Fld Z h this "com/example/lapse/lapse/MarkingCode" "length" "I" (.int (own_W wd n + (1 : Int32)))) 3 390)) :
    own_Go p e below T0 (mkF m 36 #[.val (.ref this), .val (.ref r1), .val (.int (Int32.ofNat n)), .val (.int (own_W wd i)), .val (.int (own_U wd i)), .val (.int (Int32.ofNat i))] []) (own_Fin s (fun (v : Option Value) (h : Heap) (L : List Loc) => v = none ∧ Fr n0 L ∧ Keep hs h [this] ∧ ∃ am aw as : Addr, n0 ≤ am ∧ n0 ≤ aw ∧ n0 ≤ as ∧ hs.size ≤ am ∧ hs.size ≤ aw ∧ hs.size ≤ as ∧ am ≠ aw ∧ am ≠ as ∧ aw ≠ as ∧ Fld Z h this "com/example/lapse/lapse/MarkingCode" "most" "[I" (.ref am) ∧ own_Av Z h am .int n (fun j => .int ((fun j => own_mo (wd j)) j)) ∧ Fld Z h this "com/example/lapse/lapse/MarkingCode" "words" "[I" (.ref aw) ∧ own_Av Z h aw .int n (fun j => .int ((fun j => own_W wd (j + 1)) j)) ∧ Fld Z h this "com/example/lapse/lapse/MarkingCode" "shifts" "[I" (.ref as) ∧ own_Av Z h as .int n (fun j => .int ((own_S wd) j)) ∧ Fld Z h this "com/example/lapse/lapse/MarkingCode" "length" "I" (.int (own_W wd n + (1 : Int32)))) 3 390) := by
  show own_Go p e below T0 (mkF m 36 #[.val (.ref this), .val (.ref r1), .val (.int (Int32.ofNat n)), .val (.int (own_W wd i)), .val (.int (own_U wd i)), .val (.int (Int32.ofNat i))] []) _
  refine own_s_iload X0.here hx (hb hby own_d4_36) rfl ?_
  refine own_s_iloadN X0.here hx (hb hby own_d4_38) rfl ?_
  refine own_s_icmpNo X0.here hx (hb hby own_d4_39) (Jvm.Free.XT.ii_ge_f (((own_oflt (by omega) (by omega)).mpr hin))) ?_
  refine own_s_iload X0.here hx (hb hby own_d4_42) rfl ?_
  refine own_s_aloadN X0.here hx (hb hby own_d4_44) rfl rfl ?_
  refine own_s_iload X0.here hx (hb hby own_d4_45) rfl ?_
  refine own_by (fun tq_ kq_ => own_ldI X0 hx hZ e0 F5 (k := i) (v := (.int (wd i))) (own_ix (by omega)) hin rfl (g := (mkF m 47 #[.val (.ref this), .val (.ref r1), .val (.int (Int32.ofNat n)), .val (.int (own_W wd i)), .val (.int (own_U wd i)), .val (.int (Int32.ofNat i))] [(.int (Int32.ofNat i)), (.ref r1), (.int (own_U wd i))])) rfl rfl (hb hby own_d4_47) tq_ kq_) ?_
  show own_Go p e below T0 (mkF m 48 #[.val (.ref this), .val (.ref r1), .val (.int (Int32.ofNat n)), .val (.int (own_W wd i)), .val (.int (own_U wd i)), .val (.int (Int32.ofNat i))] [(.int (wd i)), (.int (own_U wd i))]) _
  refine own_s_iadd X0.here hx (hb hby own_d4_48) ?_
  refine own_s_bipush X0.here hx (64 : Int32) (hb hby own_d4_49) rfl ?_
  by_cases hc51 : (64 : Int32) < ((own_U wd i) + (wd i))
  ·
    refine own_s_icmpNo X0.here hx (hb hby own_d4_51) (Jvm.Free.XT.ii_le_f hc51) ?_
    refine own_by (fun tq_ kq_ => XS.iinc X0.here hx rfl (hb hby own_d4_54) rfl (l' := #[.val (.ref this), .val (.ref r1), .val (.int (Int32.ofNat n)), .val (.int ((own_W wd i) + (1 : Int32))), .val (.int (own_U wd i)), .val (.int (Int32.ofNat i))]) rfl kq_) ?_
    show own_Go p e below T0 (mkF m 57 #[.val (.ref this), .val (.ref r1), .val (.int (Int32.ofNat n)), .val (.int ((own_W wd i) + (1 : Int32))), .val (.int (own_U wd i)), .val (.int (Int32.ofNat i))] []) _
    refine own_s_iconst X0.here hx (0 : Int32) (hb hby own_d4_57) rfl ?_
    refine own_s_istore X0.here hx #[.val (.ref this), .val (.ref r1), .val (.int (Int32.ofNat n)), .val (.int ((own_W wd i) + (1 : Int32))), .val (.int (0 : Int32)), .val (.int (Int32.ofNat i))] (hb hby own_d4_58) rfl ?_
    have ew : own_W wd (i + 1) = ((own_W wd i) + (1 : Int32)) := if_pos hc51
    have eu : own_S wd i = (0 : Int32) := if_pos hc51
    rw [← ew, ← eu]
    show own_Go p e below T0 (mkF m 60 #[.val (.ref this), .val (.ref r1), .val (.int (Int32.ofNat n)), .val (.int (own_W wd (i + 1))), .val (.int (own_S wd i)), .val (.int (Int32.ofNat i))] []) _
    refine own_s_aloadN X0.here hx (hb hby own_d4_60) rfl rfl ?_
    obtain ⟨T14, X14, e14, st14⟩ := getF X0 hx hZ hown (host := "") (Or.inl (hw _ (List.mem_of_getElem? (i := 22) rfl))) Via.refl e0 F1 (g := (mkF m 61 #[.val (.ref this), .val (.ref r1), .val (.int (Int32.ofNat n)), .val (.int (own_W wd (i + 1))), .val (.int (own_S wd i)), .val (.int (Int32.ofNat i))] [(.ref this)])) rfl rfl (hb hby own_d4_61)
    refine own_by st14 ?_
    show own_Go p e below T14 (mkF m 64 #[.val (.ref this), .val (.ref r1), .val (.int (Int32.ofNat n)), .val (.int (own_W wd (i + 1))), .val (.int (own_S wd i)), .val (.int (Int32.ofNat i))] [(.ref am)]) _
    refine own_s_iload X14.here hx (hb hby own_d4_64) rfl ?_
    refine own_s_lconst X14.here hx (1 : Int64) (hb hby own_d4_66) rfl ?_
    refine own_s_aloadN X14.here hx (hb hby own_d4_67) rfl rfl ?_
    refine own_s_iload X14.here hx (hb hby own_d4_68) rfl ?_
    refine own_by (fun tq_ kq_ => own_ldI X14 hx hZ e14 F5 (k := i) (v := (.int (wd i))) (own_ix (by omega)) hin rfl (g := (mkF m 70 #[.val (.ref this), .val (.ref r1), .val (.int (Int32.ofNat n)), .val (.int (own_W wd (i + 1))), .val (.int (own_S wd i)), .val (.int (Int32.ofNat i))] [(.int (Int32.ofNat i)), (.ref r1), (.long (1 : Int64)), (.int (Int32.ofNat i)), (.ref am)])) rfl rfl (hb hby own_d4_70) tq_ kq_) ?_
    show own_Go p e below T14 (mkF m 71 #[.val (.ref this), .val (.ref r1), .val (.int (Int32.ofNat n)), .val (.int (own_W wd (i + 1))), .val (.int (own_S wd i)), .val (.int (Int32.ofNat i))] [(.int (wd i)), (.long (1 : Int64)), (.int (Int32.ofNat i)), (.ref am)]) _
    refine own_s_lshl X14.here hx (hb hby own_d4_71) ?_
    refine own_s_lconst X14.here hx (1 : Int64) (hb hby own_d4_72) rfl ?_
    refine own_s_lsub X14.here hx (hb hby own_d4_73) ?_
    refine own_s_l2i X14.here hx (hb hby own_d4_74) ?_
    show own_Go p e below T14 (mkF m 75 #[.val (.ref this), .val (.ref r1), .val (.int (Int32.ofNat n)), .val (.int (own_W wd (i + 1))), .val (.int (own_S wd i)), .val (.int (Int32.ofNat i))] [(.int (own_mo (wd i))), (.int (Int32.ofNat i)), (.ref am)]) _
    obtain ⟨T15, h15, X15, e15, W15, fa15, st15⟩ := own_stI X14 hx hZ e14 F6 (k := i) (own_ix (by omega)) hin (g := (mkF m 75 #[.val (.ref this), .val (.ref r1), .val (.int (Int32.ofNat n)), .val (.int (own_W wd (i + 1))), .val (.int (own_S wd i)), .val (.int (Int32.ofNat i))] [(.int (own_mo (wd i))), (.int (Int32.ofNat i)), (.ref am)])) rfl rfl (hb hby own_d4_75)
    have f16 := F0.wr W15
    have f17 := F1.other W15 (Or.inl ne_this_am)
    have f18 := F2.other W15 (Or.inl ne_this_am)
    have f19 := F3.other W15 (Or.inl ne_this_am)
    have f20 := F4.other W15 (Or.inl ne_this_am)
    have f21 := F5.other W15 ne_r1_am
    have f22 := F7.other W15 (Ne.symm ne_am_aw)
    have f23 := F8.other W15 (Ne.symm ne_am_as)
    have N15 := Fr.snoc X15 N0 ge_am
    have SZ15 : n0 ≤ h15.size := by rw [W15.size]; exact Z0
    have K15 := F9.wr W15 (Or.inr sz_am)
    refine own_by st15 ?_
    show own_Go p e below T15 (mkF m 76 #[.val (.ref this), .val (.ref r1), .val (.int (Int32.ofNat n)), .val (.int (own_W wd (i + 1))), .val (.int (own_S wd i)), .val (.int (Int32.ofNat i))] []) _
    refine own_s_aloadN X15.here hx (hb hby own_d4_76) rfl rfl ?_
    obtain ⟨T24, X24, e24, st24⟩ := getF X15 hx hZ hown (host := "") (Or.inl (hw _ (List.mem_of_getElem? (i := 24) rfl))) Via.refl e15 f18 (g := (mkF m 77 #[.val (.ref this), .val (.ref r1), .val (.int (Int32.ofNat n)), .val (.int (own_W wd (i + 1))), .val (.int (own_S wd i)), .val (.int (Int32.ofNat i))] [(.ref this)])) rfl rfl (hb hby own_d4_77)
    refine own_by st24 ?_
    show own_Go p e below T24 (mkF m 80 #[.val (.ref this), .val (.ref r1), .val (.int (Int32.ofNat n)), .val (.int (own_W wd (i + 1))), .val (.int (own_S wd i)), .val (.int (Int32.ofNat i))] [(.ref aw)]) _
    refine own_s_iload X24.here hx (hb hby own_d4_80) rfl ?_
    refine own_s_iloadN X24.here hx (hb hby own_d4_82) rfl ?_
    obtain ⟨T25, h25, X25, e25, W25, fa25, st25⟩ := own_stI X24 hx hZ e24 f22 (k := i) (own_ix (by omega)) hin (g := (mkF m 83 #[.val (.ref this), .val (.ref r1), .val (.int (Int32.ofNat n)), .val (.int (own_W wd (i + 1))), .val (.int (own_S wd i)), .val (.int (Int32.ofNat i))] [(.int (own_W wd (i + 1))), (.int (Int32.ofNat i)), (.ref aw)])) rfl rfl (hb hby own_d4_83)
    have f26 := f16.wr W25
    have f27 := f17.other W25 (Or.inl ne_this_aw)
    have f28 := f18.other W25 (Or.inl ne_this_aw)
    have f29 := f19.other W25 (Or.inl ne_this_aw)
    have f30 := f20.other W25 (Or.inl ne_this_aw)
    have f31 := f21.other W25 ne_r1_aw
    have f32 := fa15.other W25 ne_am_aw
    have f33 := f23.other W25 (Ne.symm ne_aw_as)
    have N25 := Fr.snoc X25 N15 ge_aw
    have SZ25 : n0 ≤ h25.size := by rw [W25.size]; exact SZ15
    have K25 := K15.wr W25 (Or.inr sz_aw)
    refine own_by st25 ?_
    show own_Go p e below T25 (mkF m 84 #[.val (.ref this), .val (.ref r1), .val (.int (Int32.ofNat n)), .val (.int (own_W wd (i + 1))), .val (.int (own_S wd i)), .val (.int (Int32.ofNat i))] []) _
    refine own_s_aloadN X25.here hx (hb hby own_d4_84) rfl rfl ?_
    obtain ⟨T34, X34, e34, st34⟩ := getF X25 hx hZ hown (host := "") (Or.inl (hw _ (List.mem_of_getElem? (i := 26) rfl))) Via.refl e25 f29 (g := (mkF m 85 #[.val (.ref this), .val (.ref r1), .val (.int (Int32.ofNat n)), .val (.int (own_W wd (i + 1))), .val (.int (own_S wd i)), .val (.int (Int32.ofNat i))] [(.ref this)])) rfl rfl (hb hby own_d4_85)
    refine own_by st34 ?_
    show own_Go p e below T34 (mkF m 88 #[.val (.ref this), .val (.ref r1), .val (.int (Int32.ofNat n)), .val (.int (own_W wd (i + 1))), .val (.int (own_S wd i)), .val (.int (Int32.ofNat i))] [(.ref as)]) _
    refine own_s_iload X34.here hx (hb hby own_d4_88) rfl ?_
    refine own_s_iload X34.here hx (hb hby own_d4_90) rfl ?_
    obtain ⟨T35, h35, X35, e35, W35, fa35, st35⟩ := own_stI X34 hx hZ e34 f33 (k := i) (own_ix (by omega)) hin (g := (mkF m 92 #[.val (.ref this), .val (.ref r1), .val (.int (Int32.ofNat n)), .val (.int (own_W wd (i + 1))), .val (.int (own_S wd i)), .val (.int (Int32.ofNat i))] [(.int (own_S wd i)), (.int (Int32.ofNat i)), (.ref as)])) rfl rfl (hb hby own_d4_92)
    have f36 := f26.wr W35
    have f37 := f27.other W35 (Or.inl ne_this_as)
    have f38 := f28.other W35 (Or.inl ne_this_as)
    have f39 := f29.other W35 (Or.inl ne_this_as)
    have f40 := f30.other W35 (Or.inl ne_this_as)
    have f41 := f31.other W35 ne_r1_as
    have f42 := f32.other W35 ne_am_as
    have f43 := fa25.other W35 ne_aw_as
    have N35 := Fr.snoc X35 N25 ge_as
    have SZ35 : n0 ≤ h35.size := by rw [W35.size]; exact SZ25
    have K35 := K25.wr W35 (Or.inr sz_as)
    refine own_by st35 ?_
    show own_Go p e below T35 (mkF m 93 #[.val (.ref this), .val (.ref r1), .val (.int (Int32.ofNat n)), .val (.int (own_W wd (i + 1))), .val (.int (own_S wd i)), .val (.int (Int32.ofNat i))] []) _
    refine own_s_iload X35.here hx (hb hby own_d4_93) rfl ?_
    refine own_s_aloadN X35.here hx (hb hby own_d4_95) rfl rfl ?_
    refine own_s_iload X35.here hx (hb hby own_d4_96) rfl ?_
    refine own_by (fun tq_ kq_ => own_ldI X35 hx hZ e35 f41 (k := i) (v := (.int (wd i))) (own_ix (by omega)) hin rfl (g := (mkF m 98 #[.val (.ref this), .val (.ref r1), .val (.int (Int32.ofNat n)), .val (.int (own_W wd (i + 1))), .val (.int (own_S wd i)), .val (.int (Int32.ofNat i))] [(.int (Int32.ofNat i)), (.ref r1), (.int (own_S wd i))])) rfl rfl (hb hby own_d4_98) tq_ kq_) ?_
    show own_Go p e below T35 (mkF m 99 #[.val (.ref this), .val (.ref r1), .val (.int (Int32.ofNat n)), .val (.int (own_W wd (i + 1))), .val (.int (own_S wd i)), .val (.int (Int32.ofNat i))] [(.int (wd i)), (.int (own_S wd i))]) _
    refine own_s_iadd X35.here hx (hb hby own_d4_99) ?_
    refine own_s_istore X35.here hx #[.val (.ref this), .val (.ref r1), .val (.int (Int32.ofNat n)), .val (.int (own_W wd (i + 1))), .val (.int ((own_S wd i) + (wd i))), .val (.int (Int32.ofNat i))] (hb hby own_d4_100) rfl ?_
    show own_Go p e below T35 (mkF m 102 #[.val (.ref this), .val (.ref r1), .val (.int (Int32.ofNat n)), .val (.int (own_W wd (i + 1))), .val (.int (own_U wd (i + 1))), .val (.int (Int32.ofNat i))] []) _
    refine own_by (fun tq_ kq_ => XS.iinc X35.here hx rfl (hb hby own_d4_102) rfl (l' := #[.val (.ref this), .val (.ref r1), .val (.int (Int32.ofNat n)), .val (.int (own_W wd (i + 1))), .val (.int (own_U wd (i + 1))), .val (.int ((Int32.ofNat i) + (1 : Int32)))]) rfl kq_) ?_
    show own_Go p e below T35 (mkF m 105 #[.val (.ref this), .val (.ref r1), .val (.int (Int32.ofNat n)), .val (.int (own_W wd (i + 1))), .val (.int (own_U wd (i + 1))), .val (.int ((Int32.ofNat i) + (1 : Int32)))] []) _
    refine own_s_goto X35.here hx 36 (hb hby own_d4_105) (by decide) (by decide) ?_
    rw [own_ofs]
    exact hnext _ _ _ X35 e35 N35 SZ35 f36 f37 f38 f39 f40 f41 (f42.cong rfl (fun j _ => own_fl_up (fun j => own_mo (wd j)) i (fun _ => (.int (0 : Int32))) j)) (f43.cong rfl (fun j _ => own_fl_up (fun j => own_W wd (j + 1)) i (fun _ => (.int (0 : Int32))) j)) (fa35.cong rfl (fun j _ => own_fl_up (own_S wd) i (fun _ => (.int (0 : Int32))) j)) K35
  ·
    show own_Go p e below T0 (mkF m 51 #[.val (.ref this), .val (.ref r1), .val (.int (Int32.ofNat n)), .val (.int (own_W wd i)), .val (.int (own_U wd i)), .val (.int (Int32.ofNat i))] [(.int (64 : Int32)), (.int ((own_U wd i) + (wd i)))]) _
    refine own_s_icmpYes X0.here hx 60 (hb hby own_d4_51) (Jvm.Free.XT.ii_le_t hc51) (by decide) (by decide) ?_
    have ew : own_W wd (i + 1) = (own_W wd i) := if_neg hc51
    have eu : own_S wd i = (own_U wd i) := if_neg hc51
    rw [← ew, ← eu]
    show own_Go p e below T0 (mkF m 60 #[.val (.ref this), .val (.ref r1), .val (.int (Int32.ofNat n)), .val (.int (own_W wd (i + 1))), .val (.int (own_S wd i)), .val (.int (Int32.ofNat i))] []) _
    refine own_s_aloadN X0.here hx (hb hby own_d4_60) rfl rfl ?_
    obtain ⟨T44, X44, e44, st44⟩ := getF X0 hx hZ hown (host := "") (Or.inl (hw _ (List.mem_of_getElem? (i := 22) rfl))) Via.refl e0 F1 (g := (mkF m 61 #[.val (.ref this), .val (.ref r1), .val (.int (Int32.ofNat n)), .val (.int (own_W wd (i + 1))), .val (.int (own_S wd i)), .val (.int (Int32.ofNat i))] [(.ref this)])) rfl rfl (hb hby own_d4_61)
    refine own_by st44 ?_
    show own_Go p e below T44 (mkF m 64 #[.val (.ref this), .val (.ref r1), .val (.int (Int32.ofNat n)), .val (.int (own_W wd (i + 1))), .val (.int (own_S wd i)), .val (.int (Int32.ofNat i))] [(.ref am)]) _
    refine own_s_iload X44.here hx (hb hby own_d4_64) rfl ?_
    refine own_s_lconst X44.here hx (1 : Int64) (hb hby own_d4_66) rfl ?_
    refine own_s_aloadN X44.here hx (hb hby own_d4_67) rfl rfl ?_
    refine own_s_iload X44.here hx (hb hby own_d4_68) rfl ?_
    refine own_by (fun tq_ kq_ => own_ldI X44 hx hZ e44 F5 (k := i) (v := (.int (wd i))) (own_ix (by omega)) hin rfl (g := (mkF m 70 #[.val (.ref this), .val (.ref r1), .val (.int (Int32.ofNat n)), .val (.int (own_W wd (i + 1))), .val (.int (own_S wd i)), .val (.int (Int32.ofNat i))] [(.int (Int32.ofNat i)), (.ref r1), (.long (1 : Int64)), (.int (Int32.ofNat i)), (.ref am)])) rfl rfl (hb hby own_d4_70) tq_ kq_) ?_
    show own_Go p e below T44 (mkF m 71 #[.val (.ref this), .val (.ref r1), .val (.int (Int32.ofNat n)), .val (.int (own_W wd (i + 1))), .val (.int (own_S wd i)), .val (.int (Int32.ofNat i))] [(.int (wd i)), (.long (1 : Int64)), (.int (Int32.ofNat i)), (.ref am)]) _
    refine own_s_lshl X44.here hx (hb hby own_d4_71) ?_
    refine own_s_lconst X44.here hx (1 : Int64) (hb hby own_d4_72) rfl ?_
    refine own_s_lsub X44.here hx (hb hby own_d4_73) ?_
    refine own_s_l2i X44.here hx (hb hby own_d4_74) ?_
    show own_Go p e below T44 (mkF m 75 #[.val (.ref this), .val (.ref r1), .val (.int (Int32.ofNat n)), .val (.int (own_W wd (i + 1))), .val (.int (own_S wd i)), .val (.int (Int32.ofNat i))] [(.int (own_mo (wd i))), (.int (Int32.ofNat i)), (.ref am)]) _
    obtain ⟨T45, h45, X45, e45, W45, fa45, st45⟩ := own_stI X44 hx hZ e44 F6 (k := i) (own_ix (by omega)) hin (g := (mkF m 75 #[.val (.ref this), .val (.ref r1), .val (.int (Int32.ofNat n)), .val (.int (own_W wd (i + 1))), .val (.int (own_S wd i)), .val (.int (Int32.ofNat i))] [(.int (own_mo (wd i))), (.int (Int32.ofNat i)), (.ref am)])) rfl rfl (hb hby own_d4_75)
    have f46 := F0.wr W45
    have f47 := F1.other W45 (Or.inl ne_this_am)
    have f48 := F2.other W45 (Or.inl ne_this_am)
    have f49 := F3.other W45 (Or.inl ne_this_am)
    have f50 := F4.other W45 (Or.inl ne_this_am)
    have f51 := F5.other W45 ne_r1_am
    have f52 := F7.other W45 (Ne.symm ne_am_aw)
    have f53 := F8.other W45 (Ne.symm ne_am_as)
    have N45 := Fr.snoc X45 N0 ge_am
    have SZ45 : n0 ≤ h45.size := by rw [W45.size]; exact Z0
    have K45 := F9.wr W45 (Or.inr sz_am)
    refine own_by st45 ?_
    show own_Go p e below T45 (mkF m 76 #[.val (.ref this), .val (.ref r1), .val (.int (Int32.ofNat n)), .val (.int (own_W wd (i + 1))), .val (.int (own_S wd i)), .val (.int (Int32.ofNat i))] []) _
    refine own_s_aloadN X45.here hx (hb hby own_d4_76) rfl rfl ?_
    obtain ⟨T54, X54, e54, st54⟩ := getF X45 hx hZ hown (host := "") (Or.inl (hw _ (List.mem_of_getElem? (i := 24) rfl))) Via.refl e45 f48 (g := (mkF m 77 #[.val (.ref this), .val (.ref r1), .val (.int (Int32.ofNat n)), .val (.int (own_W wd (i + 1))), .val (.int (own_S wd i)), .val (.int (Int32.ofNat i))] [(.ref this)])) rfl rfl (hb hby own_d4_77)
    refine own_by st54 ?_
    show own_Go p e below T54 (mkF m 80 #[.val (.ref this), .val (.ref r1), .val (.int (Int32.ofNat n)), .val (.int (own_W wd (i + 1))), .val (.int (own_S wd i)), .val (.int (Int32.ofNat i))] [(.ref aw)]) _
    refine own_s_iload X54.here hx (hb hby own_d4_80) rfl ?_
    refine own_s_iloadN X54.here hx (hb hby own_d4_82) rfl ?_
    obtain ⟨T55, h55, X55, e55, W55, fa55, st55⟩ := own_stI X54 hx hZ e54 f52 (k := i) (own_ix (by omega)) hin (g := (mkF m 83 #[.val (.ref this), .val (.ref r1), .val (.int (Int32.ofNat n)), .val (.int (own_W wd (i + 1))), .val (.int (own_S wd i)), .val (.int (Int32.ofNat i))] [(.int (own_W wd (i + 1))), (.int (Int32.ofNat i)), (.ref aw)])) rfl rfl (hb hby own_d4_83)
    have f56 := f46.wr W55
    have f57 := f47.other W55 (Or.inl ne_this_aw)
    have f58 := f48.other W55 (Or.inl ne_this_aw)
    have f59 := f49.other W55 (Or.inl ne_this_aw)
    have f60 := f50.other W55 (Or.inl ne_this_aw)
    have f61 := f51.other W55 ne_r1_aw
    have f62 := fa45.other W55 ne_am_aw
    have f63 := f53.other W55 (Ne.symm ne_aw_as)
    have N55 := Fr.snoc X55 N45 ge_aw
    have SZ55 : n0 ≤ h55.size := by rw [W55.size]; exact SZ45
    have K55 := K45.wr W55 (Or.inr sz_aw)
    refine own_by st55 ?_
    show own_Go p e below T55 (mkF m 84 #[.val (.ref this), .val (.ref r1), .val (.int (Int32.ofNat n)), .val (.int (own_W wd (i + 1))), .val (.int (own_S wd i)), .val (.int (Int32.ofNat i))] []) _
    refine own_s_aloadN X55.here hx (hb hby own_d4_84) rfl rfl ?_
    obtain ⟨T64, X64, e64, st64⟩ := getF X55 hx hZ hown (host := "") (Or.inl (hw _ (List.mem_of_getElem? (i := 26) rfl))) Via.refl e55 f59 (g := (mkF m 85 #[.val (.ref this), .val (.ref r1), .val (.int (Int32.ofNat n)), .val (.int (own_W wd (i + 1))), .val (.int (own_S wd i)), .val (.int (Int32.ofNat i))] [(.ref this)])) rfl rfl (hb hby own_d4_85)
    refine own_by st64 ?_
    show own_Go p e below T64 (mkF m 88 #[.val (.ref this), .val (.ref r1), .val (.int (Int32.ofNat n)), .val (.int (own_W wd (i + 1))), .val (.int (own_S wd i)), .val (.int (Int32.ofNat i))] [(.ref as)]) _
    refine own_s_iload X64.here hx (hb hby own_d4_88) rfl ?_
    refine own_s_iload X64.here hx (hb hby own_d4_90) rfl ?_
    obtain ⟨T65, h65, X65, e65, W65, fa65, st65⟩ := own_stI X64 hx hZ e64 f63 (k := i) (own_ix (by omega)) hin (g := (mkF m 92 #[.val (.ref this), .val (.ref r1), .val (.int (Int32.ofNat n)), .val (.int (own_W wd (i + 1))), .val (.int (own_S wd i)), .val (.int (Int32.ofNat i))] [(.int (own_S wd i)), (.int (Int32.ofNat i)), (.ref as)])) rfl rfl (hb hby own_d4_92)
    have f66 := f56.wr W65
    have f67 := f57.other W65 (Or.inl ne_this_as)
    have f68 := f58.other W65 (Or.inl ne_this_as)
    have f69 := f59.other W65 (Or.inl ne_this_as)
    have f70 := f60.other W65 (Or.inl ne_this_as)
    have f71 := f61.other W65 ne_r1_as
    have f72 := f62.other W65 ne_am_as
    have f73 := fa55.other W65 ne_aw_as
    have N65 := Fr.snoc X65 N55 ge_as
    have SZ65 : n0 ≤ h65.size := by rw [W65.size]; exact SZ55
    have K65 := K55.wr W65 (Or.inr sz_as)
    refine own_by st65 ?_
    show own_Go p e below T65 (mkF m 93 #[.val (.ref this), .val (.ref r1), .val (.int (Int32.ofNat n)), .val (.int (own_W wd (i + 1))), .val (.int (own_S wd i)), .val (.int (Int32.ofNat i))] []) _
    refine own_s_iload X65.here hx (hb hby own_d4_93) rfl ?_
    refine own_s_aloadN X65.here hx (hb hby own_d4_95) rfl rfl ?_
    refine own_s_iload X65.here hx (hb hby own_d4_96) rfl ?_
    refine own_by (fun tq_ kq_ => own_ldI X65 hx hZ e65 f71 (k := i) (v := (.int (wd i))) (own_ix (by omega)) hin rfl (g := (mkF m 98 #[.val (.ref this), .val (.ref r1), .val (.int (Int32.ofNat n)), .val (.int (own_W wd (i + 1))), .val (.int (own_S wd i)), .val (.int (Int32.ofNat i))] [(.int (Int32.ofNat i)), (.ref r1), (.int (own_S wd i))])) rfl rfl (hb hby own_d4_98) tq_ kq_) ?_
    show own_Go p e below T65 (mkF m 99 #[.val (.ref this), .val (.ref r1), .val (.int (Int32.ofNat n)), .val (.int (own_W wd (i + 1))), .val (.int (own_S wd i)), .val (.int (Int32.ofNat i))] [(.int (wd i)), (.int (own_S wd i))]) _
    refine own_s_iadd X65.here hx (hb hby own_d4_99) ?_
    refine own_s_istore X65.here hx #[.val (.ref this), .val (.ref r1), .val (.int (Int32.ofNat n)), .val (.int (own_W wd (i + 1))), .val (.int ((own_S wd i) + (wd i))), .val (.int (Int32.ofNat i))] (hb hby own_d4_100) rfl ?_
    show own_Go p e below T65 (mkF m 102 #[.val (.ref this), .val (.ref r1), .val (.int (Int32.ofNat n)), .val (.int (own_W wd (i + 1))), .val (.int (own_U wd (i + 1))), .val (.int (Int32.ofNat i))] []) _
    refine own_by (fun tq_ kq_ => XS.iinc X65.here hx rfl (hb hby own_d4_102) rfl (l' := #[.val (.ref this), .val (.ref r1), .val (.int (Int32.ofNat n)), .val (.int (own_W wd (i + 1))), .val (.int (own_U wd (i + 1))), .val (.int ((Int32.ofNat i) + (1 : Int32)))]) rfl kq_) ?_
    show own_Go p e below T65 (mkF m 105 #[.val (.ref this), .val (.ref r1), .val (.int (Int32.ofNat n)), .val (.int (own_W wd (i + 1))), .val (.int (own_U wd (i + 1))), .val (.int ((Int32.ofNat i) + (1 : Int32)))] []) _
    refine own_s_goto X65.here hx 36 (hb hby own_d4_105) (by decide) (by decide) ?_
    rw [own_ofs]
    exact hnext _ _ _ X65 e65 N65 SZ65 f66 f67 f68 f69 f70 f71 (f72.cong rfl (fun j _ => own_fl_up (fun j => own_mo (wd j)) i (fun _ => (.int (0 : Int32))) j)) (f73.cong rfl (fun j _ => own_fl_up (fun j => own_W wd (j + 1)) i (fun _ => (.int (0 : Int32))) j)) (fa65.cong rfl (fun j _ => own_fl_up (own_S wd) i (fun _ => (.int (0 : Int32))) j)) K65
set_option maxRecDepth 65536 in
set_option maxHeartbeats 40000000 in
theorem own_ini {p : Program} {l : Launch} {e : Env} {s : State} {m : MethodId} {args : Array Value} {below : List Frame} {meth : Method} {c : Code} {Z : State} {a0 : Array Value} {n0 : Nat} (hx : p.tables.exec = Jvm.exec) (hZ : Z.Warmed39 s.vm) (hw : ∀ d ∈ tables_1, d.before a0 Z = true) (hby : c.code = prog_21_method_2_code) (hml : c.maxLocals = 6) (hown : s.vm.findClass "com/example/lapse/lapse/MarkingCode" = some m.cls) (hnm : meth.name = "<init>") (hret : meth.sig.returnType = none) (hlk : meth.locks = false) (hs : Heap) (this r1 am aw as : Addr) (n : Nat) (wd : Nat → Int32) (hn : n ≤ 130) (ge_this : n0 ≤ this) (ge_am : n0 ≤ am) (ge_aw : n0 ≤ aw) (ge_as : n0 ≤ as) (sz_am : hs.size ≤ am) (sz_aw : hs.size ≤ aw) (sz_as : hs.size ≤ as) (ne_this_am : this ≠ am) (ne_this_aw : this ≠ aw) (ne_this_as : this ≠ as) (ne_r1_am : r1 ≠ am) (ne_r1_aw : r1 ≠ aw) (ne_r1_as : r1 ≠ as) (ne_am_aw : am ≠ aw) (ne_am_as : am ≠ as) (ne_aw_as : aw ≠ as) (ne_r1_this : r1 ≠ this) : ∀ (r i : Nat) (hin : i + r = n) {T0 : State} {locs : List Loc} {h0 : Heap} (X0 : Stand p l e ({ frames := 1, cells := 3, slots := 390, locals := 12 } : Room) s m args below meth c T0 locs 3 390) (e0 : T0.heap = h0) (N0 : Fr n0 locs) (Z0 : n0 ≤ h0.size) (F0 : Exa Z h0 this "com/example/lapse/lapse/MarkingCode") (F1 : Fld Z h0 this "com/example/lapse/lapse/MarkingCode" "most" "[I" (.ref am)) (F2 : Fld Z h0 this "com/example/lapse/lapse/MarkingCode" "words" "[I" (.ref aw)) (F3 : Fld Z h0 this "com/example/lapse/lapse/MarkingCode" "shifts" "[I" (.ref as)) (F4 : Fld Z h0 this "com/example/lapse/lapse/MarkingCode" "length" "I" (.int (0 : Int32))) (F5 : own_Av Z h0 r1 .int n (fun j => .int (wd j))) (F6 : own_Av Z h0 am .int n (own_fl (fun j => own_mo (wd j)) i (fun _ => (.int (0 : Int32))))) (F7 : own_Av Z h0 aw .int n (own_fl (fun j => own_W wd (j + 1)) i (fun _ => (.int (0 : Int32))))) (F8 : own_Av Z h0 as .int n (own_fl (own_S wd) i (fun _ => (.int (0 : Int32))))) (F9 : Keep hs h0 [this]),
    own_Go p e below T0 (mkF m 36 #[.val (.ref this), .val (.ref r1), .val (.int (Int32.ofNat n)), .val (.int (own_W wd i)), .val (.int (own_U wd i)), .val (.int (Int32.ofNat i))] []) (own_Fin s (fun (v : Option Value) (h : Heap) (L : List Loc) => v = none ∧ Fr n0 L ∧ Keep hs h [this] ∧ ∃ am aw as : Addr, n0 ≤ am ∧ n0 ≤ aw ∧ n0 ≤ as ∧ hs.size ≤ am ∧ hs.size ≤ aw ∧ hs.size ≤ as ∧ am ≠ aw ∧ am ≠ as ∧ aw ≠ as ∧ Fld Z h this "com/example/lapse/lapse/MarkingCode" "most" "[I" (.ref am) ∧ own_Av Z h am .int n (fun j => .int ((fun j => own_mo (wd j)) j)) ∧ Fld Z h this "com/example/lapse/lapse/MarkingCode" "words" "[I" (.ref aw) ∧ own_Av Z h aw .int n (fun j => .int ((fun j => own_W wd (j + 1)) j)) ∧ Fld Z h this "com/example/lapse/lapse/MarkingCode" "shifts" "[I" (.ref as) ∧ own_Av Z h as .int n (fun j => .int ((own_S wd) j)) ∧ Fld Z h this "com/example/lapse/lapse/MarkingCode" "length" "I" (.int (own_W wd n + (1 : Int32)))) 3 390) := by
  intro r
  induction r with
  | zero =>
    intro i hin T0 locs h0 X0 e0 N0 Z0 F0 F1 F2 F3 F4 F5 F6 F7 F8 F9
    exact own_ini_x hx hZ hw hby hml hown hnm hret hlk hs i this r1 am aw as n wd X0 e0 N0 Z0 hn ge_this ge_am ge_aw ge_as sz_am sz_aw sz_as ne_this_am ne_this_aw ne_this_as ne_r1_am ne_r1_aw ne_r1_as ne_am_aw ne_am_as ne_aw_as ne_r1_this (by omega) F0 F1 F2 F3 F4 F5 F6 F7 F8 F9
  | succ r ih =>
    intro i hin T0 locs h0 X0 e0 N0 Z0 F0 F1 F2 F3 F4 F5 F6 F7 F8 F9
    exact own_ini_t hx hZ hw hby hml hown hnm hret hlk hs i this r1 am aw as n wd X0 e0 N0 Z0 hn ge_this ge_am ge_aw ge_as sz_am sz_aw sz_as ne_this_am ne_this_aw ne_this_as ne_r1_am ne_r1_aw ne_r1_as ne_am_aw ne_am_as ne_aw_as ne_r1_this (by omega) F0 F1 F2 F3 F4 F5 F6 F7 F8 F9 (fun T1 locs1 h1 X1 e1 N1 Z1 G0 G1 G2 G3 G4 G5 G6 G7 G8 G9 => ih (i + 1) (by omega) X1 e1 N1 Z1 G0 G1 G2 G3 G4 G5 G6 G7 G8 G9)
theorem own_ef4 (m : MethodId) (this : Addr) (r1 : Addr) : entryFrame m #[(.ref this), (.ref r1)] 6 = mkF m 0 #[.val (.ref this), .val (.ref r1), .unset, .unset, .unset, .unset] [] := by first | (simp [entryFrame, mkF, argsToLocals, Value.category]; done) | rfl
def own_q_own_r4 (Z : State) (this : Addr) (r1 : Addr) (n : Nat) (wd : Nat → Int32) (h0 : Heap) (n0 : Nat) (v : Option Value) (h : Heap) (L : List Loc) : Prop := v = none ∧ Fr n0 L ∧ Keep h0 h [this] ∧ ∃ am aw as : Addr, n0 ≤ am ∧ n0 ≤ aw ∧ n0 ≤ as ∧ h0.size ≤ am ∧ h0.size ≤ aw ∧ h0.size ≤ as ∧ am ≠ aw ∧ am ≠ as ∧ aw ≠ as ∧ Fld Z h this "com/example/lapse/lapse/MarkingCode" "most" "[I" (.ref am) ∧ own_Av Z h am .int n (fun j => .int ((fun j => own_mo (wd j)) j)) ∧ Fld Z h this "com/example/lapse/lapse/MarkingCode" "words" "[I" (.ref aw) ∧ own_Av Z h aw .int n (fun j => .int ((fun j => own_W wd (j + 1)) j)) ∧ Fld Z h this "com/example/lapse/lapse/MarkingCode" "shifts" "[I" (.ref as) ∧ own_Av Z h as .int n (fun j => .int ((own_S wd) j)) ∧ Fld Z h this "com/example/lapse/lapse/MarkingCode" "length" "I" (.int (own_W wd n + (1 : Int32)))
set_option maxRecDepth 65536 in
set_option maxHeartbeats 40000000 in
theorem own_r4 (l : Launch) (Z : State) (a0 : Array Value) (hw : ∀ d ∈ tables_1, d.before a0 Z = true) (ws : List Jvm.Cond) (this : Addr) (r1 : Addr) (n : Nat) (wd : Nat → Int32) (h0 : Heap) (n0 : Nat) (Z0 : n0 ≤ h0.size) (hn : n ≤ 130) (E_this : Exa Z h0 this "com/example/lapse/lapse/MarkingCode") (F_this_most : Fld Z h0 this "com/example/lapse/lapse/MarkingCode" "most" "[I" .null) (F_this_words : Fld Z h0 this "com/example/lapse/lapse/MarkingCode" "words" "[I" .null) (F_this_shifts : Fld Z h0 this "com/example/lapse/lapse/MarkingCode" "shifts" "[I" .null) (F_this_length : Fld Z h0 this "com/example/lapse/lapse/MarkingCode" "length" "I" (.int (0 : Int32))) (ge_this : n0 ≤ this) (A_r1 : own_Av Z h0 r1 .int n (fun j => .int (wd j))) (ne_r1_this : r1 ≠ this) :
    MetFree l (⟨"com/example/lapse/lapse/MarkingCode", "<init>", "([I)V"⟩ : MethodName) (head1 (Jvm.Cond.code (⟨"com/example/lapse/lapse/MarkingCode", "<init>", "([I)V"⟩ : MethodName) prog_21_method_2_code 6 none :: ws) ({ frames := 1, cells := 3, slots := 390, locals := 12 } : Room)) (fun aq Uq => aq = #[(.ref this), (.ref r1)] ∧ Z.Warmed39 Uq.vm ∧ Uq.heap = h0) (fun _ _ _ _ _ => True) (fun _ Uq oq Uq' => ∃ vq Lq, oq = .returned vq ∧ own_q_own_r4 Z this r1 n wd h0 n0 vq Uq'.heap Lq ∧ FrameEnd Uq oq Uq' Lq ({ frames := 1, cells := 3, slots := 390, locals := 12 } : Room).cells ({ frames := 1, cells := 3, slots := 390, locals := 12 } : Room).slots) := by
  refine MetFree.of_bodySF (plainFor_of_name own_pn_MarkingCode) hisR ?_
  intro p e s m args below meth c T0 Bd hml0 hP hK
  obtain ⟨rfl, hZ, hh⟩ := hP
  have hx := Bd.exec
  have hby := Bd.bytes
  have hml : c.maxLocals = 6 := hml0
  have hown : s.vm.findClass "com/example/lapse/lapse/MarkingCode" = some m.cls := findClass_of_methodNamed Bd.named
  have hnm := (name_of_methodNamed Bd.named Bd.method).1
  have hret : meth.sig.returnType = none := Bd.returns
  have hlk : meth.locks = false := BodyLoose.notSynchronized Bd
  have X0 : Stand p l e ({ frames := 1, cells := 3, slots := 390, locals := 12 } : Room) s m #[(.ref this), (.ref r1)] below meth c T0 [] 0 0 := Stand.of_body Bd
  have e0 : T0.heap = h0 := by rw [← hh, Bd.state]; rfl
  have N0 := Fr.nil n0
  refine own_start (own_ef4 m this r1) (Q := fun (v : Option Value) (h : Heap) (L : List Loc) => v = none ∧ Fr n0 L ∧ Keep h0 h [this] ∧ ∃ am aw as : Addr, n0 ≤ am ∧ n0 ≤ aw ∧ n0 ≤ as ∧ h0.size ≤ am ∧ h0.size ≤ aw ∧ h0.size ≤ as ∧ am ≠ aw ∧ am ≠ as ∧ aw ≠ as ∧ Fld Z h this "com/example/lapse/lapse/MarkingCode" "most" "[I" (.ref am) ∧ own_Av Z h am .int n (fun j => .int ((fun j => own_mo (wd j)) j)) ∧ Fld Z h this "com/example/lapse/lapse/MarkingCode" "words" "[I" (.ref aw) ∧ own_Av Z h aw .int n (fun j => .int ((fun j => own_W wd (j + 1)) j)) ∧ Fld Z h this "com/example/lapse/lapse/MarkingCode" "shifts" "[I" (.ref as) ∧ own_Av Z h as .int n (fun j => .int ((own_S wd) j)) ∧ Fld Z h this "com/example/lapse/lapse/MarkingCode" "length" "I" (.int (own_W wd n + (1 : Int32)))) (k := 3) (j := 390) ?_
  show own_Go p e below T0 (mkF m 0 #[.val (.ref this), .val (.ref r1), .unset, .unset, .unset, .unset] []) _
  have K0 := Keep.refl h0 [this]
  refine own_s_aloadN X0.here hx (hb hby own_d4_0) rfl rfl ?_
  obtain ⟨T74, X74, e74, st74⟩ := initO X0 hx hZ hown (hw _ (List.mem_of_getElem? (i := 19) rfl)) (hw _ (List.mem_of_getElem? (i := 20) rfl)) (hw _ (List.mem_of_getElem? (i := 21) rfl)) e0 (g := (mkF m 1 #[.val (.ref this), .val (.ref r1), .unset, .unset, .unset, .unset] [(.ref this)])) rfl (by rw [hml]; rfl) rfl (hb hby own_d4_1) (by decide) (W := 0) (by show 2 * 0 + _ ≤ _; exact Nat.le_of_eq rfl) (by decide)
  refine own_by st74 ?_
  show own_Go p e below T74 (mkF m 4 #[.val (.ref this), .val (.ref r1), .unset, .unset, .unset, .unset] []) _
  refine own_s_aloadN X74.here hx (hb hby own_d4_4) rfl rfl ?_
  refine own_by (fun tq_ kq_ => own_len X74 hx hZ e74 A_r1 (z := (Int32.ofNat n)) rfl (g := (mkF m 5 #[.val (.ref this), .val (.ref r1), .unset, .unset, .unset, .unset] [(.ref r1)])) rfl rfl (hb hby own_d4_5) tq_ kq_) ?_
  show own_Go p e below T74 (mkF m 6 #[.val (.ref this), .val (.ref r1), .unset, .unset, .unset, .unset] [(.int (Int32.ofNat n))]) _
  refine own_s_istoreN X74.here hx #[.val (.ref this), .val (.ref r1), .val (.int (Int32.ofNat n)), .unset, .unset, .unset] (hb hby own_d4_6) rfl ?_
  refine own_s_aloadN X74.here hx (hb hby own_d4_7) rfl rfl ?_
  refine own_s_iloadN X74.here hx (hb hby own_d4_8) rfl ?_
  obtain ⟨T75, h75, k75, X75, e75, E75, A75, st75⟩ := newP X74 hx hZ (hw _ (List.mem_of_getElem? (i := 11) rfl)) e74 (g := (mkF m 9 #[.val (.ref this), .val (.ref r1), .val (.int (Int32.ofNat n)), .unset, .unset, .unset] [(.int (Int32.ofNat n)), (.ref this)])) rfl (hb hby own_d4_9) rfl ((own_ix (by omega)).1) (cap := 130) (by rw [(own_ix (by omega)).2]; exact hn) (by decide) (by decide) (by decide)
  obtain ⟨b75, g75⟩ : ∃ z, z = h0.size := ⟨_, rfl⟩
  rw [← g75] at A75 st75
  have ge_b75 : n0 ≤ b75 := Nat.le_trans Z0 (Nat.le_of_eq g75.symm)
  have sz_b75 : h0.size ≤ b75 := Nat.le_trans K0.1 (Nat.le_of_eq g75.symm)
  have ne_this_b75 : this ≠ b75 := Nat.ne_of_lt (Nat.lt_of_lt_of_le E_this.lt (Nat.le_of_eq g75.symm))
  have ne_r1_b75 : r1 ≠ b75 := Nat.ne_of_lt (Nat.lt_of_lt_of_le A_r1.lt (Nat.le_of_eq g75.symm))
  have f76 := E_this.ext E75
  have f77 := F_this_most.ext E75
  have f78 := F_this_words.ext E75
  have f79 := F_this_shifts.ext E75
  have f80 := F_this_length.ext E75
  have f81 := A_r1.ext E75
  have SZ75 : n0 ≤ h75.size := Nat.le_trans Z0 E75.1
  have K75 := K0.ext E75
  have f82 : own_Av Z h75 b75 .int n (fun _ => (.int (0 : Int32))) := own_Av.ofnew A75 ((own_ix (by omega)).2) rfl
  refine own_by st75 ?_
  show own_Go p e below T75 (mkF m 11 #[.val (.ref this), .val (.ref r1), .val (.int (Int32.ofNat n)), .unset, .unset, .unset] [(.ref b75), (.ref this)]) _
  obtain ⟨T83, h83, X83, e83, W83, st83⟩ := putF X75 hx hZ hown (host := "") (Or.inl (hw _ (List.mem_of_getElem? (i := 22) rfl))) Via.refl e75 f77 f76 (Or.inr ⟨(hw _ (List.mem_of_getElem? (i := 23) rfl)), rfl, hnm⟩) (hw _ (List.mem_of_getElem? (i := 3) rfl)) (ty := (.array .int)) (by decide) rfl rfl (g := (mkF m 11 #[.val (.ref this), .val (.ref r1), .val (.int (Int32.ofNat n)), .unset, .unset, .unset] [(.ref b75), (.ref this)])) rfl rfl (hb hby own_d4_11)
  have fw83 := f77.same W83
  have f84 := f76.wr W83
  have f85 := f78.other W83 (Or.inr (slot_ne (Or.inr (hw _ (List.mem_of_getElem? (i := 25) rfl))) (Or.inr (hw _ (List.mem_of_getElem? (i := 23) rfl))) (by decide) (t := (.array .int)) (t' := (.array .int)) (by decide) (by decide)))
  have f86 := f79.other W83 (Or.inr (slot_ne (Or.inr (hw _ (List.mem_of_getElem? (i := 27) rfl))) (Or.inr (hw _ (List.mem_of_getElem? (i := 23) rfl))) (by decide) (t := (.array .int)) (t' := (.array .int)) (by decide) (by decide)))
  have f87 := f80.other W83 (Or.inr (slot_ne (Or.inr (hw _ (List.mem_of_getElem? (i := 29) rfl))) (Or.inr (hw _ (List.mem_of_getElem? (i := 23) rfl))) (by decide) (t := .int) (t' := (.array .int)) (by decide) (by decide)))
  have f88 := f81.other W83 ne_r1_this
  have f89 := f82.other W83 (Ne.symm ne_this_b75)
  have N83 := Fr.snoc X83 N0 ge_this
  have SZ83 : n0 ≤ h83.size := by rw [W83.size]; exact SZ75
  have K83 := K75.wr W83 (Or.inl (List.mem_of_getElem? (i := 0) rfl))
  refine own_by st83 ?_
  show own_Go p e below T83 (mkF m 14 #[.val (.ref this), .val (.ref r1), .val (.int (Int32.ofNat n)), .unset, .unset, .unset] []) _
  refine own_s_aloadN X83.here hx (hb hby own_d4_14) rfl rfl ?_
  refine own_s_iloadN X83.here hx (hb hby own_d4_15) rfl ?_
  obtain ⟨T90, h90, k90, X90, e90, E90, A90, st90⟩ := newP X83 hx hZ (hw _ (List.mem_of_getElem? (i := 11) rfl)) e83 (g := (mkF m 16 #[.val (.ref this), .val (.ref r1), .val (.int (Int32.ofNat n)), .unset, .unset, .unset] [(.int (Int32.ofNat n)), (.ref this)])) rfl (hb hby own_d4_16) rfl ((own_ix (by omega)).1) (cap := 130) (by rw [(own_ix (by omega)).2]; exact hn) (by decide) (by decide) (by decide)
  obtain ⟨b90, g90⟩ : ∃ z, z = h83.size := ⟨_, rfl⟩
  rw [← g90] at A90 st90
  have ge_b90 : n0 ≤ b90 := Nat.le_trans SZ83 (Nat.le_of_eq g90.symm)
  have sz_b90 : h0.size ≤ b90 := Nat.le_trans K83.1 (Nat.le_of_eq g90.symm)
  have ne_this_b90 : this ≠ b90 := Nat.ne_of_lt (Nat.lt_of_lt_of_le f84.lt (Nat.le_of_eq g90.symm))
  have ne_r1_b90 : r1 ≠ b90 := Nat.ne_of_lt (Nat.lt_of_lt_of_le f88.lt (Nat.le_of_eq g90.symm))
  have ne_b75_b90 : b75 ≠ b90 := Nat.ne_of_lt (Nat.lt_of_lt_of_le f89.lt (Nat.le_of_eq g90.symm))
  have f91 := f84.ext E90
  have f92 := fw83.ext E90
  have f93 := f85.ext E90
  have f94 := f86.ext E90
  have f95 := f87.ext E90
  have f96 := f88.ext E90
  have f97 := f89.ext E90
  have SZ90 : n0 ≤ h90.size := Nat.le_trans SZ83 E90.1
  have K90 := K83.ext E90
  have f98 : own_Av Z h90 b90 .int n (fun _ => (.int (0 : Int32))) := own_Av.ofnew A90 ((own_ix (by omega)).2) rfl
  refine own_by st90 ?_
  show own_Go p e below T90 (mkF m 18 #[.val (.ref this), .val (.ref r1), .val (.int (Int32.ofNat n)), .unset, .unset, .unset] [(.ref b90), (.ref this)]) _
  obtain ⟨T99, h99, X99, e99, W99, st99⟩ := putF X90 hx hZ hown (host := "") (Or.inl (hw _ (List.mem_of_getElem? (i := 24) rfl))) Via.refl e90 f93 f91 (Or.inr ⟨(hw _ (List.mem_of_getElem? (i := 25) rfl)), rfl, hnm⟩) (hw _ (List.mem_of_getElem? (i := 3) rfl)) (ty := (.array .int)) (by decide) rfl rfl (g := (mkF m 18 #[.val (.ref this), .val (.ref r1), .val (.int (Int32.ofNat n)), .unset, .unset, .unset] [(.ref b90), (.ref this)])) rfl rfl (hb hby own_d4_18)
  have fw99 := f93.same W99
  have f100 := f91.wr W99
  have f101 := f92.other W99 (Or.inr (slot_ne (Or.inr (hw _ (List.mem_of_getElem? (i := 23) rfl))) (Or.inr (hw _ (List.mem_of_getElem? (i := 25) rfl))) (by decide) (t := (.array .int)) (t' := (.array .int)) (by decide) (by decide)))
  have f102 := f94.other W99 (Or.inr (slot_ne (Or.inr (hw _ (List.mem_of_getElem? (i := 27) rfl))) (Or.inr (hw _ (List.mem_of_getElem? (i := 25) rfl))) (by decide) (t := (.array .int)) (t' := (.array .int)) (by decide) (by decide)))
  have f103 := f95.other W99 (Or.inr (slot_ne (Or.inr (hw _ (List.mem_of_getElem? (i := 29) rfl))) (Or.inr (hw _ (List.mem_of_getElem? (i := 25) rfl))) (by decide) (t := .int) (t' := (.array .int)) (by decide) (by decide)))
  have f104 := f96.other W99 ne_r1_this
  have f105 := f97.other W99 (Ne.symm ne_this_b75)
  have f106 := f98.other W99 (Ne.symm ne_this_b90)
  have N99 := Fr.snoc X99 N83 ge_this
  have SZ99 : n0 ≤ h99.size := by rw [W99.size]; exact SZ90
  have K99 := K90.wr W99 (Or.inl (List.mem_of_getElem? (i := 0) rfl))
  refine own_by st99 ?_
  show own_Go p e below T99 (mkF m 21 #[.val (.ref this), .val (.ref r1), .val (.int (Int32.ofNat n)), .unset, .unset, .unset] []) _
  refine own_s_aloadN X99.here hx (hb hby own_d4_21) rfl rfl ?_
  refine own_s_iloadN X99.here hx (hb hby own_d4_22) rfl ?_
  obtain ⟨T107, h107, k107, X107, e107, E107, A107, st107⟩ := newP X99 hx hZ (hw _ (List.mem_of_getElem? (i := 11) rfl)) e99 (g := (mkF m 23 #[.val (.ref this), .val (.ref r1), .val (.int (Int32.ofNat n)), .unset, .unset, .unset] [(.int (Int32.ofNat n)), (.ref this)])) rfl (hb hby own_d4_23) rfl ((own_ix (by omega)).1) (cap := 130) (by rw [(own_ix (by omega)).2]; exact hn) (by decide) (by decide) (by decide)
  obtain ⟨b107, g107⟩ : ∃ z, z = h99.size := ⟨_, rfl⟩
  rw [← g107] at A107 st107
  have ge_b107 : n0 ≤ b107 := Nat.le_trans SZ99 (Nat.le_of_eq g107.symm)
  have sz_b107 : h0.size ≤ b107 := Nat.le_trans K99.1 (Nat.le_of_eq g107.symm)
  have ne_this_b107 : this ≠ b107 := Nat.ne_of_lt (Nat.lt_of_lt_of_le f100.lt (Nat.le_of_eq g107.symm))
  have ne_r1_b107 : r1 ≠ b107 := Nat.ne_of_lt (Nat.lt_of_lt_of_le f104.lt (Nat.le_of_eq g107.symm))
  have ne_b75_b107 : b75 ≠ b107 := Nat.ne_of_lt (Nat.lt_of_lt_of_le f105.lt (Nat.le_of_eq g107.symm))
  have ne_b90_b107 : b90 ≠ b107 := Nat.ne_of_lt (Nat.lt_of_lt_of_le f106.lt (Nat.le_of_eq g107.symm))
  have f108 := f100.ext E107
  have f109 := f101.ext E107
  have f110 := fw99.ext E107
  have f111 := f102.ext E107
  have f112 := f103.ext E107
  have f113 := f104.ext E107
  have f114 := f105.ext E107
  have f115 := f106.ext E107
  have SZ107 : n0 ≤ h107.size := Nat.le_trans SZ99 E107.1
  have K107 := K99.ext E107
  have f116 : own_Av Z h107 b107 .int n (fun _ => (.int (0 : Int32))) := own_Av.ofnew A107 ((own_ix (by omega)).2) rfl
  refine own_by st107 ?_
  show own_Go p e below T107 (mkF m 25 #[.val (.ref this), .val (.ref r1), .val (.int (Int32.ofNat n)), .unset, .unset, .unset] [(.ref b107), (.ref this)]) _
  obtain ⟨T117, h117, X117, e117, W117, st117⟩ := putF X107 hx hZ hown (host := "") (Or.inl (hw _ (List.mem_of_getElem? (i := 26) rfl))) Via.refl e107 f111 f108 (Or.inr ⟨(hw _ (List.mem_of_getElem? (i := 27) rfl)), rfl, hnm⟩) (hw _ (List.mem_of_getElem? (i := 3) rfl)) (ty := (.array .int)) (by decide) rfl rfl (g := (mkF m 25 #[.val (.ref this), .val (.ref r1), .val (.int (Int32.ofNat n)), .unset, .unset, .unset] [(.ref b107), (.ref this)])) rfl rfl (hb hby own_d4_25)
  have fw117 := f111.same W117
  have f118 := f108.wr W117
  have f119 := f109.other W117 (Or.inr (slot_ne (Or.inr (hw _ (List.mem_of_getElem? (i := 23) rfl))) (Or.inr (hw _ (List.mem_of_getElem? (i := 27) rfl))) (by decide) (t := (.array .int)) (t' := (.array .int)) (by decide) (by decide)))
  have f120 := f110.other W117 (Or.inr (slot_ne (Or.inr (hw _ (List.mem_of_getElem? (i := 25) rfl))) (Or.inr (hw _ (List.mem_of_getElem? (i := 27) rfl))) (by decide) (t := (.array .int)) (t' := (.array .int)) (by decide) (by decide)))
  have f121 := f112.other W117 (Or.inr (slot_ne (Or.inr (hw _ (List.mem_of_getElem? (i := 29) rfl))) (Or.inr (hw _ (List.mem_of_getElem? (i := 27) rfl))) (by decide) (t := .int) (t' := (.array .int)) (by decide) (by decide)))
  have f122 := f113.other W117 ne_r1_this
  have f123 := f114.other W117 (Ne.symm ne_this_b75)
  have f124 := f115.other W117 (Ne.symm ne_this_b90)
  have f125 := f116.other W117 (Ne.symm ne_this_b107)
  have N117 := Fr.snoc X117 N99 ge_this
  have SZ117 : n0 ≤ h117.size := by rw [W117.size]; exact SZ107
  have K117 := K107.wr W117 (Or.inl (List.mem_of_getElem? (i := 0) rfl))
  refine own_by st117 ?_
  show own_Go p e below T117 (mkF m 28 #[.val (.ref this), .val (.ref r1), .val (.int (Int32.ofNat n)), .unset, .unset, .unset] []) _
  refine own_s_iconst X117.here hx (0 : Int32) (hb hby own_d4_28) rfl ?_
  refine own_s_istoreN X117.here hx #[.val (.ref this), .val (.ref r1), .val (.int (Int32.ofNat n)), .val (.int (0 : Int32)), .unset, .unset] (hb hby own_d4_29) rfl ?_
  refine own_s_iconst X117.here hx (0 : Int32) (hb hby own_d4_30) rfl ?_
  refine own_s_istore X117.here hx #[.val (.ref this), .val (.ref r1), .val (.int (Int32.ofNat n)), .val (.int (0 : Int32)), .val (.int (0 : Int32)), .unset] (hb hby own_d4_31) rfl ?_
  refine own_s_iconst X117.here hx (0 : Int32) (hb hby own_d4_33) rfl ?_
  refine own_s_istore X117.here hx #[.val (.ref this), .val (.ref r1), .val (.int (Int32.ofNat n)), .val (.int (0 : Int32)), .val (.int (0 : Int32)), .val (.int (0 : Int32))] (hb hby own_d4_34) rfl ?_
  show own_Go p e below T117 (mkF m 36 #[.val (.ref this), .val (.ref r1), .val (.int (Int32.ofNat n)), .val (.int (own_W wd 0)), .val (.int (own_U wd 0)), .val (.int (Int32.ofNat 0))] []) _
  exact own_ini hx hZ hw hby hml hown hnm hret hlk h0 this r1 b75 b90 b107 n wd hn ge_this ge_b75 ge_b90 ge_b107 sz_b75 sz_b90 sz_b107 ne_this_b75 ne_this_b90 ne_this_b107 ne_r1_b75 ne_r1_b90 ne_r1_b107 ne_b75_b90 ne_b75_b107 ne_b90_b107 ne_r1_this n 0 (by omega) X117 e117 N117 SZ117 f118 f119 f120 fw117 f121 f122 (f123.cong rfl (fun j _ => own_fl0 (fun j => own_mo (wd j)) (fun _ => (.int (0 : Int32))) j)) (f124.cong rfl (fun j _ => own_fl0 (fun j => own_W wd (j + 1)) (fun _ => (.int (0 : Int32))) j)) (f125.cong rfl (fun j _ => own_fl0 (own_S wd) (fun _ => (.int (0 : Int32))) j)) K117
theorem own_d1_0 : decode prog_21_method_1_code 0 = .ok (.aload_n 0, 1) := by decide +kernel
theorem own_d1_1 : decode prog_21_method_1_code 1 = .ok (.iload_n 1, 1) := by decide +kernel
theorem own_d1_2 : decode prog_21_method_1_code 2 = .ok (.invokestatic 1, 3) := by decide +kernel
theorem own_d1_5 : decode prog_21_method_1_code 5 = .ok (.invokespecial 7, 3) := by decide +kernel
theorem own_d1_8 : decode prog_21_method_1_code 8 = .ok (.return_, 1) := by decide +kernel
theorem own_ef1 (m : MethodId) (this : Addr) (z_ : Int32) : entryFrame m #[(.ref this), (.int z_)] 2 = mkF m 0 #[.val (.ref this), .val (.int z_)] [] := by first | (simp [entryFrame, mkF, argsToLocals, Value.category]; done) | rfl
theorem own_pd_1 : parseMethodDescriptor "(I)[I" = some ⟨[.int], some (.array .int)⟩ := by decide +kernel
theorem own_pd_3 : parseMethodDescriptor "([I)V" = some ⟨[(.array .int)], none⟩ := by decide +kernel
def own_q_own_r1 (Z : State) (this : Addr) (z_ : Int32) (n : Nat) (h0 : Heap) (n0 : Nat) (v : Option Value) (h : Heap) (L : List Loc) : Prop := v = none ∧ Fr n0 L ∧ Keep h0 h [this] ∧ ∃ am aw as : Addr, n0 ≤ am ∧ n0 ≤ aw ∧ n0 ≤ as ∧ h0.size ≤ am ∧ h0.size ≤ aw ∧ h0.size ≤ as ∧ am ≠ aw ∧ am ≠ as ∧ aw ≠ as ∧ Fld Z h this "com/example/lapse/lapse/MarkingCode" "most" "[I" (.ref am) ∧ own_Av Z h am .int n (fun j => .int ((fun j => own_mo ((fun _ => (1 : Int32)) j)) j)) ∧ Fld Z h this "com/example/lapse/lapse/MarkingCode" "words" "[I" (.ref aw) ∧ own_Av Z h aw .int n (fun j => .int ((fun j => own_W (fun _ => (1 : Int32)) (j + 1)) j)) ∧ Fld Z h this "com/example/lapse/lapse/MarkingCode" "shifts" "[I" (.ref as) ∧ own_Av Z h as .int n (fun j => .int ((own_S (fun _ => (1 : Int32))) j)) ∧ Fld Z h this "com/example/lapse/lapse/MarkingCode" "length" "I" (.int (own_W (fun _ => (1 : Int32)) n + (1 : Int32)))
set_option maxRecDepth 65536 in
set_option maxHeartbeats 40000000 in
theorem own_r1 (l : Launch) (Z : State) (a0 : Array Value) (hw : ∀ d ∈ tables_1, d.before a0 Z = true) (ws : List Jvm.Cond) (this : Addr) (z_ : Int32) (n : Nat) (h0 : Heap) (n0 : Nat) (Z0 : n0 ≤ h0.size) (hz : z_.toNatClampNeg = n) (hneg : ¬ z_ < 0) (hle : n ≤ 130) (E_this : Exa Z h0 this "com/example/lapse/lapse/MarkingCode") (F_this_most : Fld Z h0 this "com/example/lapse/lapse/MarkingCode" "most" "[I" .null) (F_this_words : Fld Z h0 this "com/example/lapse/lapse/MarkingCode" "words" "[I" .null) (F_this_shifts : Fld Z h0 this "com/example/lapse/lapse/MarkingCode" "shifts" "[I" .null) (F_this_length : Fld Z h0 this "com/example/lapse/lapse/MarkingCode" "length" "I" (.int (0 : Int32))) (ge_this : n0 ≤ this) :
    MetFree l (⟨"com/example/lapse/lapse/MarkingCode", "<init>", "(I)V"⟩ : MethodName) (head1 (Jvm.Cond.code (⟨"com/example/lapse/lapse/MarkingCode", "<init>", "(I)V"⟩ : MethodName) prog_21_method_1_code 2 none :: ws) ({ frames := 2, cells := 4, slots := 520, locals := 29 } : Room)) (fun aq Uq => aq = #[(.ref this), (.int z_)] ∧ Z.Warmed39 Uq.vm ∧ Uq.heap = h0) (fun _ _ _ _ _ => True) (fun _ Uq oq Uq' => ∃ vq Lq, oq = .returned vq ∧ own_q_own_r1 Z this z_ n h0 n0 vq Uq'.heap Lq ∧ FrameEnd Uq oq Uq' Lq ({ frames := 2, cells := 4, slots := 520, locals := 29 } : Room).cells ({ frames := 2, cells := 4, slots := 520, locals := 29 } : Room).slots) := by
  refine MetFree.of_bodySF (plainFor_of_name own_pn_MarkingCode) hisR ?_
  intro p e s m args below meth c T0 Bd hml0 hP hK
  obtain ⟨rfl, hZ, hh⟩ := hP
  have hx := Bd.exec
  have hby := Bd.bytes
  have hml : c.maxLocals = 2 := hml0
  have hown : s.vm.findClass "com/example/lapse/lapse/MarkingCode" = some m.cls := findClass_of_methodNamed Bd.named
  have hnm := (name_of_methodNamed Bd.named Bd.method).1
  have hret : meth.sig.returnType = none := Bd.returns
  have hlk : meth.locks = false := BodyLoose.notSynchronized Bd
  have X0 : Stand p l e ({ frames := 2, cells := 4, slots := 520, locals := 29 } : Room) s m #[(.ref this), (.int z_)] below meth c T0 [] 0 0 := Stand.of_body Bd
  have e0 : T0.heap = h0 := by rw [← hh, Bd.state]; rfl
  have N0 := Fr.nil n0
  refine own_start (own_ef1 m this z_) (Q := fun (v : Option Value) (h : Heap) (L : List Loc) => v = none ∧ Fr n0 L ∧ Keep h0 h [this] ∧ ∃ am aw as : Addr, n0 ≤ am ∧ n0 ≤ aw ∧ n0 ≤ as ∧ h0.size ≤ am ∧ h0.size ≤ aw ∧ h0.size ≤ as ∧ am ≠ aw ∧ am ≠ as ∧ aw ≠ as ∧ Fld Z h this "com/example/lapse/lapse/MarkingCode" "most" "[I" (.ref am) ∧ own_Av Z h am .int n (fun j => .int ((fun j => own_mo ((fun _ => (1 : Int32)) j)) j)) ∧ Fld Z h this "com/example/lapse/lapse/MarkingCode" "words" "[I" (.ref aw) ∧ own_Av Z h aw .int n (fun j => .int ((fun j => own_W (fun _ => (1 : Int32)) (j + 1)) j)) ∧ Fld Z h this "com/example/lapse/lapse/MarkingCode" "shifts" "[I" (.ref as) ∧ own_Av Z h as .int n (fun j => .int ((own_S (fun _ => (1 : Int32))) j)) ∧ Fld Z h this "com/example/lapse/lapse/MarkingCode" "length" "I" (.int (own_W (fun _ => (1 : Int32)) n + (1 : Int32)))) (k := 4) (j := 520) ?_
  show own_Go p e below T0 (mkF m 0 #[.val (.ref this), .val (.int z_)] []) _
  have K0 := Keep.refl h0 [this]
  refine own_s_aloadN X0.here hx (hb hby own_d1_0) rfl rfl ?_
  refine own_s_iloadN X0.here hx (hb hby own_d1_1) rfl ?_
  obtain ⟨_, _, ⟨T126, L126, k126, n126⟩, -, X126, ⟨Lc126, hQ126, l126, y126, z126⟩, st126⟩ := Jvm.LawKit.callS X0 hx (y := (⟨"com/example/lapse/lapse/MarkingCode", "ones", "(I)[I"⟩ : MethodName)) hown (mvT hZ (hw _ (List.mem_of_getElem? (i := 8) rfl))) (mvT hZ (hw _ (List.mem_of_getElem? (i := 9) rfl))) (mvT hZ (hw _ (List.mem_of_getElem? (i := 4) rfl))) (mvT hZ (hw _ (List.mem_of_getElem? (i := 10) rfl))) (by decide) (backOf (W := 1) (own_r2 l Z a0 hw [] z_ n h0 n0 Z0 hz hneg hle) hZ (hw _ (List.mem_of_getElem? (i := 10) rfl)) (hw _ (List.mem_of_getElem? (i := 4) rfl)) (by decide) (by decide)) (g := (mkF m 2 #[.val (.ref this), .val (.int z_)] [(.int z_), (.ref this)])) rfl (by rw [hml]; rfl) (argsL := [(.int z_)]) (rest := [(.ref this)]) (lenOf own_pd_1 rfl) rfl (by show 2 * 0 + _ ≤ _; exact Nat.le_of_eq rfl) (hb hby own_d1_2) (fun _ _ => ⟨rfl, e0, (by decide : 0 + 1 ≤ _), (by decide : 0 + 130 ≤ _)⟩)
  dsimp only [Pt.U, Pt.locs, Pt.cells, Pt.slots] at X126 l126 y126 z126 st126 hQ126
  subst l126 y126 z126
  obtain ⟨bb126, rfl, N126q, gb126, zb126, K126, fa126⟩ := hQ126
  have N126 := Fr.app N0 N126q
  have f127 := E_this.keep K126
  have f128 := F_this_most.keep K126 nin0
  have f129 := F_this_words.keep K126 nin0
  have f130 := F_this_shifts.keep K126 nin0
  have f131 := F_this_length.keep K126 nin0
  have SZ126 : n0 ≤ T126.heap.size := Nat.le_trans Z0 K126.1
  have KC126 := K0.trans K126 all0
  refine own_by st126 ?_
  have sz_bb126 : h0.size ≤ bb126 := Nat.le_trans K0.1 zb126
  have ne_this_bb126 : this ≠ bb126 := Nat.ne_of_lt (Nat.lt_of_lt_of_le E_this.lt zb126)
  show own_Go p e below T126 (mkF m 5 #[.val (.ref this), .val (.int z_)] [(.ref bb126), (.ref this)]) _
  obtain ⟨_, _, ⟨T132, L132, k132, n132⟩, -, X132, ⟨Lc132, hQ132, l132, y132, z132⟩, st132⟩ := X126.specialBack hx (y := (⟨"com/example/lapse/lapse/MarkingCode", "<init>", "([I)V"⟩ : MethodName)) rfl hown (mvT hZ (hw _ (List.mem_of_getElem? (i := 16) rfl))) (mvT hZ (hw _ (List.mem_of_getElem? (i := 17) rfl))) (mvT hZ (hw _ (List.mem_of_getElem? (i := 18) rfl))) (by decide) (backOf (W := 0) (own_r4 l Z a0 hw [] this bb126 n (fun _ => (1 : Int32)) T126.heap n0 SZ126 hle f127 f128 f129 f130 f131 ge_this fa126 (Ne.symm ne_this_bb126)) hZ (hw _ (List.mem_of_getElem? (i := 18) rfl)) (hw _ (List.mem_of_getElem? (i := 4) rfl)) (by decide) (by decide)) (g := (mkF m 5 #[.val (.ref this), .val (.int z_)] [(.ref bb126), (.ref this)])) rfl (by rw [hml]; rfl) (Steps.refl _) (a := this) (argsL := [(.ref bb126)]) (rest := []) (lenOf own_pd_3 rfl) rfl (by show 2 * 0 + _ ≤ _; exact Nat.le_of_eq rfl) (hb hby own_d1_5) (fun _ _ => ⟨rfl, rfl, (by decide : 1 + 3 ≤ _), (by decide : 130 + 390 ≤ _)⟩)
  dsimp only [Pt.U, Pt.locs, Pt.cells, Pt.slots] at X132 l132 y132 z132 st132 hQ132
  subst l132 y132 z132
  obtain ⟨rfl, N132q, K132, am132, aw132, as132, gm132, gw132, gs132, zm132, zw132, zs132, nmw132, nms132, nws132, fm132, Am132, fw132, Aw132, fs132, As132, fl132⟩ := hQ132
  have N132 := Fr.app N126 N132q
  have f133 := f127.keep K132
  have f134 := fa126.keep K132 (ninS (Ne.symm ne_this_bb126) nin0)
  have SZ132 : n0 ≤ T132.heap.size := Nat.le_trans SZ126 K132.1
  have KC132 := KC126.trans K132 (allS (Or.inl (List.mem_of_getElem? (i := 0) rfl)) all0)
  refine own_by (fun t k => st132.trans k) ?_
  have sz_am132 : h0.size ≤ am132 := Nat.le_trans KC126.1 zm132
  have ne_this_am132 : this ≠ am132 := Nat.ne_of_lt (Nat.lt_of_lt_of_le f127.lt zm132)
  have ne_bb126_am132 : bb126 ≠ am132 := Nat.ne_of_lt (Nat.lt_of_lt_of_le fa126.lt zm132)
  have sz_aw132 : h0.size ≤ aw132 := Nat.le_trans KC126.1 zw132
  have ne_this_aw132 : this ≠ aw132 := Nat.ne_of_lt (Nat.lt_of_lt_of_le f127.lt zw132)
  have ne_bb126_aw132 : bb126 ≠ aw132 := Nat.ne_of_lt (Nat.lt_of_lt_of_le fa126.lt zw132)
  have sz_as132 : h0.size ≤ as132 := Nat.le_trans KC126.1 zs132
  have ne_this_as132 : this ≠ as132 := Nat.ne_of_lt (Nat.lt_of_lt_of_le f127.lt zs132)
  have ne_bb126_as132 : bb126 ≠ as132 := Nat.ne_of_lt (Nat.lt_of_lt_of_le fa126.lt zs132)
  show own_Go p e below T132 (mkF m 8 #[.val (.ref this), .val (.int z_)] []) _
  refine own_retV X132 hx hret hlk (hb hby own_d1_8) (by decide) (by decide) ?_
  exact ⟨rfl, N132, KC132, am132, aw132, as132, gm132, gw132, gs132, sz_am132, sz_aw132, sz_as132, nmw132, nms132, nws132, fm132, Am132, fw132, Aw132, fs132, As132, fl132⟩
theorem own_cf (i : Nat) (hi : i < 1000) : own_U (fun _ => (1 : Int32)) i = Int32.ofNat (if i = 0 then 0 else (i - 1) % 64 + 1) ∧ own_W (fun _ => (1 : Int32)) i = Int32.ofNat ((i - 1) / 64) := by
  induction i with
  | zero => exact ⟨rfl, rfl⟩
  | succ i ih =>
    obtain ⟨e1, e2⟩ := ih (by omega)
    rw [if_neg (by omega), show i + 1 - 1 = i from by omega]
    show (if (64 : Int32) < (own_U (fun _ => (1 : Int32)) i + (1 : Int32)) then (0 : Int32) else own_U (fun _ => (1 : Int32)) i) + (1 : Int32) = _ ∧ (if (64 : Int32) < (own_U (fun _ => (1 : Int32)) i + (1 : Int32)) then (own_W (fun _ => (1 : Int32)) i + (1 : Int32)) else own_W (fun _ => (1 : Int32)) i) = _
    rw [e1, e2, own_ofs]
    by_cases q : (64 : Int32) < Int32.ofNat ((if i = 0 then 0 else (i - 1) % 64 + 1) + 1)
    · rw [if_pos q, if_pos q]
      have q' := (own_oflt (i := 64) (by omega) (by split <;> omega)).mp q
      have hz : ¬ i = 0 := fun z => by rw [if_pos z] at q'; omega
      rw [if_neg hz] at q'
      refine ⟨?_, ?_⟩
      · rw [show i % 64 + 1 = 0 + 1 from by omega]; rfl
      · rw [own_ofs, show (i - 1) / 64 + 1 = i / 64 from by omega]
    · rw [if_neg q, if_neg q]
      have q' : ¬ 64 < (if i = 0 then 0 else (i - 1) % 64 + 1) + 1 := fun z => q ((own_oflt (i := 64) (by omega) (by split <;> omega)).mpr z)
      rw [own_ofs]
      by_cases hz : i = 0
      · subst hz; exact ⟨rfl, rfl⟩
      · rw [if_neg hz] at q' ⊢
        rw [show (i - 1) % 64 + 1 + 1 = i % 64 + 1 from by omega, show (i - 1) / 64 = i / 64 from by omega]
        exact ⟨rfl, rfl⟩
theorem own_cfS (i : Nat) (hi : i < 999) : own_S (fun _ => (1 : Int32)) i = Int32.ofNat (i % 64) := by
  have e := own_U1 (fun _ => (1 : Int32)) i
  rw [(own_cf (i + 1) (by omega)).1, if_neg (by omega), show i + 1 - 1 = i from by omega, ← own_ofs] at e
  exact (Int32.add_left_inj (1 : Int32)).mp e.symm
theorem own_cfW (i : Nat) (hi : i < 999) : own_W (fun _ => (1 : Int32)) (i + 1) = Int32.ofNat (i / 64) := by
  rw [(own_cf (i + 1) (by omega)).2, show i + 1 - 1 = i from by omega]
theorem own_cfL (n : Nat) (hn : n < 999) : own_W (fun _ => (1 : Int32)) n + (1 : Int32) = Int32.ofNat ((n - 1) / 64 + 1) := by
  rw [(own_cf n (by omega)).2, own_ofs]
theorem own_mo1 : own_mo (1 : Int32) = (1 : Int32) := by decide
theorem own_ix2 {o w : Nat} (h : o + w < 2147483648) : own_At (Int32.ofNat o + Int32.ofNat w) (o + w) := by
  rw [← Int32.ofNat_add]; exact own_ix h
def own_tm (mv : Nat → Int64) (j : Nat) : Int64 := (mv j <<< ((Int32.ofNat (j % 64)) &&& 0x3f).toInt64)
def own_ac (mv : Nat → Int64) (lo : Nat) : Nat → Int64
  | 0 => 0
  | k + 1 => own_ac mv lo k ||| own_tm mv (lo + k)
def own_wv (mv : Nat → Int64) (n w : Nat) : Int64 := own_ac mv (64 * w) (min n (64 * (w + 1)) - 64 * w)
def own_gw (g : Nat → Value) (o : Nat) (wv : Nat → Int64) : Nat → Nat → Value
  | 0 => g
  | w + 1 => own_upd (own_gw g o wv w) (o + w) (.long (wv w))
theorem own_d6_0 : decode prog_21_method_6_code 0 = .ok (.iconst 0, 1) := by decide +kernel
theorem own_d6_1 : decode prog_21_method_6_code 1 = .ok (.istore 4, 2) := by decide +kernel
theorem own_d6_3 : decode prog_21_method_6_code 3 = .ok (.iconst 0, 1) := by decide +kernel
theorem own_d6_4 : decode prog_21_method_6_code 4 = .ok (.istore 5, 2) := by decide +kernel
theorem own_d6_6 : decode prog_21_method_6_code 6 = .ok (.iload 5, 2) := by decide +kernel
theorem own_d6_8 : decode prog_21_method_6_code 8 = .ok (.aload_n 0, 1) := by decide +kernel
theorem own_d6_9 : decode prog_21_method_6_code 9 = .ok (.getfield 28, 3) := by decide +kernel
theorem own_d6_12 : decode prog_21_method_6_code 12 = .ok (.if_icmp .ge 65, 3) := by decide +kernel
theorem own_d6_15 : decode prog_21_method_6_code 15 = .ok (.lconst 0, 1) := by decide +kernel
theorem own_d6_16 : decode prog_21_method_6_code 16 = .ok (.lstore 6, 2) := by decide +kernel
theorem own_d6_18 : decode prog_21_method_6_code 18 = .ok (.iload 4, 2) := by decide +kernel
theorem own_d6_20 : decode prog_21_method_6_code 20 = .ok (.aload_n 0, 1) := by decide +kernel
theorem own_d6_21 : decode prog_21_method_6_code 21 = .ok (.getfield 16, 3) := by decide +kernel
theorem own_d6_24 : decode prog_21_method_6_code 24 = .ok (.arraylength, 1) := by decide +kernel
theorem own_d6_25 : decode prog_21_method_6_code 25 = .ok (.if_icmp .ge 38, 3) := by decide +kernel
theorem own_d6_28 : decode prog_21_method_6_code 28 = .ok (.aload_n 0, 1) := by decide +kernel
theorem own_d6_29 : decode prog_21_method_6_code 29 = .ok (.getfield 20, 3) := by decide +kernel
theorem own_d6_32 : decode prog_21_method_6_code 32 = .ok (.iload 4, 2) := by decide +kernel
theorem own_d6_34 : decode prog_21_method_6_code 34 = .ok (.iaload, 1) := by decide +kernel
theorem own_d6_35 : decode prog_21_method_6_code 35 = .ok (.iload 5, 2) := by decide +kernel
theorem own_d6_37 : decode prog_21_method_6_code 37 = .ok (.if_icmp .ne 26, 3) := by decide +kernel
theorem own_d6_40 : decode prog_21_method_6_code 40 = .ok (.lload 6, 2) := by decide +kernel
theorem own_d6_42 : decode prog_21_method_6_code 42 = .ok (.aload_n 1, 1) := by decide +kernel
theorem own_d6_43 : decode prog_21_method_6_code 43 = .ok (.iload 4, 2) := by decide +kernel
theorem own_d6_45 : decode prog_21_method_6_code 45 = .ok (.laload, 1) := by decide +kernel
theorem own_d6_46 : decode prog_21_method_6_code 46 = .ok (.aload_n 0, 1) := by decide +kernel
theorem own_d6_47 : decode prog_21_method_6_code 47 = .ok (.getfield 23, 3) := by decide +kernel
theorem own_d6_50 : decode prog_21_method_6_code 50 = .ok (.iload 4, 2) := by decide +kernel
theorem own_d6_52 : decode prog_21_method_6_code 52 = .ok (.iaload, 1) := by decide +kernel
theorem own_d6_53 : decode prog_21_method_6_code 53 = .ok (.lshl, 1) := by decide +kernel
theorem own_d6_54 : decode prog_21_method_6_code 54 = .ok (.lor, 1) := by decide +kernel
theorem own_d6_55 : decode prog_21_method_6_code 55 = .ok (.lstore 6, 2) := by decide +kernel
theorem own_d6_57 : decode prog_21_method_6_code 57 = .ok (.iinc 4 1, 3) := by decide +kernel
theorem own_d6_60 : decode prog_21_method_6_code 60 = .ok (.goto (-42), 3) := by decide +kernel
theorem own_d6_63 : decode prog_21_method_6_code 63 = .ok (.aload_n 2, 1) := by decide +kernel
theorem own_d6_64 : decode prog_21_method_6_code 64 = .ok (.iload_n 3, 1) := by decide +kernel
theorem own_d6_65 : decode prog_21_method_6_code 65 = .ok (.iload 5, 2) := by decide +kernel
theorem own_d6_67 : decode prog_21_method_6_code 67 = .ok (.iadd, 1) := by decide +kernel
theorem own_d6_68 : decode prog_21_method_6_code 68 = .ok (.lload 6, 2) := by decide +kernel
theorem own_d6_70 : decode prog_21_method_6_code 70 = .ok (.lastore, 1) := by decide +kernel
theorem own_d6_71 : decode prog_21_method_6_code 71 = .ok (.iinc 5 1, 3) := by decide +kernel
theorem own_d6_74 : decode prog_21_method_6_code 74 = .ok (.goto (-68), 3) := by decide +kernel
theorem own_d6_77 : decode prog_21_method_6_code 77 = .ok (.return_, 1) := by decide +kernel
set_option maxRecDepth 65536 in
set_option maxHeartbeats 40000000 in
theorem own_inn_x {p : Program} {l : Launch} {e : Env} {s : State} {m : MethodId} {args : Array Value} {below : List Frame} {meth : Method} {c : Code} {Z : State} {a0 : Array Value} {n0 : Nat} (hx : p.tables.exec = Jvm.exec) (hZ : Z.Warmed39 s.vm) (hw : ∀ d ∈ tables_1, d.before a0 Z = true) (hby : c.code = prog_21_method_6_code) (hml : c.maxLocals = 8) (hown : s.vm.findClass "com/example/lapse/lapse/MarkingCode" = some m.cls) (hnm : meth.name = "pack") (hret : meth.sig.returnType = none) (hlk : meth.locks = false) (hs : Heap) (i : Nat) (this mk in_ am aw as : Addr) (n o : Nat) (g_ : Nat → Value) (mv : Nat → Int64) (w e_ : Nat) {T0 : State} {locs : List Loc} {h0 : Heap} (X0 : Stand p l e ({ frames := 0, cells := 0, slots := 0, locals := 0 } : Room) s m args below meth c T0 locs 0 0) (e0 : T0.heap = h0) (N0 : Fr n0 locs) (Z0 : n0 ≤ h0.size) (hn : n ≤ 130) (ge_in : n0 ≤ in_) (ne_this_in_ : this ≠ in_) (ne_am_in_ : am ≠ in_) (ne_aw_in_ : aw ≠ in_) (ne_as_in_ : as ≠ in_) (ne_mk_in_ : mk ≠ in_) (he1 : e_ ≤ n) (he2 : e_ ≤ 64 * (w + 1)) (he3 : e_ = n ∨ e_ = 64 * (w + 1)) (hk : ∀ (T1 : State) (locs1 : List Loc) (h1 : Heap), Stand p l e ({ frames := 0, cells := 0, slots := 0, locals := 0 } : Room) s m args below meth c T1 locs1 0 0 → T1.heap = h1 → Fr n0 locs1 → n0 ≤ h1.size → Fld Z h1 this "com/example/lapse/lapse/MarkingCode" "most" "[I" (.ref am) → own_Av Z h1 am .int n (fun _ => .int (1 : Int32)) → Fld Z h1 this "com/example/lapse/lapse/MarkingCode" "words" "[I" (.ref aw) → own_Av Z h1 aw .int n (fun j => .int (Int32.ofNat (j / 64))) → Fld Z h1 this "com/example/lapse/lapse/MarkingCode" "shifts" "[I" (.ref as) → own_Av Z h1 as .int n (fun j => .int (Int32.ofNat (j % 64))) → Fld Z h1 this "com/example/lapse/lapse/MarkingCode" "length" "I" (.int (Int32.ofNat ((n - 1) / 64 + 1))) → own_Av Z h1 mk .long 130 (fun j => .long (mv j)) → own_Av Z h1 in_ .long 8 (own_gw g_ o (own_wv mv n) w) → Keep hs h1 [in_] → own_Go p e below T1 (mkF m 63 #[.val (.ref this), .val (.ref mk), .val (.ref in_), .val (.int (Int32.ofNat o)), .val (.int (Int32.ofNat e_)), .val (.int (Int32.ofNat w)), .val (.long (own_ac mv (64 * w) (e_ - 64 * w))), .second] []) (own_Fin s (fun (v : Option Value) (h : Heap) (L : List Loc) => v = none ∧ Fr n0 L ∧ Keep hs h [in_] ∧ own_Av Z h in_ .long 8 (own_gw g_ o (own_wv mv n) ((n - 1) / 64 + 1))) 0 0)) (hin : i = e_) (F0 : Fld Z h0 this "com/example/lapse/lapse/MarkingCode" "most" "[I" (.ref am)) (F1 : own_Av Z h0 am .int n (fun _ => .int (1 : Int32))) (F2 : Fld Z h0 this "com/example/lapse/lapse/MarkingCode" "words" "[I" (.ref aw)) (F3 : own_Av Z h0 aw .int n (fun j => .int (Int32.ofNat (j / 64)))) (F4 : Fld Z h0 this "com/example/lapse/lapse/MarkingCode" "shifts" "[I" (.ref as)) (F5 : own_Av Z h0 as .int n (fun j => .int (Int32.ofNat (j % 64)))) (F6 : Fld Z h0 this "com/example/lapse/lapse/MarkingCode" "length" "I" (.int (Int32.ofNat ((n - 1) / 64 + 1)))) (F7 : own_Av Z h0 mk .long 130 (fun j => .long (mv j))) (F8 : own_Av Z h0 in_ .long 8 (own_gw g_ o (own_wv mv n) w)) (F9 : Keep hs h0 [in_]) (F10 : 64 * w ≤ i) :
    own_Go p e below T0 (mkF m 18 #[.val (.ref this), .val (.ref mk), .val (.ref in_), .val (.int (Int32.ofNat o)), .val (.int (Int32.ofNat i)), .val (.int (Int32.ofNat w)), .val (.long (own_ac mv (64 * w) (i - 64 * w))), .second] []) (own_Fin s (fun (v : Option Value) (h : Heap) (L : List Loc) => v = none ∧ Fr n0 L ∧ Keep hs h [in_] ∧ own_Av Z h in_ .long 8 (own_gw g_ o (own_wv mv n) ((n - 1) / 64 + 1))) 0 0) := by
  show own_Go p e below T0 (mkF m 18 #[.val (.ref this), .val (.ref mk), .val (.ref in_), .val (.int (Int32.ofNat o)), .val (.int (Int32.ofNat i)), .val (.int (Int32.ofNat w)), .val (.long (own_ac mv (64 * w) (i - 64 * w))), .second] []) _
  refine own_s_iload X0.here hx (hb hby own_d6_18) rfl ?_
  refine own_s_aloadN X0.here hx (hb hby own_d6_20) rfl rfl ?_
  obtain ⟨T135, X135, e135, st135⟩ := getF X0 hx hZ hown (host := "") (Or.inl (hw _ (List.mem_of_getElem? (i := 22) rfl))) Via.refl e0 F0 (g := (mkF m 21 #[.val (.ref this), .val (.ref mk), .val (.ref in_), .val (.int (Int32.ofNat o)), .val (.int (Int32.ofNat i)), .val (.int (Int32.ofNat w)), .val (.long (own_ac mv (64 * w) (i - 64 * w))), .second] [(.ref this), (.int (Int32.ofNat i))])) rfl rfl (hb hby own_d6_21)
  refine own_by st135 ?_
  show own_Go p e below T135 (mkF m 24 #[.val (.ref this), .val (.ref mk), .val (.ref in_), .val (.int (Int32.ofNat o)), .val (.int (Int32.ofNat i)), .val (.int (Int32.ofNat w)), .val (.long (own_ac mv (64 * w) (i - 64 * w))), .second] [(.ref am), (.int (Int32.ofNat i))]) _
  refine own_by (fun tq_ kq_ => own_len X135 hx hZ e135 F1 (z := (Int32.ofNat n)) rfl (g := (mkF m 24 #[.val (.ref this), .val (.ref mk), .val (.ref in_), .val (.int (Int32.ofNat o)), .val (.int (Int32.ofNat i)), .val (.int (Int32.ofNat w)), .val (.long (own_ac mv (64 * w) (i - 64 * w))), .second] [(.ref am), (.int (Int32.ofNat i))])) rfl rfl (hb hby own_d6_24) tq_ kq_) ?_
  show own_Go p e below T135 (mkF m 25 #[.val (.ref this), .val (.ref mk), .val (.ref in_), .val (.int (Int32.ofNat o)), .val (.int (Int32.ofNat i)), .val (.int (Int32.ofNat w)), .val (.long (own_ac mv (64 * w) (i - 64 * w))), .second] [(.int (Int32.ofNat n)), (.int (Int32.ofNat i))]) _
  by_cases hc25 : (Int32.ofNat i) < (Int32.ofNat n)
  ·
    refine own_s_icmpNo X135.here hx (hb hby own_d6_25) (Jvm.Free.XT.ii_ge_f hc25) ?_
    refine own_s_aloadN X135.here hx (hb hby own_d6_28) rfl rfl ?_
    obtain ⟨T136, X136, e136, st136⟩ := getF X135 hx hZ hown (host := "") (Or.inl (hw _ (List.mem_of_getElem? (i := 24) rfl))) Via.refl e135 F2 (g := (mkF m 29 #[.val (.ref this), .val (.ref mk), .val (.ref in_), .val (.int (Int32.ofNat o)), .val (.int (Int32.ofNat i)), .val (.int (Int32.ofNat w)), .val (.long (own_ac mv (64 * w) (i - 64 * w))), .second] [(.ref this)])) rfl rfl (hb hby own_d6_29)
    refine own_by st136 ?_
    show own_Go p e below T136 (mkF m 32 #[.val (.ref this), .val (.ref mk), .val (.ref in_), .val (.int (Int32.ofNat o)), .val (.int (Int32.ofNat i)), .val (.int (Int32.ofNat w)), .val (.long (own_ac mv (64 * w) (i - 64 * w))), .second] [(.ref aw)]) _
    refine own_s_iload X136.here hx (hb hby own_d6_32) rfl ?_
    refine own_by (fun tq_ kq_ => own_ldI X136 hx hZ e136 F3 (k := i) (v := (.int (Int32.ofNat (i / 64)))) (own_ix (by omega)) ((own_oflt (by omega) (by omega)).mp hc25) rfl (g := (mkF m 34 #[.val (.ref this), .val (.ref mk), .val (.ref in_), .val (.int (Int32.ofNat o)), .val (.int (Int32.ofNat i)), .val (.int (Int32.ofNat w)), .val (.long (own_ac mv (64 * w) (i - 64 * w))), .second] [(.int (Int32.ofNat i)), (.ref aw)])) rfl rfl (hb hby own_d6_34) tq_ kq_) ?_
    show own_Go p e below T136 (mkF m 35 #[.val (.ref this), .val (.ref mk), .val (.ref in_), .val (.int (Int32.ofNat o)), .val (.int (Int32.ofNat i)), .val (.int (Int32.ofNat w)), .val (.long (own_ac mv (64 * w) (i - 64 * w))), .second] [(.int (Int32.ofNat (i / 64)))]) _
    refine own_s_iload X136.here hx (hb hby own_d6_35) rfl ?_
    show own_Go p e below T136 (mkF m 37 #[.val (.ref this), .val (.ref mk), .val (.ref in_), .val (.int (Int32.ofNat o)), .val (.int (Int32.ofNat i)), .val (.int (Int32.ofNat w)), .val (.long (own_ac mv (64 * w) (i - 64 * w))), .second] [(.int (Int32.ofNat w)), (.int (Int32.ofNat (i / 64)))]) _
    refine own_s_icmpYes X136.here hx 63 (hb hby own_d6_37) (Jvm.Free.XT.ii_ne_t ((fun q => absurd ((own_ofeq (by omega) (by omega)).mp q) (by have := (own_oflt (by omega) (by omega)).mp hc25; omega)))) (by decide) (by decide) ?_
    subst hin
    exact hk _ _ _ X136 e136 N0 Z0 F0 F1 F2 F3 F4 F5 F6 F7 F8 F9
  ·
    refine own_s_icmpYes X135.here hx 63 (hb hby own_d6_25) (Jvm.Free.XT.ii_ge_t hc25) (by decide) (by decide) ?_
    subst hin
    exact hk _ _ _ X135 e135 N0 Z0 F0 F1 F2 F3 F4 F5 F6 F7 F8 F9
set_option maxRecDepth 65536 in
set_option maxHeartbeats 40000000 in
theorem own_inn_t {p : Program} {l : Launch} {e : Env} {s : State} {m : MethodId} {args : Array Value} {below : List Frame} {meth : Method} {c : Code} {Z : State} {a0 : Array Value} {n0 : Nat} (hx : p.tables.exec = Jvm.exec) (hZ : Z.Warmed39 s.vm) (hw : ∀ d ∈ tables_1, d.before a0 Z = true) (hby : c.code = prog_21_method_6_code) (hml : c.maxLocals = 8) (hown : s.vm.findClass "com/example/lapse/lapse/MarkingCode" = some m.cls) (hnm : meth.name = "pack") (hret : meth.sig.returnType = none) (hlk : meth.locks = false) (hs : Heap) (i : Nat) (this mk in_ am aw as : Addr) (n o : Nat) (g_ : Nat → Value) (mv : Nat → Int64) (w e_ : Nat) {T0 : State} {locs : List Loc} {h0 : Heap} (X0 : Stand p l e ({ frames := 0, cells := 0, slots := 0, locals := 0 } : Room) s m args below meth c T0 locs 0 0) (e0 : T0.heap = h0) (N0 : Fr n0 locs) (Z0 : n0 ≤ h0.size) (hn : n ≤ 130) (ge_in : n0 ≤ in_) (ne_this_in_ : this ≠ in_) (ne_am_in_ : am ≠ in_) (ne_aw_in_ : aw ≠ in_) (ne_as_in_ : as ≠ in_) (ne_mk_in_ : mk ≠ in_) (he1 : e_ ≤ n) (he2 : e_ ≤ 64 * (w + 1)) (he3 : e_ = n ∨ e_ = 64 * (w + 1)) (hk : ∀ (T1 : State) (locs1 : List Loc) (h1 : Heap), Stand p l e ({ frames := 0, cells := 0, slots := 0, locals := 0 } : Room) s m args below meth c T1 locs1 0 0 → T1.heap = h1 → Fr n0 locs1 → n0 ≤ h1.size → Fld Z h1 this "com/example/lapse/lapse/MarkingCode" "most" "[I" (.ref am) → own_Av Z h1 am .int n (fun _ => .int (1 : Int32)) → Fld Z h1 this "com/example/lapse/lapse/MarkingCode" "words" "[I" (.ref aw) → own_Av Z h1 aw .int n (fun j => .int (Int32.ofNat (j / 64))) → Fld Z h1 this "com/example/lapse/lapse/MarkingCode" "shifts" "[I" (.ref as) → own_Av Z h1 as .int n (fun j => .int (Int32.ofNat (j % 64))) → Fld Z h1 this "com/example/lapse/lapse/MarkingCode" "length" "I" (.int (Int32.ofNat ((n - 1) / 64 + 1))) → own_Av Z h1 mk .long 130 (fun j => .long (mv j)) → own_Av Z h1 in_ .long 8 (own_gw g_ o (own_wv mv n) w) → Keep hs h1 [in_] → own_Go p e below T1 (mkF m 63 #[.val (.ref this), .val (.ref mk), .val (.ref in_), .val (.int (Int32.ofNat o)), .val (.int (Int32.ofNat e_)), .val (.int (Int32.ofNat w)), .val (.long (own_ac mv (64 * w) (e_ - 64 * w))), .second] []) (own_Fin s (fun (v : Option Value) (h : Heap) (L : List Loc) => v = none ∧ Fr n0 L ∧ Keep hs h [in_] ∧ own_Av Z h in_ .long 8 (own_gw g_ o (own_wv mv n) ((n - 1) / 64 + 1))) 0 0)) (hin : i < e_) (F0 : Fld Z h0 this "com/example/lapse/lapse/MarkingCode" "most" "[I" (.ref am)) (F1 : own_Av Z h0 am .int n (fun _ => .int (1 : Int32))) (F2 : Fld Z h0 this "com/example/lapse/lapse/MarkingCode" "words" "[I" (.ref aw)) (F3 : own_Av Z h0 aw .int n (fun j => .int (Int32.ofNat (j / 64)))) (F4 : Fld Z h0 this "com/example/lapse/lapse/MarkingCode" "shifts" "[I" (.ref as)) (F5 : own_Av Z h0 as .int n (fun j => .int (Int32.ofNat (j % 64)))) (F6 : Fld Z h0 this "com/example/lapse/lapse/MarkingCode" "length" "I" (.int (Int32.ofNat ((n - 1) / 64 + 1)))) (F7 : own_Av Z h0 mk .long 130 (fun j => .long (mv j))) (F8 : own_Av Z h0 in_ .long 8 (own_gw g_ o (own_wv mv n) w)) (F9 : Keep hs h0 [in_]) (F10 : 64 * w ≤ i) (hnext : ∀ (T1 : State) (locs1 : List Loc) (h1 : Heap), Stand p l e ({ frames := 0, cells := 0, slots := 0, locals := 0 } : Room) s m args below meth c T1 locs1 0 0 → T1.heap = h1 → Fr n0 locs1 → n0 ≤ h1.size → Fld Z h1 this "com/example/lapse/lapse/MarkingCode" "most" "[I" (.ref am) → own_Av Z h1 am .int n (fun _ => .int (1 : Int32)) → Fld Z h1 this "com/example/lapse/lapse/MarkingCode" "words" "[I" (.ref aw) → own_Av Z h1 aw .int n (fun j => .int (Int32.ofNat (j / 64))) → Fld Z h1 this "com/example/lapse/lapse/MarkingCode" "shifts" "[I" (.ref as) → own_Av Z h1 as .int n (fun j => .int (Int32.ofNat (j % 64))) → Fld Z h1 this "com/example/lapse/lapse/MarkingCode" "length" "I" (.int (Int32.ofNat ((n - 1) / 64 + 1))) → own_Av Z h1 mk .long 130 (fun j => .long (mv j)) → own_Av Z h1 in_ .long 8 (own_gw g_ o (own_wv mv n) w) → Keep hs h1 [in_] → 64 * w ≤ (i + 1) → own_Go p e below T1 (mkF m 18 #[.val (.ref this), .val (.ref mk), .val (.ref in_), .val (.int (Int32.ofNat o)), .val (.int (Int32.ofNat (i + 1))), .val (.int (Int32.ofNat w)), .val (.long (own_ac mv (64 * w) ((i + 1) - 64 * w))), .second] []) (own_Fin s (fun (v : Option Value) (h : Heap) (L : List Loc) => v = none ∧ Fr n0 L ∧ Keep hs h [in_] ∧ own_Av Z h in_ .long 8 (own_gw g_ o (own_wv mv n) ((n - 1) / 64 + 1))) 0 0)) :
    own_Go p e below T0 (mkF m 18 #[.val (.ref this), .val (.ref mk), .val (.ref in_), .val (.int (Int32.ofNat o)), .val (.int (Int32.ofNat i)), .val (.int (Int32.ofNat w)), .val (.long (own_ac mv (64 * w) (i - 64 * w))), .second] []) (own_Fin s (fun (v : Option Value) (h : Heap) (L : List Loc) => v = none ∧ Fr n0 L ∧ Keep hs h [in_] ∧ own_Av Z h in_ .long 8 (own_gw g_ o (own_wv mv n) ((n - 1) / 64 + 1))) 0 0) := by
  show own_Go p e below T0 (mkF m 18 #[.val (.ref this), .val (.ref mk), .val (.ref in_), .val (.int (Int32.ofNat o)), .val (.int (Int32.ofNat i)), .val (.int (Int32.ofNat w)), .val (.long (own_ac mv (64 * w) (i - 64 * w))), .second] []) _
  refine own_s_iload X0.here hx (hb hby own_d6_18) rfl ?_
  refine own_s_aloadN X0.here hx (hb hby own_d6_20) rfl rfl ?_
  obtain ⟨T137, X137, e137, st137⟩ := getF X0 hx hZ hown (host := "") (Or.inl (hw _ (List.mem_of_getElem? (i := 22) rfl))) Via.refl e0 F0 (g := (mkF m 21 #[.val (.ref this), .val (.ref mk), .val (.ref in_), .val (.int (Int32.ofNat o)), .val (.int (Int32.ofNat i)), .val (.int (Int32.ofNat w)), .val (.long (own_ac mv (64 * w) (i - 64 * w))), .second] [(.ref this), (.int (Int32.ofNat i))])) rfl rfl (hb hby own_d6_21)
  refine own_by st137 ?_
  show own_Go p e below T137 (mkF m 24 #[.val (.ref this), .val (.ref mk), .val (.ref in_), .val (.int (Int32.ofNat o)), .val (.int (Int32.ofNat i)), .val (.int (Int32.ofNat w)), .val (.long (own_ac mv (64 * w) (i - 64 * w))), .second] [(.ref am), (.int (Int32.ofNat i))]) _
  refine own_by (fun tq_ kq_ => own_len X137 hx hZ e137 F1 (z := (Int32.ofNat n)) rfl (g := (mkF m 24 #[.val (.ref this), .val (.ref mk), .val (.ref in_), .val (.int (Int32.ofNat o)), .val (.int (Int32.ofNat i)), .val (.int (Int32.ofNat w)), .val (.long (own_ac mv (64 * w) (i - 64 * w))), .second] [(.ref am), (.int (Int32.ofNat i))])) rfl rfl (hb hby own_d6_24) tq_ kq_) ?_
  show own_Go p e below T137 (mkF m 25 #[.val (.ref this), .val (.ref mk), .val (.ref in_), .val (.int (Int32.ofNat o)), .val (.int (Int32.ofNat i)), .val (.int (Int32.ofNat w)), .val (.long (own_ac mv (64 * w) (i - 64 * w))), .second] [(.int (Int32.ofNat n)), (.int (Int32.ofNat i))]) _
  refine own_s_icmpNo X137.here hx (hb hby own_d6_25) (Jvm.Free.XT.ii_ge_f (((own_oflt (by omega) (by omega)).mpr (by omega)))) ?_
  refine own_s_aloadN X137.here hx (hb hby own_d6_28) rfl rfl ?_
  obtain ⟨T138, X138, e138, st138⟩ := getF X137 hx hZ hown (host := "") (Or.inl (hw _ (List.mem_of_getElem? (i := 24) rfl))) Via.refl e137 F2 (g := (mkF m 29 #[.val (.ref this), .val (.ref mk), .val (.ref in_), .val (.int (Int32.ofNat o)), .val (.int (Int32.ofNat i)), .val (.int (Int32.ofNat w)), .val (.long (own_ac mv (64 * w) (i - 64 * w))), .second] [(.ref this)])) rfl rfl (hb hby own_d6_29)
  refine own_by st138 ?_
  show own_Go p e below T138 (mkF m 32 #[.val (.ref this), .val (.ref mk), .val (.ref in_), .val (.int (Int32.ofNat o)), .val (.int (Int32.ofNat i)), .val (.int (Int32.ofNat w)), .val (.long (own_ac mv (64 * w) (i - 64 * w))), .second] [(.ref aw)]) _
  refine own_s_iload X138.here hx (hb hby own_d6_32) rfl ?_
  refine own_by (fun tq_ kq_ => own_ldI X138 hx hZ e138 F3 (k := i) (v := (.int (Int32.ofNat (i / 64)))) (own_ix (by omega)) (by omega) rfl (g := (mkF m 34 #[.val (.ref this), .val (.ref mk), .val (.ref in_), .val (.int (Int32.ofNat o)), .val (.int (Int32.ofNat i)), .val (.int (Int32.ofNat w)), .val (.long (own_ac mv (64 * w) (i - 64 * w))), .second] [(.int (Int32.ofNat i)), (.ref aw)])) rfl rfl (hb hby own_d6_34) tq_ kq_) ?_
  show own_Go p e below T138 (mkF m 35 #[.val (.ref this), .val (.ref mk), .val (.ref in_), .val (.int (Int32.ofNat o)), .val (.int (Int32.ofNat i)), .val (.int (Int32.ofNat w)), .val (.long (own_ac mv (64 * w) (i - 64 * w))), .second] [(.int (Int32.ofNat (i / 64)))]) _
  refine own_s_iload X138.here hx (hb hby own_d6_35) rfl ?_
  refine own_s_icmpNo X138.here hx (hb hby own_d6_37) (Jvm.Free.XT.ii_ne_f ((by rw [show i / 64 = w from by omega]))) ?_
  refine own_s_lload X138.here hx (hb hby own_d6_40) rfl ?_
  refine own_s_aloadN X138.here hx (hb hby own_d6_42) rfl rfl ?_
  refine own_s_iload X138.here hx (hb hby own_d6_43) rfl ?_
  refine own_by (fun tq_ kq_ => own_ldJ X138 hx hZ e138 F7 (k := i) (v := (.long (mv i))) (own_ix (by omega)) (by omega) rfl (g := (mkF m 45 #[.val (.ref this), .val (.ref mk), .val (.ref in_), .val (.int (Int32.ofNat o)), .val (.int (Int32.ofNat i)), .val (.int (Int32.ofNat w)), .val (.long (own_ac mv (64 * w) (i - 64 * w))), .second] [(.int (Int32.ofNat i)), (.ref mk), (.long (own_ac mv (64 * w) (i - 64 * w)))])) rfl rfl (hb hby own_d6_45) tq_ kq_) ?_
  show own_Go p e below T138 (mkF m 46 #[.val (.ref this), .val (.ref mk), .val (.ref in_), .val (.int (Int32.ofNat o)), .val (.int (Int32.ofNat i)), .val (.int (Int32.ofNat w)), .val (.long (own_ac mv (64 * w) (i - 64 * w))), .second] [(.long (mv i)), (.long (own_ac mv (64 * w) (i - 64 * w)))]) _
  refine own_s_aloadN X138.here hx (hb hby own_d6_46) rfl rfl ?_
  obtain ⟨T139, X139, e139, st139⟩ := getF X138 hx hZ hown (host := "") (Or.inl (hw _ (List.mem_of_getElem? (i := 26) rfl))) Via.refl e138 F4 (g := (mkF m 47 #[.val (.ref this), .val (.ref mk), .val (.ref in_), .val (.int (Int32.ofNat o)), .val (.int (Int32.ofNat i)), .val (.int (Int32.ofNat w)), .val (.long (own_ac mv (64 * w) (i - 64 * w))), .second] [(.ref this), (.long (mv i)), (.long (own_ac mv (64 * w) (i - 64 * w)))])) rfl rfl (hb hby own_d6_47)
  refine own_by st139 ?_
  show own_Go p e below T139 (mkF m 50 #[.val (.ref this), .val (.ref mk), .val (.ref in_), .val (.int (Int32.ofNat o)), .val (.int (Int32.ofNat i)), .val (.int (Int32.ofNat w)), .val (.long (own_ac mv (64 * w) (i - 64 * w))), .second] [(.ref as), (.long (mv i)), (.long (own_ac mv (64 * w) (i - 64 * w)))]) _
  refine own_s_iload X139.here hx (hb hby own_d6_50) rfl ?_
  refine own_by (fun tq_ kq_ => own_ldI X139 hx hZ e139 F5 (k := i) (v := (.int (Int32.ofNat (i % 64)))) (own_ix (by omega)) (by omega) rfl (g := (mkF m 52 #[.val (.ref this), .val (.ref mk), .val (.ref in_), .val (.int (Int32.ofNat o)), .val (.int (Int32.ofNat i)), .val (.int (Int32.ofNat w)), .val (.long (own_ac mv (64 * w) (i - 64 * w))), .second] [(.int (Int32.ofNat i)), (.ref as), (.long (mv i)), (.long (own_ac mv (64 * w) (i - 64 * w)))])) rfl rfl (hb hby own_d6_52) tq_ kq_) ?_
  show own_Go p e below T139 (mkF m 53 #[.val (.ref this), .val (.ref mk), .val (.ref in_), .val (.int (Int32.ofNat o)), .val (.int (Int32.ofNat i)), .val (.int (Int32.ofNat w)), .val (.long (own_ac mv (64 * w) (i - 64 * w))), .second] [(.int (Int32.ofNat (i % 64))), (.long (mv i)), (.long (own_ac mv (64 * w) (i - 64 * w)))]) _
  refine own_s_lshl X139.here hx (hb hby own_d6_53) ?_
  refine own_s_lor X139.here hx (hb hby own_d6_54) ?_
  have eac : (own_ac mv (64 * w) ((i + 1) - 64 * w)) = ((own_ac mv (64 * w) (i - 64 * w)) ||| ((mv i) <<< ((Int32.ofNat (i % 64)) &&& 0x3f).toInt64)) := by
    rw [show i + 1 - 64 * w = (i - 64 * w) + 1 from by omega]
    show own_ac mv (64 * w) (i - 64 * w) ||| own_tm mv (64 * w + (i - 64 * w)) = _
    rw [show 64 * w + (i - 64 * w) = i from by omega]
    rfl
  rw [← eac]
  show own_Go p e below T139 (mkF m 55 #[.val (.ref this), .val (.ref mk), .val (.ref in_), .val (.int (Int32.ofNat o)), .val (.int (Int32.ofNat i)), .val (.int (Int32.ofNat w)), .val (.long (own_ac mv (64 * w) (i - 64 * w))), .second] [(.long (own_ac mv (64 * w) ((i + 1) - 64 * w)))]) _
  refine own_s_lstore X139.here hx #[.val (.ref this), .val (.ref mk), .val (.ref in_), .val (.int (Int32.ofNat o)), .val (.int (Int32.ofNat i)), .val (.int (Int32.ofNat w)), .val (.long (own_ac mv (64 * w) ((i + 1) - 64 * w))), .second] (hb hby own_d6_55) rfl ?_
  refine own_by (fun tq_ kq_ => XS.iinc X139.here hx rfl (hb hby own_d6_57) rfl (l' := #[.val (.ref this), .val (.ref mk), .val (.ref in_), .val (.int (Int32.ofNat o)), .val (.int ((Int32.ofNat i) + (1 : Int32))), .val (.int (Int32.ofNat w)), .val (.long (own_ac mv (64 * w) ((i + 1) - 64 * w))), .second]) rfl kq_) ?_
  show own_Go p e below T139 (mkF m 60 #[.val (.ref this), .val (.ref mk), .val (.ref in_), .val (.int (Int32.ofNat o)), .val (.int ((Int32.ofNat i) + (1 : Int32))), .val (.int (Int32.ofNat w)), .val (.long (own_ac mv (64 * w) ((i + 1) - 64 * w))), .second] []) _
  refine own_s_goto X139.here hx 18 (hb hby own_d6_60) (by decide) (by decide) ?_
  rw [own_ofs]
  exact hnext _ _ _ X139 e139 N0 Z0 F0 F1 F2 F3 F4 F5 F6 F7 F8 F9 (by omega)
set_option maxRecDepth 65536 in
set_option maxHeartbeats 40000000 in
theorem own_inn {p : Program} {l : Launch} {e : Env} {s : State} {m : MethodId} {args : Array Value} {below : List Frame} {meth : Method} {c : Code} {Z : State} {a0 : Array Value} {n0 : Nat} (hx : p.tables.exec = Jvm.exec) (hZ : Z.Warmed39 s.vm) (hw : ∀ d ∈ tables_1, d.before a0 Z = true) (hby : c.code = prog_21_method_6_code) (hml : c.maxLocals = 8) (hown : s.vm.findClass "com/example/lapse/lapse/MarkingCode" = some m.cls) (hnm : meth.name = "pack") (hret : meth.sig.returnType = none) (hlk : meth.locks = false) (hs : Heap) (this mk in_ am aw as : Addr) (n o : Nat) (g_ : Nat → Value) (mv : Nat → Int64) (w e_ : Nat) (hn : n ≤ 130) (ge_in : n0 ≤ in_) (ne_this_in_ : this ≠ in_) (ne_am_in_ : am ≠ in_) (ne_aw_in_ : aw ≠ in_) (ne_as_in_ : as ≠ in_) (ne_mk_in_ : mk ≠ in_) (he1 : e_ ≤ n) (he2 : e_ ≤ 64 * (w + 1)) (he3 : e_ = n ∨ e_ = 64 * (w + 1)) (hk : ∀ (T1 : State) (locs1 : List Loc) (h1 : Heap), Stand p l e ({ frames := 0, cells := 0, slots := 0, locals := 0 } : Room) s m args below meth c T1 locs1 0 0 → T1.heap = h1 → Fr n0 locs1 → n0 ≤ h1.size → Fld Z h1 this "com/example/lapse/lapse/MarkingCode" "most" "[I" (.ref am) → own_Av Z h1 am .int n (fun _ => .int (1 : Int32)) → Fld Z h1 this "com/example/lapse/lapse/MarkingCode" "words" "[I" (.ref aw) → own_Av Z h1 aw .int n (fun j => .int (Int32.ofNat (j / 64))) → Fld Z h1 this "com/example/lapse/lapse/MarkingCode" "shifts" "[I" (.ref as) → own_Av Z h1 as .int n (fun j => .int (Int32.ofNat (j % 64))) → Fld Z h1 this "com/example/lapse/lapse/MarkingCode" "length" "I" (.int (Int32.ofNat ((n - 1) / 64 + 1))) → own_Av Z h1 mk .long 130 (fun j => .long (mv j)) → own_Av Z h1 in_ .long 8 (own_gw g_ o (own_wv mv n) w) → Keep hs h1 [in_] → own_Go p e below T1 (mkF m 63 #[.val (.ref this), .val (.ref mk), .val (.ref in_), .val (.int (Int32.ofNat o)), .val (.int (Int32.ofNat e_)), .val (.int (Int32.ofNat w)), .val (.long (own_ac mv (64 * w) (e_ - 64 * w))), .second] []) (own_Fin s (fun (v : Option Value) (h : Heap) (L : List Loc) => v = none ∧ Fr n0 L ∧ Keep hs h [in_] ∧ own_Av Z h in_ .long 8 (own_gw g_ o (own_wv mv n) ((n - 1) / 64 + 1))) 0 0)) : ∀ (r i : Nat) (hin : i + r = e_) {T0 : State} {locs : List Loc} {h0 : Heap} (X0 : Stand p l e ({ frames := 0, cells := 0, slots := 0, locals := 0 } : Room) s m args below meth c T0 locs 0 0) (e0 : T0.heap = h0) (N0 : Fr n0 locs) (Z0 : n0 ≤ h0.size) (F0 : Fld Z h0 this "com/example/lapse/lapse/MarkingCode" "most" "[I" (.ref am)) (F1 : own_Av Z h0 am .int n (fun _ => .int (1 : Int32))) (F2 : Fld Z h0 this "com/example/lapse/lapse/MarkingCode" "words" "[I" (.ref aw)) (F3 : own_Av Z h0 aw .int n (fun j => .int (Int32.ofNat (j / 64)))) (F4 : Fld Z h0 this "com/example/lapse/lapse/MarkingCode" "shifts" "[I" (.ref as)) (F5 : own_Av Z h0 as .int n (fun j => .int (Int32.ofNat (j % 64)))) (F6 : Fld Z h0 this "com/example/lapse/lapse/MarkingCode" "length" "I" (.int (Int32.ofNat ((n - 1) / 64 + 1)))) (F7 : own_Av Z h0 mk .long 130 (fun j => .long (mv j))) (F8 : own_Av Z h0 in_ .long 8 (own_gw g_ o (own_wv mv n) w)) (F9 : Keep hs h0 [in_]) (F10 : 64 * w ≤ i),
    own_Go p e below T0 (mkF m 18 #[.val (.ref this), .val (.ref mk), .val (.ref in_), .val (.int (Int32.ofNat o)), .val (.int (Int32.ofNat i)), .val (.int (Int32.ofNat w)), .val (.long (own_ac mv (64 * w) (i - 64 * w))), .second] []) (own_Fin s (fun (v : Option Value) (h : Heap) (L : List Loc) => v = none ∧ Fr n0 L ∧ Keep hs h [in_] ∧ own_Av Z h in_ .long 8 (own_gw g_ o (own_wv mv n) ((n - 1) / 64 + 1))) 0 0) := by
  intro r
  induction r with
  | zero =>
    intro i hin T0 locs h0 X0 e0 N0 Z0 F0 F1 F2 F3 F4 F5 F6 F7 F8 F9 F10
    exact own_inn_x hx hZ hw hby hml hown hnm hret hlk hs i this mk in_ am aw as n o g_ mv w e_ X0 e0 N0 Z0 hn ge_in ne_this_in_ ne_am_in_ ne_aw_in_ ne_as_in_ ne_mk_in_ he1 he2 he3 hk (by omega) F0 F1 F2 F3 F4 F5 F6 F7 F8 F9 F10
  | succ r ih =>
    intro i hin T0 locs h0 X0 e0 N0 Z0 F0 F1 F2 F3 F4 F5 F6 F7 F8 F9 F10
    exact own_inn_t hx hZ hw hby hml hown hnm hret hlk hs i this mk in_ am aw as n o g_ mv w e_ X0 e0 N0 Z0 hn ge_in ne_this_in_ ne_am_in_ ne_aw_in_ ne_as_in_ ne_mk_in_ he1 he2 he3 hk (by omega) F0 F1 F2 F3 F4 F5 F6 F7 F8 F9 F10 (fun T1 locs1 h1 X1 e1 N1 Z1 G0 G1 G2 G3 G4 G5 G6 G7 G8 G9 G10 => ih (i + 1) (by omega) X1 e1 N1 Z1 G0 G1 G2 G3 G4 G5 G6 G7 G8 G9 G10)
set_option maxRecDepth 65536 in
set_option maxHeartbeats 40000000 in
theorem own_k6_3 {p : Program} {l : Launch} {e : Env} {s : State} {m : MethodId} {args : Array Value} {below : List Frame} {meth : Method} {c : Code} {Z : State} {a0 : Array Value} {n0 : Nat} (hx : p.tables.exec = Jvm.exec) (hZ : Z.Warmed39 s.vm) (hw : ∀ d ∈ tables_1, d.before a0 Z = true) (hby : c.code = prog_21_method_6_code) (hml : c.maxLocals = 8) (hown : s.vm.findClass "com/example/lapse/lapse/MarkingCode" = some m.cls) (hnm : meth.name = "pack") (hret : meth.sig.returnType = none) (hlk : meth.locks = false) (hs : Heap) (this mk in_ am aw as : Addr) (n o : Nat) (g_ : Nat → Value) (mv : Nat → Int64) (x_ : Int64) {T0 : State} {locs : List Loc} {h0 : Heap} (X0 : Stand p l e ({ frames := 0, cells := 0, slots := 0, locals := 0 } : Room) s m args below meth c T0 locs 0 0) (e0 : T0.heap = h0) (N0 : Fr n0 locs) (Z0 : n0 ≤ h0.size) (hn : n ≤ 130) (ge_in : n0 ≤ in_) (ne_this_in_ : this ≠ in_) (ne_am_in_ : am ≠ in_) (ne_aw_in_ : aw ≠ in_) (ne_as_in_ : as ≠ in_) (ne_mk_in_ : mk ≠ in_) (ho : o ≤ 3) (hle : 3 ≤ ((n - 1) / 64 + 1)) (F0 : Fld Z h0 this "com/example/lapse/lapse/MarkingCode" "most" "[I" (.ref am)) (F1 : own_Av Z h0 am .int n (fun _ => .int (1 : Int32))) (F2 : Fld Z h0 this "com/example/lapse/lapse/MarkingCode" "words" "[I" (.ref aw)) (F3 : own_Av Z h0 aw .int n (fun j => .int (Int32.ofNat (j / 64)))) (F4 : Fld Z h0 this "com/example/lapse/lapse/MarkingCode" "shifts" "[I" (.ref as)) (F5 : own_Av Z h0 as .int n (fun j => .int (Int32.ofNat (j % 64)))) (F6 : Fld Z h0 this "com/example/lapse/lapse/MarkingCode" "length" "I" (.int (Int32.ofNat ((n - 1) / 64 + 1)))) (F7 : own_Av Z h0 mk .long 130 (fun j => .long (mv j))) (F8 : own_Av Z h0 in_ .long 8 (own_gw g_ o (own_wv mv n) 3)) (F9 : Keep hs h0 [in_]) :
    own_Go p e below T0 (mkF m 6 #[.val (.ref this), .val (.ref mk), .val (.ref in_), .val (.int (Int32.ofNat o)), .val (.int (Int32.ofNat (min n 192))), .val (.int (Int32.ofNat 3)), .val (.long x_), .second] []) (own_Fin s (fun (v : Option Value) (h : Heap) (L : List Loc) => v = none ∧ Fr n0 L ∧ Keep hs h [in_] ∧ own_Av Z h in_ .long 8 (own_gw g_ o (own_wv mv n) ((n - 1) / 64 + 1))) 0 0) := by
  show own_Go p e below T0 (mkF m 6 #[.val (.ref this), .val (.ref mk), .val (.ref in_), .val (.int (Int32.ofNat o)), .val (.int (Int32.ofNat (min n 192))), .val (.int (Int32.ofNat 3)), .val (.long x_), .second] []) _
  refine own_s_iload X0.here hx (hb hby own_d6_6) rfl ?_
  refine own_s_aloadN X0.here hx (hb hby own_d6_8) rfl rfl ?_
  obtain ⟨T140, X140, e140, st140⟩ := getF X0 hx hZ hown (host := "") (Or.inl (hw _ (List.mem_of_getElem? (i := 28) rfl))) Via.refl e0 F6 (g := (mkF m 9 #[.val (.ref this), .val (.ref mk), .val (.ref in_), .val (.int (Int32.ofNat o)), .val (.int (Int32.ofNat (min n 192))), .val (.int (Int32.ofNat 3)), .val (.long x_), .second] [(.ref this), (.int (Int32.ofNat 3))])) rfl rfl (hb hby own_d6_9)
  refine own_by st140 ?_
  show own_Go p e below T140 (mkF m 12 #[.val (.ref this), .val (.ref mk), .val (.ref in_), .val (.int (Int32.ofNat o)), .val (.int (Int32.ofNat (min n 192))), .val (.int (Int32.ofNat 3)), .val (.long x_), .second] [(.int (Int32.ofNat ((n - 1) / 64 + 1))), (.int (Int32.ofNat 3))]) _
  refine own_s_icmpYes X140.here hx 77 (hb hby own_d6_12) (Jvm.Free.XT.ii_ge_t ((fun q => absurd ((own_oflt (i := 3) (by omega) (by omega)).mp q) (by omega)))) (by decide) (by decide) ?_
  refine own_retV X140 hx hret hlk (hb hby own_d6_77) (by decide) (by decide) ?_
  rw [e140]
  have hc' : ¬ 3 < ((n - 1) / 64 + 1) := by omega
  exact ⟨rfl, N0, F9, by rw [show ((n - 1) / 64 + 1) = 3 from by omega]; exact F8⟩
set_option maxRecDepth 65536 in
set_option maxHeartbeats 40000000 in
theorem own_k63_2 {p : Program} {l : Launch} {e : Env} {s : State} {m : MethodId} {args : Array Value} {below : List Frame} {meth : Method} {c : Code} {Z : State} {a0 : Array Value} {n0 : Nat} (hx : p.tables.exec = Jvm.exec) (hZ : Z.Warmed39 s.vm) (hw : ∀ d ∈ tables_1, d.before a0 Z = true) (hby : c.code = prog_21_method_6_code) (hml : c.maxLocals = 8) (hown : s.vm.findClass "com/example/lapse/lapse/MarkingCode" = some m.cls) (hnm : meth.name = "pack") (hret : meth.sig.returnType = none) (hlk : meth.locks = false) (hs : Heap) (this mk in_ am aw as : Addr) (n o : Nat) (g_ : Nat → Value) (mv : Nat → Int64) {T0 : State} {locs : List Loc} {h0 : Heap} (X0 : Stand p l e ({ frames := 0, cells := 0, slots := 0, locals := 0 } : Room) s m args below meth c T0 locs 0 0) (e0 : T0.heap = h0) (N0 : Fr n0 locs) (Z0 : n0 ≤ h0.size) (hn : n ≤ 130) (ge_in : n0 ≤ in_) (ne_this_in_ : this ≠ in_) (ne_am_in_ : am ≠ in_) (ne_aw_in_ : aw ≠ in_) (ne_as_in_ : as ≠ in_) (ne_mk_in_ : mk ≠ in_) (ho : o ≤ 3) (hln : 2 < ((n - 1) / 64 + 1)) (F0 : Fld Z h0 this "com/example/lapse/lapse/MarkingCode" "most" "[I" (.ref am)) (F1 : own_Av Z h0 am .int n (fun _ => .int (1 : Int32))) (F2 : Fld Z h0 this "com/example/lapse/lapse/MarkingCode" "words" "[I" (.ref aw)) (F3 : own_Av Z h0 aw .int n (fun j => .int (Int32.ofNat (j / 64)))) (F4 : Fld Z h0 this "com/example/lapse/lapse/MarkingCode" "shifts" "[I" (.ref as)) (F5 : own_Av Z h0 as .int n (fun j => .int (Int32.ofNat (j % 64)))) (F6 : Fld Z h0 this "com/example/lapse/lapse/MarkingCode" "length" "I" (.int (Int32.ofNat ((n - 1) / 64 + 1)))) (F7 : own_Av Z h0 mk .long 130 (fun j => .long (mv j))) (F8 : own_Av Z h0 in_ .long 8 (own_gw g_ o (own_wv mv n) 2)) (F9 : Keep hs h0 [in_]) :
    own_Go p e below T0 (mkF m 63 #[.val (.ref this), .val (.ref mk), .val (.ref in_), .val (.int (Int32.ofNat o)), .val (.int (Int32.ofNat (min n 192))), .val (.int (Int32.ofNat 2)), .val (.long (own_ac mv (64 * 2) ((min n 192) - 64 * 2))), .second] []) (own_Fin s (fun (v : Option Value) (h : Heap) (L : List Loc) => v = none ∧ Fr n0 L ∧ Keep hs h [in_] ∧ own_Av Z h in_ .long 8 (own_gw g_ o (own_wv mv n) ((n - 1) / 64 + 1))) 0 0) := by
  show own_Go p e below T0 (mkF m 63 #[.val (.ref this), .val (.ref mk), .val (.ref in_), .val (.int (Int32.ofNat o)), .val (.int (Int32.ofNat (min n 192))), .val (.int (Int32.ofNat 2)), .val (.long (own_ac mv (64 * 2) ((min n 192) - 64 * 2))), .second] []) _
  refine own_s_aloadN X0.here hx (hb hby own_d6_63) rfl rfl ?_
  refine own_s_iloadN X0.here hx (hb hby own_d6_64) rfl ?_
  refine own_s_iload X0.here hx (hb hby own_d6_65) rfl ?_
  refine own_s_iadd X0.here hx (hb hby own_d6_67) ?_
  refine own_s_lload X0.here hx (hb hby own_d6_68) rfl ?_
  obtain ⟨T141, h141, X141, e141, W141, fa141, st141⟩ := own_stJ X0 hx hZ e0 F8 (k := (o + 2)) (own_ix2 (by omega)) (by omega) (g := (mkF m 70 #[.val (.ref this), .val (.ref mk), .val (.ref in_), .val (.int (Int32.ofNat o)), .val (.int (Int32.ofNat (min n 192))), .val (.int (Int32.ofNat 2)), .val (.long (own_ac mv (64 * 2) ((min n 192) - 64 * 2))), .second] [(.long (own_ac mv (64 * 2) ((min n 192) - 64 * 2))), (.int ((Int32.ofNat o) + (Int32.ofNat 2))), (.ref in_)])) rfl rfl (hb hby own_d6_70)
  have f142 := F0.other W141 (Or.inl ne_this_in_)
  have f143 := F1.other W141 ne_am_in_
  have f144 := F2.other W141 (Or.inl ne_this_in_)
  have f145 := F3.other W141 ne_aw_in_
  have f146 := F4.other W141 (Or.inl ne_this_in_)
  have f147 := F5.other W141 ne_as_in_
  have f148 := F6.other W141 (Or.inl ne_this_in_)
  have f149 := F7.other W141 ne_mk_in_
  have N141 := Fr.snoc X141 N0 ge_in
  have SZ141 : n0 ≤ h141.size := by rw [W141.size]; exact Z0
  have K141 := F9.wr W141 (Or.inl (List.mem_of_getElem? (i := 0) rfl))
  refine own_by st141 ?_
  show own_Go p e below T141 (mkF m 71 #[.val (.ref this), .val (.ref mk), .val (.ref in_), .val (.int (Int32.ofNat o)), .val (.int (Int32.ofNat (min n 192))), .val (.int (Int32.ofNat 2)), .val (.long (own_ac mv (64 * 2) ((min n 192) - 64 * 2))), .second] []) _
  refine own_by (fun tq_ kq_ => XS.iinc X141.here hx rfl (hb hby own_d6_71) rfl (l' := #[.val (.ref this), .val (.ref mk), .val (.ref in_), .val (.int (Int32.ofNat o)), .val (.int (Int32.ofNat (min n 192))), .val (.int ((Int32.ofNat 2) + (1 : Int32))), .val (.long (own_ac mv (64 * 2) ((min n 192) - 64 * 2))), .second]) rfl kq_) ?_
  show own_Go p e below T141 (mkF m 74 #[.val (.ref this), .val (.ref mk), .val (.ref in_), .val (.int (Int32.ofNat o)), .val (.int (Int32.ofNat (min n 192))), .val (.int ((Int32.ofNat 2) + (1 : Int32))), .val (.long (own_ac mv (64 * 2) ((min n 192) - 64 * 2))), .second] []) _
  refine own_s_goto X141.here hx 6 (hb hby own_d6_74) (by decide) (by decide) ?_
  show own_Go p e below T141 (mkF m 6 #[.val (.ref this), .val (.ref mk), .val (.ref in_), .val (.int (Int32.ofNat o)), .val (.int (Int32.ofNat (min n 192))), .val (.int (Int32.ofNat 3)), .val (.long (own_ac mv (64 * 2) ((min n 192) - 64 * 2))), .second] []) _
  exact own_k6_3 hx hZ hw hby hml hown hnm hret hlk hs this mk in_ am aw as n o g_ mv _ X141 e141 N141 SZ141 hn ge_in ne_this_in_ ne_am_in_ ne_aw_in_ ne_as_in_ ne_mk_in_ ho (by omega) f142 f143 f144 f145 f146 f147 f148 f149 fa141 K141
set_option maxRecDepth 65536 in
set_option maxHeartbeats 40000000 in
theorem own_k6_2 {p : Program} {l : Launch} {e : Env} {s : State} {m : MethodId} {args : Array Value} {below : List Frame} {meth : Method} {c : Code} {Z : State} {a0 : Array Value} {n0 : Nat} (hx : p.tables.exec = Jvm.exec) (hZ : Z.Warmed39 s.vm) (hw : ∀ d ∈ tables_1, d.before a0 Z = true) (hby : c.code = prog_21_method_6_code) (hml : c.maxLocals = 8) (hown : s.vm.findClass "com/example/lapse/lapse/MarkingCode" = some m.cls) (hnm : meth.name = "pack") (hret : meth.sig.returnType = none) (hlk : meth.locks = false) (hs : Heap) (this mk in_ am aw as : Addr) (n o : Nat) (g_ : Nat → Value) (mv : Nat → Int64) (x_ : Int64) {T0 : State} {locs : List Loc} {h0 : Heap} (X0 : Stand p l e ({ frames := 0, cells := 0, slots := 0, locals := 0 } : Room) s m args below meth c T0 locs 0 0) (e0 : T0.heap = h0) (N0 : Fr n0 locs) (Z0 : n0 ≤ h0.size) (hn : n ≤ 130) (ge_in : n0 ≤ in_) (ne_this_in_ : this ≠ in_) (ne_am_in_ : am ≠ in_) (ne_aw_in_ : aw ≠ in_) (ne_as_in_ : as ≠ in_) (ne_mk_in_ : mk ≠ in_) (ho : o ≤ 3) (hle : 2 ≤ ((n - 1) / 64 + 1)) (F0 : Fld Z h0 this "com/example/lapse/lapse/MarkingCode" "most" "[I" (.ref am)) (F1 : own_Av Z h0 am .int n (fun _ => .int (1 : Int32))) (F2 : Fld Z h0 this "com/example/lapse/lapse/MarkingCode" "words" "[I" (.ref aw)) (F3 : own_Av Z h0 aw .int n (fun j => .int (Int32.ofNat (j / 64)))) (F4 : Fld Z h0 this "com/example/lapse/lapse/MarkingCode" "shifts" "[I" (.ref as)) (F5 : own_Av Z h0 as .int n (fun j => .int (Int32.ofNat (j % 64)))) (F6 : Fld Z h0 this "com/example/lapse/lapse/MarkingCode" "length" "I" (.int (Int32.ofNat ((n - 1) / 64 + 1)))) (F7 : own_Av Z h0 mk .long 130 (fun j => .long (mv j))) (F8 : own_Av Z h0 in_ .long 8 (own_gw g_ o (own_wv mv n) 2)) (F9 : Keep hs h0 [in_]) :
    own_Go p e below T0 (mkF m 6 #[.val (.ref this), .val (.ref mk), .val (.ref in_), .val (.int (Int32.ofNat o)), .val (.int (Int32.ofNat (min n 128))), .val (.int (Int32.ofNat 2)), .val (.long x_), .second] []) (own_Fin s (fun (v : Option Value) (h : Heap) (L : List Loc) => v = none ∧ Fr n0 L ∧ Keep hs h [in_] ∧ own_Av Z h in_ .long 8 (own_gw g_ o (own_wv mv n) ((n - 1) / 64 + 1))) 0 0) := by
  show own_Go p e below T0 (mkF m 6 #[.val (.ref this), .val (.ref mk), .val (.ref in_), .val (.int (Int32.ofNat o)), .val (.int (Int32.ofNat (min n 128))), .val (.int (Int32.ofNat 2)), .val (.long x_), .second] []) _
  refine own_s_iload X0.here hx (hb hby own_d6_6) rfl ?_
  refine own_s_aloadN X0.here hx (hb hby own_d6_8) rfl rfl ?_
  obtain ⟨T150, X150, e150, st150⟩ := getF X0 hx hZ hown (host := "") (Or.inl (hw _ (List.mem_of_getElem? (i := 28) rfl))) Via.refl e0 F6 (g := (mkF m 9 #[.val (.ref this), .val (.ref mk), .val (.ref in_), .val (.int (Int32.ofNat o)), .val (.int (Int32.ofNat (min n 128))), .val (.int (Int32.ofNat 2)), .val (.long x_), .second] [(.ref this), (.int (Int32.ofNat 2))])) rfl rfl (hb hby own_d6_9)
  refine own_by st150 ?_
  show own_Go p e below T150 (mkF m 12 #[.val (.ref this), .val (.ref mk), .val (.ref in_), .val (.int (Int32.ofNat o)), .val (.int (Int32.ofNat (min n 128))), .val (.int (Int32.ofNat 2)), .val (.long x_), .second] [(.int (Int32.ofNat ((n - 1) / 64 + 1))), (.int (Int32.ofNat 2))]) _
  by_cases hc12 : (Int32.ofNat 2) < (Int32.ofNat ((n - 1) / 64 + 1))
  ·
    refine own_s_icmpNo X150.here hx (hb hby own_d6_12) (Jvm.Free.XT.ii_ge_f hc12) ?_
    refine own_s_lconst X150.here hx (0 : Int64) (hb hby own_d6_15) rfl ?_
    refine own_s_lstore X150.here hx #[.val (.ref this), .val (.ref mk), .val (.ref in_), .val (.int (Int32.ofNat o)), .val (.int (Int32.ofNat (min n 128))), .val (.int (Int32.ofNat 2)), .val (.long (0 : Int64)), .second] (hb hby own_d6_16) rfl ?_
    have hln : 2 < ((n - 1) / 64 + 1) := (own_oflt (by omega) (by omega)).mp hc12
    have ez : (0 : Int64) = own_ac mv (64 * 2) ((min n 128) - 64 * 2) := by rw [show (min n 128) - 64 * 2 = 0 from by omega]; rfl
    rw [ez]
    exact own_inn hx hZ hw hby hml hown hnm hret hlk hs this mk in_ am aw as n o g_ mv 2 (min n 192) hn ge_in ne_this_in_ ne_am_in_ ne_aw_in_ ne_as_in_ ne_mk_in_ (by omega) (by omega) (by omega) (fun T1 locs1 h1 X1 e1 N1 Z1 G0 G1 G2 G3 G4 G5 G6 G7 G8 G9 => own_k63_2 hx hZ hw hby hml hown hnm hret hlk hs this mk in_ am aw as n o g_ mv X1 e1 N1 Z1 hn ge_in ne_this_in_ ne_am_in_ ne_aw_in_ ne_as_in_ ne_mk_in_ ho hln G0 G1 G2 G3 G4 G5 G6 G7 G8 G9) ((min n 192) - (min n 128)) (min n 128) (by omega) X150 e150 N0 Z0 F0 F1 F2 F3 F4 F5 F6 F7 F8 F9 (by omega)
  ·
    refine own_s_icmpYes X150.here hx 77 (hb hby own_d6_12) (Jvm.Free.XT.ii_ge_t hc12) (by decide) (by decide) ?_
    refine own_retV X150 hx hret hlk (hb hby own_d6_77) (by decide) (by decide) ?_
    rw [e150]
    have hc' : ¬ 2 < ((n - 1) / 64 + 1) := fun q => hc12 ((own_oflt (by omega) (by omega)).mpr q)
    exact ⟨rfl, N0, F9, by rw [show ((n - 1) / 64 + 1) = 2 from by omega]; exact F8⟩
set_option maxRecDepth 65536 in
set_option maxHeartbeats 40000000 in
theorem own_k63_1 {p : Program} {l : Launch} {e : Env} {s : State} {m : MethodId} {args : Array Value} {below : List Frame} {meth : Method} {c : Code} {Z : State} {a0 : Array Value} {n0 : Nat} (hx : p.tables.exec = Jvm.exec) (hZ : Z.Warmed39 s.vm) (hw : ∀ d ∈ tables_1, d.before a0 Z = true) (hby : c.code = prog_21_method_6_code) (hml : c.maxLocals = 8) (hown : s.vm.findClass "com/example/lapse/lapse/MarkingCode" = some m.cls) (hnm : meth.name = "pack") (hret : meth.sig.returnType = none) (hlk : meth.locks = false) (hs : Heap) (this mk in_ am aw as : Addr) (n o : Nat) (g_ : Nat → Value) (mv : Nat → Int64) {T0 : State} {locs : List Loc} {h0 : Heap} (X0 : Stand p l e ({ frames := 0, cells := 0, slots := 0, locals := 0 } : Room) s m args below meth c T0 locs 0 0) (e0 : T0.heap = h0) (N0 : Fr n0 locs) (Z0 : n0 ≤ h0.size) (hn : n ≤ 130) (ge_in : n0 ≤ in_) (ne_this_in_ : this ≠ in_) (ne_am_in_ : am ≠ in_) (ne_aw_in_ : aw ≠ in_) (ne_as_in_ : as ≠ in_) (ne_mk_in_ : mk ≠ in_) (ho : o ≤ 3) (hln : 1 < ((n - 1) / 64 + 1)) (F0 : Fld Z h0 this "com/example/lapse/lapse/MarkingCode" "most" "[I" (.ref am)) (F1 : own_Av Z h0 am .int n (fun _ => .int (1 : Int32))) (F2 : Fld Z h0 this "com/example/lapse/lapse/MarkingCode" "words" "[I" (.ref aw)) (F3 : own_Av Z h0 aw .int n (fun j => .int (Int32.ofNat (j / 64)))) (F4 : Fld Z h0 this "com/example/lapse/lapse/MarkingCode" "shifts" "[I" (.ref as)) (F5 : own_Av Z h0 as .int n (fun j => .int (Int32.ofNat (j % 64)))) (F6 : Fld Z h0 this "com/example/lapse/lapse/MarkingCode" "length" "I" (.int (Int32.ofNat ((n - 1) / 64 + 1)))) (F7 : own_Av Z h0 mk .long 130 (fun j => .long (mv j))) (F8 : own_Av Z h0 in_ .long 8 (own_gw g_ o (own_wv mv n) 1)) (F9 : Keep hs h0 [in_]) :
    own_Go p e below T0 (mkF m 63 #[.val (.ref this), .val (.ref mk), .val (.ref in_), .val (.int (Int32.ofNat o)), .val (.int (Int32.ofNat (min n 128))), .val (.int (Int32.ofNat 1)), .val (.long (own_ac mv (64 * 1) ((min n 128) - 64 * 1))), .second] []) (own_Fin s (fun (v : Option Value) (h : Heap) (L : List Loc) => v = none ∧ Fr n0 L ∧ Keep hs h [in_] ∧ own_Av Z h in_ .long 8 (own_gw g_ o (own_wv mv n) ((n - 1) / 64 + 1))) 0 0) := by
  show own_Go p e below T0 (mkF m 63 #[.val (.ref this), .val (.ref mk), .val (.ref in_), .val (.int (Int32.ofNat o)), .val (.int (Int32.ofNat (min n 128))), .val (.int (Int32.ofNat 1)), .val (.long (own_ac mv (64 * 1) ((min n 128) - 64 * 1))), .second] []) _
  refine own_s_aloadN X0.here hx (hb hby own_d6_63) rfl rfl ?_
  refine own_s_iloadN X0.here hx (hb hby own_d6_64) rfl ?_
  refine own_s_iload X0.here hx (hb hby own_d6_65) rfl ?_
  refine own_s_iadd X0.here hx (hb hby own_d6_67) ?_
  refine own_s_lload X0.here hx (hb hby own_d6_68) rfl ?_
  obtain ⟨T151, h151, X151, e151, W151, fa151, st151⟩ := own_stJ X0 hx hZ e0 F8 (k := (o + 1)) (own_ix2 (by omega)) (by omega) (g := (mkF m 70 #[.val (.ref this), .val (.ref mk), .val (.ref in_), .val (.int (Int32.ofNat o)), .val (.int (Int32.ofNat (min n 128))), .val (.int (Int32.ofNat 1)), .val (.long (own_ac mv (64 * 1) ((min n 128) - 64 * 1))), .second] [(.long (own_ac mv (64 * 1) ((min n 128) - 64 * 1))), (.int ((Int32.ofNat o) + (Int32.ofNat 1))), (.ref in_)])) rfl rfl (hb hby own_d6_70)
  have f152 := F0.other W151 (Or.inl ne_this_in_)
  have f153 := F1.other W151 ne_am_in_
  have f154 := F2.other W151 (Or.inl ne_this_in_)
  have f155 := F3.other W151 ne_aw_in_
  have f156 := F4.other W151 (Or.inl ne_this_in_)
  have f157 := F5.other W151 ne_as_in_
  have f158 := F6.other W151 (Or.inl ne_this_in_)
  have f159 := F7.other W151 ne_mk_in_
  have N151 := Fr.snoc X151 N0 ge_in
  have SZ151 : n0 ≤ h151.size := by rw [W151.size]; exact Z0
  have K151 := F9.wr W151 (Or.inl (List.mem_of_getElem? (i := 0) rfl))
  refine own_by st151 ?_
  show own_Go p e below T151 (mkF m 71 #[.val (.ref this), .val (.ref mk), .val (.ref in_), .val (.int (Int32.ofNat o)), .val (.int (Int32.ofNat (min n 128))), .val (.int (Int32.ofNat 1)), .val (.long (own_ac mv (64 * 1) ((min n 128) - 64 * 1))), .second] []) _
  refine own_by (fun tq_ kq_ => XS.iinc X151.here hx rfl (hb hby own_d6_71) rfl (l' := #[.val (.ref this), .val (.ref mk), .val (.ref in_), .val (.int (Int32.ofNat o)), .val (.int (Int32.ofNat (min n 128))), .val (.int ((Int32.ofNat 1) + (1 : Int32))), .val (.long (own_ac mv (64 * 1) ((min n 128) - 64 * 1))), .second]) rfl kq_) ?_
  show own_Go p e below T151 (mkF m 74 #[.val (.ref this), .val (.ref mk), .val (.ref in_), .val (.int (Int32.ofNat o)), .val (.int (Int32.ofNat (min n 128))), .val (.int ((Int32.ofNat 1) + (1 : Int32))), .val (.long (own_ac mv (64 * 1) ((min n 128) - 64 * 1))), .second] []) _
  refine own_s_goto X151.here hx 6 (hb hby own_d6_74) (by decide) (by decide) ?_
  show own_Go p e below T151 (mkF m 6 #[.val (.ref this), .val (.ref mk), .val (.ref in_), .val (.int (Int32.ofNat o)), .val (.int (Int32.ofNat (min n 128))), .val (.int (Int32.ofNat 2)), .val (.long (own_ac mv (64 * 1) ((min n 128) - 64 * 1))), .second] []) _
  exact own_k6_2 hx hZ hw hby hml hown hnm hret hlk hs this mk in_ am aw as n o g_ mv _ X151 e151 N151 SZ151 hn ge_in ne_this_in_ ne_am_in_ ne_aw_in_ ne_as_in_ ne_mk_in_ ho (by omega) f152 f153 f154 f155 f156 f157 f158 f159 fa151 K151
set_option maxRecDepth 65536 in
set_option maxHeartbeats 40000000 in
theorem own_k6_1 {p : Program} {l : Launch} {e : Env} {s : State} {m : MethodId} {args : Array Value} {below : List Frame} {meth : Method} {c : Code} {Z : State} {a0 : Array Value} {n0 : Nat} (hx : p.tables.exec = Jvm.exec) (hZ : Z.Warmed39 s.vm) (hw : ∀ d ∈ tables_1, d.before a0 Z = true) (hby : c.code = prog_21_method_6_code) (hml : c.maxLocals = 8) (hown : s.vm.findClass "com/example/lapse/lapse/MarkingCode" = some m.cls) (hnm : meth.name = "pack") (hret : meth.sig.returnType = none) (hlk : meth.locks = false) (hs : Heap) (this mk in_ am aw as : Addr) (n o : Nat) (g_ : Nat → Value) (mv : Nat → Int64) (x_ : Int64) {T0 : State} {locs : List Loc} {h0 : Heap} (X0 : Stand p l e ({ frames := 0, cells := 0, slots := 0, locals := 0 } : Room) s m args below meth c T0 locs 0 0) (e0 : T0.heap = h0) (N0 : Fr n0 locs) (Z0 : n0 ≤ h0.size) (hn : n ≤ 130) (ge_in : n0 ≤ in_) (ne_this_in_ : this ≠ in_) (ne_am_in_ : am ≠ in_) (ne_aw_in_ : aw ≠ in_) (ne_as_in_ : as ≠ in_) (ne_mk_in_ : mk ≠ in_) (ho : o ≤ 3) (hle : 1 ≤ ((n - 1) / 64 + 1)) (F0 : Fld Z h0 this "com/example/lapse/lapse/MarkingCode" "most" "[I" (.ref am)) (F1 : own_Av Z h0 am .int n (fun _ => .int (1 : Int32))) (F2 : Fld Z h0 this "com/example/lapse/lapse/MarkingCode" "words" "[I" (.ref aw)) (F3 : own_Av Z h0 aw .int n (fun j => .int (Int32.ofNat (j / 64)))) (F4 : Fld Z h0 this "com/example/lapse/lapse/MarkingCode" "shifts" "[I" (.ref as)) (F5 : own_Av Z h0 as .int n (fun j => .int (Int32.ofNat (j % 64)))) (F6 : Fld Z h0 this "com/example/lapse/lapse/MarkingCode" "length" "I" (.int (Int32.ofNat ((n - 1) / 64 + 1)))) (F7 : own_Av Z h0 mk .long 130 (fun j => .long (mv j))) (F8 : own_Av Z h0 in_ .long 8 (own_gw g_ o (own_wv mv n) 1)) (F9 : Keep hs h0 [in_]) :
    own_Go p e below T0 (mkF m 6 #[.val (.ref this), .val (.ref mk), .val (.ref in_), .val (.int (Int32.ofNat o)), .val (.int (Int32.ofNat (min n 64))), .val (.int (Int32.ofNat 1)), .val (.long x_), .second] []) (own_Fin s (fun (v : Option Value) (h : Heap) (L : List Loc) => v = none ∧ Fr n0 L ∧ Keep hs h [in_] ∧ own_Av Z h in_ .long 8 (own_gw g_ o (own_wv mv n) ((n - 1) / 64 + 1))) 0 0) := by
  show own_Go p e below T0 (mkF m 6 #[.val (.ref this), .val (.ref mk), .val (.ref in_), .val (.int (Int32.ofNat o)), .val (.int (Int32.ofNat (min n 64))), .val (.int (Int32.ofNat 1)), .val (.long x_), .second] []) _
  refine own_s_iload X0.here hx (hb hby own_d6_6) rfl ?_
  refine own_s_aloadN X0.here hx (hb hby own_d6_8) rfl rfl ?_
  obtain ⟨T160, X160, e160, st160⟩ := getF X0 hx hZ hown (host := "") (Or.inl (hw _ (List.mem_of_getElem? (i := 28) rfl))) Via.refl e0 F6 (g := (mkF m 9 #[.val (.ref this), .val (.ref mk), .val (.ref in_), .val (.int (Int32.ofNat o)), .val (.int (Int32.ofNat (min n 64))), .val (.int (Int32.ofNat 1)), .val (.long x_), .second] [(.ref this), (.int (Int32.ofNat 1))])) rfl rfl (hb hby own_d6_9)
  refine own_by st160 ?_
  show own_Go p e below T160 (mkF m 12 #[.val (.ref this), .val (.ref mk), .val (.ref in_), .val (.int (Int32.ofNat o)), .val (.int (Int32.ofNat (min n 64))), .val (.int (Int32.ofNat 1)), .val (.long x_), .second] [(.int (Int32.ofNat ((n - 1) / 64 + 1))), (.int (Int32.ofNat 1))]) _
  by_cases hc12 : (Int32.ofNat 1) < (Int32.ofNat ((n - 1) / 64 + 1))
  ·
    refine own_s_icmpNo X160.here hx (hb hby own_d6_12) (Jvm.Free.XT.ii_ge_f hc12) ?_
    refine own_s_lconst X160.here hx (0 : Int64) (hb hby own_d6_15) rfl ?_
    refine own_s_lstore X160.here hx #[.val (.ref this), .val (.ref mk), .val (.ref in_), .val (.int (Int32.ofNat o)), .val (.int (Int32.ofNat (min n 64))), .val (.int (Int32.ofNat 1)), .val (.long (0 : Int64)), .second] (hb hby own_d6_16) rfl ?_
    have hln : 1 < ((n - 1) / 64 + 1) := (own_oflt (by omega) (by omega)).mp hc12
    have ez : (0 : Int64) = own_ac mv (64 * 1) ((min n 64) - 64 * 1) := by rw [show (min n 64) - 64 * 1 = 0 from by omega]; rfl
    rw [ez]
    exact own_inn hx hZ hw hby hml hown hnm hret hlk hs this mk in_ am aw as n o g_ mv 1 (min n 128) hn ge_in ne_this_in_ ne_am_in_ ne_aw_in_ ne_as_in_ ne_mk_in_ (by omega) (by omega) (by omega) (fun T1 locs1 h1 X1 e1 N1 Z1 G0 G1 G2 G3 G4 G5 G6 G7 G8 G9 => own_k63_1 hx hZ hw hby hml hown hnm hret hlk hs this mk in_ am aw as n o g_ mv X1 e1 N1 Z1 hn ge_in ne_this_in_ ne_am_in_ ne_aw_in_ ne_as_in_ ne_mk_in_ ho hln G0 G1 G2 G3 G4 G5 G6 G7 G8 G9) ((min n 128) - (min n 64)) (min n 64) (by omega) X160 e160 N0 Z0 F0 F1 F2 F3 F4 F5 F6 F7 F8 F9 (by omega)
  ·
    refine own_s_icmpYes X160.here hx 77 (hb hby own_d6_12) (Jvm.Free.XT.ii_ge_t hc12) (by decide) (by decide) ?_
    refine own_retV X160 hx hret hlk (hb hby own_d6_77) (by decide) (by decide) ?_
    rw [e160]
    have hc' : ¬ 1 < ((n - 1) / 64 + 1) := fun q => hc12 ((own_oflt (by omega) (by omega)).mpr q)
    exact ⟨rfl, N0, F9, by rw [show ((n - 1) / 64 + 1) = 1 from by omega]; exact F8⟩
set_option maxRecDepth 65536 in
set_option maxHeartbeats 40000000 in
theorem own_k63_0 {p : Program} {l : Launch} {e : Env} {s : State} {m : MethodId} {args : Array Value} {below : List Frame} {meth : Method} {c : Code} {Z : State} {a0 : Array Value} {n0 : Nat} (hx : p.tables.exec = Jvm.exec) (hZ : Z.Warmed39 s.vm) (hw : ∀ d ∈ tables_1, d.before a0 Z = true) (hby : c.code = prog_21_method_6_code) (hml : c.maxLocals = 8) (hown : s.vm.findClass "com/example/lapse/lapse/MarkingCode" = some m.cls) (hnm : meth.name = "pack") (hret : meth.sig.returnType = none) (hlk : meth.locks = false) (hs : Heap) (this mk in_ am aw as : Addr) (n o : Nat) (g_ : Nat → Value) (mv : Nat → Int64) {T0 : State} {locs : List Loc} {h0 : Heap} (X0 : Stand p l e ({ frames := 0, cells := 0, slots := 0, locals := 0 } : Room) s m args below meth c T0 locs 0 0) (e0 : T0.heap = h0) (N0 : Fr n0 locs) (Z0 : n0 ≤ h0.size) (hn : n ≤ 130) (ge_in : n0 ≤ in_) (ne_this_in_ : this ≠ in_) (ne_am_in_ : am ≠ in_) (ne_aw_in_ : aw ≠ in_) (ne_as_in_ : as ≠ in_) (ne_mk_in_ : mk ≠ in_) (ho : o ≤ 3) (hln : 0 < ((n - 1) / 64 + 1)) (F0 : Fld Z h0 this "com/example/lapse/lapse/MarkingCode" "most" "[I" (.ref am)) (F1 : own_Av Z h0 am .int n (fun _ => .int (1 : Int32))) (F2 : Fld Z h0 this "com/example/lapse/lapse/MarkingCode" "words" "[I" (.ref aw)) (F3 : own_Av Z h0 aw .int n (fun j => .int (Int32.ofNat (j / 64)))) (F4 : Fld Z h0 this "com/example/lapse/lapse/MarkingCode" "shifts" "[I" (.ref as)) (F5 : own_Av Z h0 as .int n (fun j => .int (Int32.ofNat (j % 64)))) (F6 : Fld Z h0 this "com/example/lapse/lapse/MarkingCode" "length" "I" (.int (Int32.ofNat ((n - 1) / 64 + 1)))) (F7 : own_Av Z h0 mk .long 130 (fun j => .long (mv j))) (F8 : own_Av Z h0 in_ .long 8 (own_gw g_ o (own_wv mv n) 0)) (F9 : Keep hs h0 [in_]) :
    own_Go p e below T0 (mkF m 63 #[.val (.ref this), .val (.ref mk), .val (.ref in_), .val (.int (Int32.ofNat o)), .val (.int (Int32.ofNat (min n 64))), .val (.int (Int32.ofNat 0)), .val (.long (own_ac mv (64 * 0) ((min n 64) - 64 * 0))), .second] []) (own_Fin s (fun (v : Option Value) (h : Heap) (L : List Loc) => v = none ∧ Fr n0 L ∧ Keep hs h [in_] ∧ own_Av Z h in_ .long 8 (own_gw g_ o (own_wv mv n) ((n - 1) / 64 + 1))) 0 0) := by
  show own_Go p e below T0 (mkF m 63 #[.val (.ref this), .val (.ref mk), .val (.ref in_), .val (.int (Int32.ofNat o)), .val (.int (Int32.ofNat (min n 64))), .val (.int (Int32.ofNat 0)), .val (.long (own_ac mv (64 * 0) ((min n 64) - 64 * 0))), .second] []) _
  refine own_s_aloadN X0.here hx (hb hby own_d6_63) rfl rfl ?_
  refine own_s_iloadN X0.here hx (hb hby own_d6_64) rfl ?_
  refine own_s_iload X0.here hx (hb hby own_d6_65) rfl ?_
  refine own_s_iadd X0.here hx (hb hby own_d6_67) ?_
  refine own_s_lload X0.here hx (hb hby own_d6_68) rfl ?_
  obtain ⟨T161, h161, X161, e161, W161, fa161, st161⟩ := own_stJ X0 hx hZ e0 F8 (k := (o + 0)) (own_ix2 (by omega)) (by omega) (g := (mkF m 70 #[.val (.ref this), .val (.ref mk), .val (.ref in_), .val (.int (Int32.ofNat o)), .val (.int (Int32.ofNat (min n 64))), .val (.int (Int32.ofNat 0)), .val (.long (own_ac mv (64 * 0) ((min n 64) - 64 * 0))), .second] [(.long (own_ac mv (64 * 0) ((min n 64) - 64 * 0))), (.int ((Int32.ofNat o) + (Int32.ofNat 0))), (.ref in_)])) rfl rfl (hb hby own_d6_70)
  have f162 := F0.other W161 (Or.inl ne_this_in_)
  have f163 := F1.other W161 ne_am_in_
  have f164 := F2.other W161 (Or.inl ne_this_in_)
  have f165 := F3.other W161 ne_aw_in_
  have f166 := F4.other W161 (Or.inl ne_this_in_)
  have f167 := F5.other W161 ne_as_in_
  have f168 := F6.other W161 (Or.inl ne_this_in_)
  have f169 := F7.other W161 ne_mk_in_
  have N161 := Fr.snoc X161 N0 ge_in
  have SZ161 : n0 ≤ h161.size := by rw [W161.size]; exact Z0
  have K161 := F9.wr W161 (Or.inl (List.mem_of_getElem? (i := 0) rfl))
  refine own_by st161 ?_
  show own_Go p e below T161 (mkF m 71 #[.val (.ref this), .val (.ref mk), .val (.ref in_), .val (.int (Int32.ofNat o)), .val (.int (Int32.ofNat (min n 64))), .val (.int (Int32.ofNat 0)), .val (.long (own_ac mv (64 * 0) ((min n 64) - 64 * 0))), .second] []) _
  refine own_by (fun tq_ kq_ => XS.iinc X161.here hx rfl (hb hby own_d6_71) rfl (l' := #[.val (.ref this), .val (.ref mk), .val (.ref in_), .val (.int (Int32.ofNat o)), .val (.int (Int32.ofNat (min n 64))), .val (.int ((Int32.ofNat 0) + (1 : Int32))), .val (.long (own_ac mv (64 * 0) ((min n 64) - 64 * 0))), .second]) rfl kq_) ?_
  show own_Go p e below T161 (mkF m 74 #[.val (.ref this), .val (.ref mk), .val (.ref in_), .val (.int (Int32.ofNat o)), .val (.int (Int32.ofNat (min n 64))), .val (.int ((Int32.ofNat 0) + (1 : Int32))), .val (.long (own_ac mv (64 * 0) ((min n 64) - 64 * 0))), .second] []) _
  refine own_s_goto X161.here hx 6 (hb hby own_d6_74) (by decide) (by decide) ?_
  show own_Go p e below T161 (mkF m 6 #[.val (.ref this), .val (.ref mk), .val (.ref in_), .val (.int (Int32.ofNat o)), .val (.int (Int32.ofNat (min n 64))), .val (.int (Int32.ofNat 1)), .val (.long (own_ac mv (64 * 0) ((min n 64) - 64 * 0))), .second] []) _
  exact own_k6_1 hx hZ hw hby hml hown hnm hret hlk hs this mk in_ am aw as n o g_ mv _ X161 e161 N161 SZ161 hn ge_in ne_this_in_ ne_am_in_ ne_aw_in_ ne_as_in_ ne_mk_in_ ho (by omega) f162 f163 f164 f165 f166 f167 f168 f169 fa161 K161
set_option maxRecDepth 65536 in
set_option maxHeartbeats 40000000 in
theorem own_k6_0 {p : Program} {l : Launch} {e : Env} {s : State} {m : MethodId} {args : Array Value} {below : List Frame} {meth : Method} {c : Code} {Z : State} {a0 : Array Value} {n0 : Nat} (hx : p.tables.exec = Jvm.exec) (hZ : Z.Warmed39 s.vm) (hw : ∀ d ∈ tables_1, d.before a0 Z = true) (hby : c.code = prog_21_method_6_code) (hml : c.maxLocals = 8) (hown : s.vm.findClass "com/example/lapse/lapse/MarkingCode" = some m.cls) (hnm : meth.name = "pack") (hret : meth.sig.returnType = none) (hlk : meth.locks = false) (hs : Heap) (this mk in_ am aw as : Addr) (n o : Nat) (g_ : Nat → Value) (mv : Nat → Int64) {T0 : State} {locs : List Loc} {h0 : Heap} (X0 : Stand p l e ({ frames := 0, cells := 0, slots := 0, locals := 0 } : Room) s m args below meth c T0 locs 0 0) (e0 : T0.heap = h0) (N0 : Fr n0 locs) (Z0 : n0 ≤ h0.size) (hn : n ≤ 130) (ge_in : n0 ≤ in_) (ne_this_in_ : this ≠ in_) (ne_am_in_ : am ≠ in_) (ne_aw_in_ : aw ≠ in_) (ne_as_in_ : as ≠ in_) (ne_mk_in_ : mk ≠ in_) (ho : o ≤ 3) (hle : 0 ≤ ((n - 1) / 64 + 1)) (F0 : Fld Z h0 this "com/example/lapse/lapse/MarkingCode" "most" "[I" (.ref am)) (F1 : own_Av Z h0 am .int n (fun _ => .int (1 : Int32))) (F2 : Fld Z h0 this "com/example/lapse/lapse/MarkingCode" "words" "[I" (.ref aw)) (F3 : own_Av Z h0 aw .int n (fun j => .int (Int32.ofNat (j / 64)))) (F4 : Fld Z h0 this "com/example/lapse/lapse/MarkingCode" "shifts" "[I" (.ref as)) (F5 : own_Av Z h0 as .int n (fun j => .int (Int32.ofNat (j % 64)))) (F6 : Fld Z h0 this "com/example/lapse/lapse/MarkingCode" "length" "I" (.int (Int32.ofNat ((n - 1) / 64 + 1)))) (F7 : own_Av Z h0 mk .long 130 (fun j => .long (mv j))) (F8 : own_Av Z h0 in_ .long 8 (own_gw g_ o (own_wv mv n) 0)) (F9 : Keep hs h0 [in_]) :
    own_Go p e below T0 (mkF m 6 #[.val (.ref this), .val (.ref mk), .val (.ref in_), .val (.int (Int32.ofNat o)), .val (.int (Int32.ofNat 0)), .val (.int (Int32.ofNat 0)), .unset, .unset] []) (own_Fin s (fun (v : Option Value) (h : Heap) (L : List Loc) => v = none ∧ Fr n0 L ∧ Keep hs h [in_] ∧ own_Av Z h in_ .long 8 (own_gw g_ o (own_wv mv n) ((n - 1) / 64 + 1))) 0 0) := by
  show own_Go p e below T0 (mkF m 6 #[.val (.ref this), .val (.ref mk), .val (.ref in_), .val (.int (Int32.ofNat o)), .val (.int (Int32.ofNat 0)), .val (.int (Int32.ofNat 0)), .unset, .unset] []) _
  refine own_s_iload X0.here hx (hb hby own_d6_6) rfl ?_
  refine own_s_aloadN X0.here hx (hb hby own_d6_8) rfl rfl ?_
  obtain ⟨T170, X170, e170, st170⟩ := getF X0 hx hZ hown (host := "") (Or.inl (hw _ (List.mem_of_getElem? (i := 28) rfl))) Via.refl e0 F6 (g := (mkF m 9 #[.val (.ref this), .val (.ref mk), .val (.ref in_), .val (.int (Int32.ofNat o)), .val (.int (Int32.ofNat 0)), .val (.int (Int32.ofNat 0)), .unset, .unset] [(.ref this), (.int (Int32.ofNat 0))])) rfl rfl (hb hby own_d6_9)
  refine own_by st170 ?_
  show own_Go p e below T170 (mkF m 12 #[.val (.ref this), .val (.ref mk), .val (.ref in_), .val (.int (Int32.ofNat o)), .val (.int (Int32.ofNat 0)), .val (.int (Int32.ofNat 0)), .unset, .unset] [(.int (Int32.ofNat ((n - 1) / 64 + 1))), (.int (Int32.ofNat 0))]) _
  by_cases hc12 : (Int32.ofNat 0) < (Int32.ofNat ((n - 1) / 64 + 1))
  ·
    refine own_s_icmpNo X170.here hx (hb hby own_d6_12) (Jvm.Free.XT.ii_ge_f hc12) ?_
    refine own_s_lconst X170.here hx (0 : Int64) (hb hby own_d6_15) rfl ?_
    refine own_s_lstore X170.here hx #[.val (.ref this), .val (.ref mk), .val (.ref in_), .val (.int (Int32.ofNat o)), .val (.int (Int32.ofNat 0)), .val (.int (Int32.ofNat 0)), .val (.long (0 : Int64)), .second] (hb hby own_d6_16) rfl ?_
    have hln : 0 < ((n - 1) / 64 + 1) := (own_oflt (by omega) (by omega)).mp hc12
    have ez : (0 : Int64) = own_ac mv (64 * 0) (0 - 64 * 0) := by rw [show 0 - 64 * 0 = 0 from by omega]; rfl
    rw [ez]
    exact own_inn hx hZ hw hby hml hown hnm hret hlk hs this mk in_ am aw as n o g_ mv 0 (min n 64) hn ge_in ne_this_in_ ne_am_in_ ne_aw_in_ ne_as_in_ ne_mk_in_ (by omega) (by omega) (by omega) (fun T1 locs1 h1 X1 e1 N1 Z1 G0 G1 G2 G3 G4 G5 G6 G7 G8 G9 => own_k63_0 hx hZ hw hby hml hown hnm hret hlk hs this mk in_ am aw as n o g_ mv X1 e1 N1 Z1 hn ge_in ne_this_in_ ne_am_in_ ne_aw_in_ ne_as_in_ ne_mk_in_ ho hln G0 G1 G2 G3 G4 G5 G6 G7 G8 G9) ((min n 64) - 0) 0 (by omega) X170 e170 N0 Z0 F0 F1 F2 F3 F4 F5 F6 F7 F8 F9 (by omega)
  ·
    refine own_s_icmpYes X170.here hx 77 (hb hby own_d6_12) (Jvm.Free.XT.ii_ge_t hc12) (by decide) (by decide) ?_
    refine own_retV X170 hx hret hlk (hb hby own_d6_77) (by decide) (by decide) ?_
    rw [e170]
    exact absurd ((own_oflt (i := 0) (by omega) (by omega)).mpr (by omega)) hc12
theorem own_ef6 (m : MethodId) (this : Addr) (mk : Addr) (in_ : Addr) (off_ : Int32) : entryFrame m #[(.ref this), (.ref mk), (.ref in_), (.int off_)] 8 = mkF m 0 #[.val (.ref this), .val (.ref mk), .val (.ref in_), .val (.int off_), .unset, .unset, .unset, .unset] [] := by first | (simp [entryFrame, mkF, argsToLocals, Value.category]; done) | rfl
def own_q_own_r6 (Z : State) (this : Addr) (mk : Addr) (in_ : Addr) (off_ : Int32) (am aw as : Addr) (n o : Nat) (g_ : Nat → Value) (mv : Nat → Int64) (h0 : Heap) (n0 : Nat) (v : Option Value) (h : Heap) (L : List Loc) : Prop := v = none ∧ Fr n0 L ∧ Keep h0 h [in_] ∧ own_Av Z h in_ .long 8 (own_gw g_ o (own_wv mv n) ((n - 1) / 64 + 1))
set_option maxRecDepth 65536 in
set_option maxHeartbeats 40000000 in
theorem own_r6 (l : Launch) (Z : State) (a0 : Array Value) (hw : ∀ d ∈ tables_1, d.before a0 Z = true) (ws : List Jvm.Cond) (this : Addr) (mk : Addr) (in_ : Addr) (off_ : Int32) (am aw as : Addr) (n o : Nat) (g_ : Nat → Value) (mv : Nat → Int64) (h0 : Heap) (n0 : Nat) (Z0 : n0 ≤ h0.size) (hoff : off_ = Int32.ofNat o) (hn : n ≤ 130) (ho : o ≤ 3) (F_this_most : Fld Z h0 this "com/example/lapse/lapse/MarkingCode" "most" "[I" (.ref am)) (F_this_words : Fld Z h0 this "com/example/lapse/lapse/MarkingCode" "words" "[I" (.ref aw)) (F_this_shifts : Fld Z h0 this "com/example/lapse/lapse/MarkingCode" "shifts" "[I" (.ref as)) (F_this_length : Fld Z h0 this "com/example/lapse/lapse/MarkingCode" "length" "I" (.int (Int32.ofNat ((n - 1) / 64 + 1)))) (A_am : own_Av Z h0 am .int n (fun _ => .int (1 : Int32))) (A_aw : own_Av Z h0 aw .int n (fun j => .int (Int32.ofNat (j / 64)))) (A_as : own_Av Z h0 as .int n (fun j => .int (Int32.ofNat (j % 64)))) (A_mk : own_Av Z h0 mk .long 130 (fun j => .long (mv j))) (A_in_ : own_Av Z h0 in_ .long 8 g_) (ge_in_ : n0 ≤ in_) (ne_this_in_ : this ≠ in_) (ne_am_in_ : am ≠ in_) (ne_aw_in_ : aw ≠ in_) (ne_as_in_ : as ≠ in_) (ne_mk_in_ : mk ≠ in_) :
    MetFree l (⟨"com/example/lapse/lapse/MarkingCode", "pack", "([J[JI)V"⟩ : MethodName) (head1 (Jvm.Cond.code (⟨"com/example/lapse/lapse/MarkingCode", "pack", "([J[JI)V"⟩ : MethodName) prog_21_method_6_code 8 none :: ws) ({ frames := 0, cells := 0, slots := 0, locals := 0 } : Room)) (fun aq Uq => aq = #[(.ref this), (.ref mk), (.ref in_), (.int off_)] ∧ Z.Warmed39 Uq.vm ∧ Uq.heap = h0) (fun _ _ _ _ _ => True) (fun _ Uq oq Uq' => ∃ vq Lq, oq = .returned vq ∧ own_q_own_r6 Z this mk in_ off_ am aw as n o g_ mv h0 n0 vq Uq'.heap Lq ∧ FrameEnd Uq oq Uq' Lq ({ frames := 0, cells := 0, slots := 0, locals := 0 } : Room).cells ({ frames := 0, cells := 0, slots := 0, locals := 0 } : Room).slots) := by
  refine MetFree.of_bodySF (plainFor_of_name own_pn_MarkingCode) hisR ?_
  intro p e s m args below meth c T0 Bd hml0 hP hK
  obtain ⟨rfl, hZ, hh⟩ := hP
  have hx := Bd.exec
  have hby := Bd.bytes
  have hml : c.maxLocals = 8 := hml0
  have hown : s.vm.findClass "com/example/lapse/lapse/MarkingCode" = some m.cls := findClass_of_methodNamed Bd.named
  have hnm := (name_of_methodNamed Bd.named Bd.method).1
  have hret : meth.sig.returnType = none := Bd.returns
  have hlk : meth.locks = false := BodyLoose.notSynchronized Bd
  have X0 : Stand p l e ({ frames := 0, cells := 0, slots := 0, locals := 0 } : Room) s m #[(.ref this), (.ref mk), (.ref in_), (.int off_)] below meth c T0 [] 0 0 := Stand.of_body Bd
  have e0 : T0.heap = h0 := by rw [← hh, Bd.state]; rfl
  have N0 := Fr.nil n0
  refine own_start (own_ef6 m this mk in_ off_) (Q := fun (v : Option Value) (h : Heap) (L : List Loc) => v = none ∧ Fr n0 L ∧ Keep h0 h [in_] ∧ own_Av Z h in_ .long 8 (own_gw g_ o (own_wv mv n) ((n - 1) / 64 + 1))) (k := 0) (j := 0) ?_
  show own_Go p e below T0 (mkF m 0 #[.val (.ref this), .val (.ref mk), .val (.ref in_), .val (.int off_), .unset, .unset, .unset, .unset] []) _
  subst hoff
  show own_Go p e below T0 (mkF m 0 #[.val (.ref this), .val (.ref mk), .val (.ref in_), .val (.int (Int32.ofNat o)), .unset, .unset, .unset, .unset] []) _
  have K0 := Keep.refl h0 [in_]
  refine own_s_iconst X0.here hx (0 : Int32) (hb hby own_d6_0) rfl ?_
  refine own_s_istore X0.here hx #[.val (.ref this), .val (.ref mk), .val (.ref in_), .val (.int (Int32.ofNat o)), .val (.int (0 : Int32)), .unset, .unset, .unset] (hb hby own_d6_1) rfl ?_
  refine own_s_iconst X0.here hx (0 : Int32) (hb hby own_d6_3) rfl ?_
  refine own_s_istore X0.here hx #[.val (.ref this), .val (.ref mk), .val (.ref in_), .val (.int (Int32.ofNat o)), .val (.int (0 : Int32)), .val (.int (0 : Int32)), .unset, .unset] (hb hby own_d6_4) rfl ?_
  show own_Go p e below T0 (mkF m 6 #[.val (.ref this), .val (.ref mk), .val (.ref in_), .val (.int (Int32.ofNat o)), .val (.int (Int32.ofNat 0)), .val (.int (Int32.ofNat 0)), .unset, .unset] []) _
  exact own_k6_0 hx hZ hw hby hml hown hnm hret hlk h0 this mk in_ am aw as n o g_ mv X0 e0 N0 Z0 hn ge_in_ ne_this_in_ ne_am_in_ ne_aw_in_ ne_as_in_ ne_mk_in_ ho (by omega) F_this_most A_am F_this_words A_aw F_this_shifts A_as F_this_length A_mk A_in_ K0
theorem own_atd {i p n : Int32} {ii ps nn : Nat} (hi : own_At i ii) (hp : own_At p ps) (hn : own_At n nn) (h1 : ii < 13) (h2 : ps ≤ 7) (h3 : nn ≤ 5) : ((i - p) < 0 ↔ ii < ps) ∧ (¬ (i - p) < 0 → ((i - p) < n ↔ ii - ps < nn) ∧ own_At (i - p) (ii - ps)) := by
  have a1 := hi.1; have a2 := hi.2; have b1 := hp.1; have b2 := hp.2; have c1 := hn.1; have c2 := hn.2
  simp only [Int32.lt_iff_toInt_lt, Int32.toNatClampNeg, show (0 : Int32).toInt = 0 from by decide] at a1 a2 b1 b2 c1 c2
  have e : (i - p).toInt = i.toInt - p.toInt := Jvm.Kit.i32_sub (by omega) (by omega)
  simp only [own_At, Int32.lt_iff_toInt_lt, Int32.toNatClampNeg, show (0 : Int32).toInt = 0 from by decide, e]
  omega
def own_tv (s : Int64) (ps n : Nat) (ev : Nat → Int64) (i : Nat) : Int64 := if ps ≤ i ∧ i < ps + n then ev (i - ps) else s
theorem own_gw_eq (s : Int64) (o : Nat) (ev : Nat → Int64) (n : Nat) : ∀ i, own_gw (fun _ => .long s) o ev n i = .long (own_tv s o n ev i) := by
  induction n with
  | zero => intro i; unfold own_tv; rw [if_neg (by omega)]; rfl
  | succ n ih =>
    intro i
    show own_upd (own_gw (fun _ => .long s) o ev n) (o + n) (.long (ev n)) i = _
    by_cases q : i = o + n
    · subst q; rw [own_upd_hit rfl]; unfold own_tv; rw [if_pos (by omega), show o + n - o = n from by omega]
    · rw [own_upd_miss q, ih i]; unfold own_tv
      by_cases q2 : o ≤ i ∧ i < o + n
      · rw [if_pos q2, if_pos (by omega)]
      · rw [if_neg q2, if_neg (by omega)]
theorem own_d7_0 : decode method_3_code 0 = .ok (.iload_n 1, 1) := by decide +kernel
theorem own_d7_1 : decode method_3_code 1 = .ok (.iload_n 2, 1) := by decide +kernel
theorem own_d7_2 : decode method_3_code 2 = .ok (.isub, 1) := by decide +kernel
theorem own_d7_3 : decode method_3_code 3 = .ok (.istore 7, 2) := by decide +kernel
theorem own_d7_5 : decode method_3_code 5 = .ok (.iload 7, 2) := by decide +kernel
theorem own_d7_7 : decode method_3_code 7 = .ok (.ifCond .lt 27, 3) := by decide +kernel
theorem own_d7_10 : decode method_3_code 10 = .ok (.iload 7, 2) := by decide +kernel
theorem own_d7_12 : decode method_3_code 12 = .ok (.iload_n 3, 1) := by decide +kernel
theorem own_d7_13 : decode method_3_code 13 = .ok (.if_icmp .ge 21, 3) := by decide +kernel
theorem own_d7_16 : decode method_3_code 16 = .ok (.aload_n 0, 1) := by decide +kernel
theorem own_d7_17 : decode method_3_code 17 = .ok (.iload_n 1, 1) := by decide +kernel
theorem own_d7_18 : decode method_3_code 18 = .ok (.laload, 1) := by decide +kernel
theorem own_d7_19 : decode method_3_code 19 = .ok (.aload 4, 2) := by decide +kernel
theorem own_d7_21 : decode method_3_code 21 = .ok (.iload 7, 2) := by decide +kernel
theorem own_d7_23 : decode method_3_code 23 = .ok (.laload, 1) := by decide +kernel
theorem own_d7_24 : decode method_3_code 24 = .ok (.lcmp, 1) := by decide +kernel
theorem own_d7_25 : decode method_3_code 25 = .ok (.ifCond .ne 7, 3) := by decide +kernel
theorem own_d7_28 : decode method_3_code 28 = .ok (.iconst 1, 1) := by decide +kernel
theorem own_d7_29 : decode method_3_code 29 = .ok (.goto 4, 3) := by decide +kernel
theorem own_d7_32 : decode method_3_code 32 = .ok (.iconst 0, 1) := by decide +kernel
theorem own_d7_33 : decode method_3_code 33 = .ok (.ireturn, 1) := by decide +kernel
theorem own_d7_34 : decode method_3_code 34 = .ok (.aload_n 0, 1) := by decide +kernel
theorem own_d7_35 : decode method_3_code 35 = .ok (.iload_n 1, 1) := by decide +kernel
theorem own_d7_36 : decode method_3_code 36 = .ok (.laload, 1) := by decide +kernel
theorem own_d7_37 : decode method_3_code 37 = .ok (.lload 5, 2) := by decide +kernel
theorem own_d7_39 : decode method_3_code 39 = .ok (.lcmp, 1) := by decide +kernel
theorem own_d7_40 : decode method_3_code 40 = .ok (.ifCond .ne 7, 3) := by decide +kernel
theorem own_d7_43 : decode method_3_code 43 = .ok (.iconst 1, 1) := by decide +kernel
theorem own_d7_44 : decode method_3_code 44 = .ok (.goto 4, 3) := by decide +kernel
theorem own_d7_47 : decode method_3_code 47 = .ok (.iconst 0, 1) := by decide +kernel
theorem own_d7_48 : decode method_3_code 48 = .ok (.ireturn, 1) := by decide +kernel
theorem own_pn_MarkingCodePackPinLaw : plainName "com/example/lapse/lapse/MarkingCodePackPinLaw" = true := by first | (simp [plainName, overriddenIn]; done) | decide +kernel
theorem own_ef7 (m : MethodId) (t_ : Addr) (i_ : Int32) (p_ : Int32) (n_ : Int32) (e_ : Addr) (s_ : Int64) : entryFrame m #[(.ref t_), (.int i_), (.int p_), (.int n_), (.ref e_), (.long s_)] 8 = mkF m 0 #[.val (.ref t_), .val (.int i_), .val (.int p_), .val (.int n_), .val (.ref e_), .val (.long s_), .second, .unset] [] := by first | (simp [entryFrame, mkF, argsToLocals, Value.category]; done) | rfl
def own_q_own_r7 (Z : State) (t_ : Addr) (i_ : Int32) (p_ : Int32) (n_ : Int32) (e_ : Addr) (s_ : Int64) (ii ps nn : Nat) (ev : Nat → Int64) (h0 : Heap) (n0 : Nat) (v : Option Value) (h : Heap) (L : List Loc) : Prop := v = some (.int 1) ∧ Fr n0 L ∧ h = h0
set_option maxRecDepth 65536 in
set_option maxHeartbeats 40000000 in
theorem own_r7 (l : Launch) (Z : State) (a0 : Array Value) (hw : ∀ d ∈ tables_1, d.before a0 Z = true) (ws : List Jvm.Cond) (t_ : Addr) (i_ : Int32) (p_ : Int32) (n_ : Int32) (e_ : Addr) (s_ : Int64) (ii ps nn : Nat) (ev : Nat → Int64) (h0 : Heap) (n0 : Nat) (Z0 : n0 ≤ h0.size) (hi : own_At i_ ii) (hp : own_At p_ ps) (hn : own_At n_ nn) (h1 : ii < 8) (h2 : ps ≤ 3) (h3 : nn ≤ 3) (A_t_ : own_Av Z h0 t_ .long 8 (fun i => .long (own_tv s_ ps nn ev i))) (A_e_ : own_Av Z h0 e_ .long 3 (fun i => .long (ev i))) :
    MetFree l (⟨"com/example/lapse/lapse/MarkingCodePackPinLaw", "ok", "([JIII[JJ)Z"⟩ : MethodName) (head1 (Jvm.Cond.code (⟨"com/example/lapse/lapse/MarkingCodePackPinLaw", "ok", "([JIII[JJ)Z"⟩ : MethodName) method_3_code 8 (some .boolean) :: ws) ({ frames := 0, cells := 0, slots := 0, locals := 0 } : Room)) (fun aq Uq => aq = #[(.ref t_), (.int i_), (.int p_), (.int n_), (.ref e_), (.long s_)] ∧ Z.Warmed39 Uq.vm ∧ Uq.heap = h0) (fun _ _ _ _ _ => True) (fun _ Uq oq Uq' => ∃ vq Lq, oq = .returned vq ∧ own_q_own_r7 Z t_ i_ p_ n_ e_ s_ ii ps nn ev h0 n0 vq Uq'.heap Lq ∧ FrameEnd Uq oq Uq' Lq ({ frames := 0, cells := 0, slots := 0, locals := 0 } : Room).cells ({ frames := 0, cells := 0, slots := 0, locals := 0 } : Room).slots) := by
  refine MetFree.of_bodySF (plainFor_of_name own_pn_MarkingCodePackPinLaw) hisR ?_
  intro p e s m args below meth c T0 Bd hml0 hP hK
  obtain ⟨rfl, hZ, hh⟩ := hP
  have hx := Bd.exec
  have hby := Bd.bytes
  have hml : c.maxLocals = 8 := hml0
  have hown : s.vm.findClass "com/example/lapse/lapse/MarkingCodePackPinLaw" = some m.cls := findClass_of_methodNamed Bd.named
  have hnm := (name_of_methodNamed Bd.named Bd.method).1
  have hret : meth.sig.returnType = (some .boolean) := Bd.returns
  have hlk : meth.locks = false := BodyLoose.notSynchronized Bd
  have X0 : Stand p l e ({ frames := 0, cells := 0, slots := 0, locals := 0 } : Room) s m #[(.ref t_), (.int i_), (.int p_), (.int n_), (.ref e_), (.long s_)] below meth c T0 [] 0 0 := Stand.of_body Bd
  have e0 : T0.heap = h0 := by rw [← hh, Bd.state]; rfl
  have N0 := Fr.nil n0
  refine own_start (own_ef7 m t_ i_ p_ n_ e_ s_) (Q := fun (v : Option Value) (h : Heap) (L : List Loc) => v = some (.int 1) ∧ Fr n0 L ∧ h = h0) (k := 0) (j := 0) ?_
  show own_Go p e below T0 (mkF m 0 #[.val (.ref t_), .val (.int i_), .val (.int p_), .val (.int n_), .val (.ref e_), .val (.long s_), .second, .unset] []) _
  refine own_s_iloadN X0.here hx (hb hby own_d7_0) rfl ?_
  refine own_s_iloadN X0.here hx (hb hby own_d7_1) rfl ?_
  refine own_s_isub X0.here hx (hb hby own_d7_2) ?_
  refine own_s_istore X0.here hx #[.val (.ref t_), .val (.int i_), .val (.int p_), .val (.int n_), .val (.ref e_), .val (.long s_), .second, .val (.int (i_ - p_))] (hb hby own_d7_3) rfl ?_
  refine own_s_iload X0.here hx (hb hby own_d7_5) rfl ?_
  by_cases hc7 : (i_ - p_) < 0
  ·
    show own_Go p e below T0 (mkF m 7 #[.val (.ref t_), .val (.int i_), .val (.int p_), .val (.int n_), .val (.ref e_), .val (.long s_), .second, .val (.int (i_ - p_))] [(.int (i_ - p_))]) _
    refine own_s_ifYes X0.here hx 34 (hb hby own_d7_7) (Jvm.Free.XT.i0_lt_t hc7) (by decide) (by decide) ?_
    refine own_s_aloadN X0.here hx (hb hby own_d7_34) rfl rfl ?_
    refine own_s_iloadN X0.here hx (hb hby own_d7_35) rfl ?_
    refine own_by (fun tq_ kq_ => own_ldJ X0 hx hZ e0 A_t_ (k := ii) (v := (.long (own_tv s_ ps nn ev ii))) hi (by omega) rfl (g := (mkF m 36 #[.val (.ref t_), .val (.int i_), .val (.int p_), .val (.int n_), .val (.ref e_), .val (.long s_), .second, .val (.int (i_ - p_))] [(.int i_), (.ref t_)])) rfl rfl (hb hby own_d7_36) tq_ kq_) ?_
    show own_Go p e below T0 (mkF m 37 #[.val (.ref t_), .val (.int i_), .val (.int p_), .val (.int n_), .val (.ref e_), .val (.long s_), .second, .val (.int (i_ - p_))] [(.long (own_tv s_ ps nn ev ii))]) _
    refine own_s_lload X0.here hx (hb hby own_d7_37) rfl ?_
    refine own_s_lcmp X0.here hx (hb hby own_d7_39) ?_
    refine own_s_ifNo X0.here hx (hb hby own_d7_40) (Jvm.Free.XT.ll_ne_f ((if_neg (by have := (own_atd hi hp hn (by omega) (by omega) (by omega)).1.mp hc7; omega)))) ?_
    refine own_s_iconst X0.here hx (1 : Int32) (hb hby own_d7_43) rfl ?_
    show own_Go p e below T0 (mkF m 44 #[.val (.ref t_), .val (.int i_), .val (.int p_), .val (.int n_), .val (.ref e_), .val (.long s_), .second, .val (.int (i_ - p_))] [(.int (1 : Int32))]) _
    refine own_s_goto X0.here hx 48 (hb hby own_d7_44) (by decide) (by decide) ?_
    refine own_retZ X0 hx hret hlk (hb hby own_d7_48) rfl (by decide) (by decide) ?_
    exact ⟨rfl, N0, e0⟩
  ·
    refine own_s_ifNo X0.here hx (hb hby own_d7_7) (Jvm.Free.XT.i0_lt_f hc7) ?_
    refine own_s_iload X0.here hx (hb hby own_d7_10) rfl ?_
    refine own_s_iloadN X0.here hx (hb hby own_d7_12) rfl ?_
    by_cases hc13 : (i_ - p_) < n_
    ·
      refine own_s_icmpNo X0.here hx (hb hby own_d7_13) (Jvm.Free.XT.ii_ge_f hc13) ?_
      have own_q := ((own_atd hi hp hn (by omega) (by omega) (by omega)).2 hc7)
      have own_ai := own_q.2
      have own_al : ii - ps < 3 := by have := own_q.1.mp hc13; omega
      refine own_s_aloadN X0.here hx (hb hby own_d7_16) rfl rfl ?_
      refine own_s_iloadN X0.here hx (hb hby own_d7_17) rfl ?_
      refine own_by (fun tq_ kq_ => own_ldJ X0 hx hZ e0 A_t_ (k := ii) (v := (.long (own_tv s_ ps nn ev ii))) hi (by omega) rfl (g := (mkF m 18 #[.val (.ref t_), .val (.int i_), .val (.int p_), .val (.int n_), .val (.ref e_), .val (.long s_), .second, .val (.int (i_ - p_))] [(.int i_), (.ref t_)])) rfl rfl (hb hby own_d7_18) tq_ kq_) ?_
      show own_Go p e below T0 (mkF m 19 #[.val (.ref t_), .val (.int i_), .val (.int p_), .val (.int n_), .val (.ref e_), .val (.long s_), .second, .val (.int (i_ - p_))] [(.long (own_tv s_ ps nn ev ii))]) _
      refine own_s_aload X0.here hx (hb hby own_d7_19) rfl rfl ?_
      refine own_s_iload X0.here hx (hb hby own_d7_21) rfl ?_
      refine own_by (fun tq_ kq_ => own_ldJ X0 hx hZ e0 A_e_ (k := (ii - ps)) (v := (.long (ev (ii - ps)))) own_ai own_al rfl (g := (mkF m 23 #[.val (.ref t_), .val (.int i_), .val (.int p_), .val (.int n_), .val (.ref e_), .val (.long s_), .second, .val (.int (i_ - p_))] [(.int (i_ - p_)), (.ref e_), (.long (own_tv s_ ps nn ev ii))])) rfl rfl (hb hby own_d7_23) tq_ kq_) ?_
      show own_Go p e below T0 (mkF m 24 #[.val (.ref t_), .val (.int i_), .val (.int p_), .val (.int n_), .val (.ref e_), .val (.long s_), .second, .val (.int (i_ - p_))] [(.long (ev (ii - ps))), (.long (own_tv s_ ps nn ev ii))]) _
      refine own_s_lcmp X0.here hx (hb hby own_d7_24) ?_
      refine own_s_ifNo X0.here hx (hb hby own_d7_25) (Jvm.Free.XT.ll_ne_f ((if_pos (by have := own_q.1.mp hc13; have h' := (own_atd hi hp hn (by omega) (by omega) (by omega)).1; have : ¬ ii < ps := fun q => hc7 (h'.mpr q); omega)))) ?_
      refine own_s_iconst X0.here hx (1 : Int32) (hb hby own_d7_28) rfl ?_
      show own_Go p e below T0 (mkF m 29 #[.val (.ref t_), .val (.int i_), .val (.int p_), .val (.int n_), .val (.ref e_), .val (.long s_), .second, .val (.int (i_ - p_))] [(.int (1 : Int32))]) _
      refine own_s_goto X0.here hx 33 (hb hby own_d7_29) (by decide) (by decide) ?_
      refine own_retZ X0 hx hret hlk (hb hby own_d7_33) rfl (by decide) (by decide) ?_
      exact ⟨rfl, N0, e0⟩
    ·
      show own_Go p e below T0 (mkF m 13 #[.val (.ref t_), .val (.int i_), .val (.int p_), .val (.int n_), .val (.ref e_), .val (.long s_), .second, .val (.int (i_ - p_))] [(.int n_), (.int (i_ - p_))]) _
      refine own_s_icmpYes X0.here hx 34 (hb hby own_d7_13) (Jvm.Free.XT.ii_ge_t hc13) (by decide) (by decide) ?_
      refine own_s_aloadN X0.here hx (hb hby own_d7_34) rfl rfl ?_
      refine own_s_iloadN X0.here hx (hb hby own_d7_35) rfl ?_
      refine own_by (fun tq_ kq_ => own_ldJ X0 hx hZ e0 A_t_ (k := ii) (v := (.long (own_tv s_ ps nn ev ii))) hi (by omega) rfl (g := (mkF m 36 #[.val (.ref t_), .val (.int i_), .val (.int p_), .val (.int n_), .val (.ref e_), .val (.long s_), .second, .val (.int (i_ - p_))] [(.int i_), (.ref t_)])) rfl rfl (hb hby own_d7_36) tq_ kq_) ?_
      show own_Go p e below T0 (mkF m 37 #[.val (.ref t_), .val (.int i_), .val (.int p_), .val (.int n_), .val (.ref e_), .val (.long s_), .second, .val (.int (i_ - p_))] [(.long (own_tv s_ ps nn ev ii))]) _
      refine own_s_lload X0.here hx (hb hby own_d7_37) rfl ?_
      refine own_s_lcmp X0.here hx (hb hby own_d7_39) ?_
      refine own_s_ifNo X0.here hx (hb hby own_d7_40) (Jvm.Free.XT.ll_ne_f ((if_neg (by have h' := (own_atd hi hp hn (by omega) (by omega) (by omega)).2 hc7; have : ¬ ii - ps < nn := fun q => hc13 (h'.1.mpr q); omega)))) ?_
      refine own_s_iconst X0.here hx (1 : Int32) (hb hby own_d7_43) rfl ?_
      show own_Go p e below T0 (mkF m 44 #[.val (.ref t_), .val (.int i_), .val (.int p_), .val (.int n_), .val (.ref e_), .val (.long s_), .second, .val (.int (i_ - p_))] [(.int (1 : Int32))]) _
      refine own_s_goto X0.here hx 48 (hb hby own_d7_44) (by decide) (by decide) ?_
      refine own_retZ X0 hx hret hlk (hb hby own_d7_48) rfl (by decide) (by decide) ?_
      exact ⟨rfl, N0, e0⟩
theorem own_pd_6 : parseMethodDescriptor "([JIII[JJ)Z" = some ⟨[(.array .long), .int, .int, .int, (.array .long), .long], some .boolean⟩ := by decide +kernel
set_option maxRecDepth 65536 in
set_option maxHeartbeats 40000000 in
theorem own_p259 {p : Program} {l : Launch} {e : Env} {s : State} {m : MethodId} {args : Array Value} {below : List Frame} {meth : Method} {c : Code} {Z : State} {a0 : Array Value} {n0 : Nat} (hx : p.tables.exec = Jvm.exec) (hZ : Z.Warmed39 s.vm) (hw : ∀ d ∈ tables_1, d.before a0 Z = true) (hby : c.code = code) (hml : c.maxLocals = 15) (hown : s.vm.findClass "com/example/lapse/lapse/MarkingCodePackPinLaw" = some m.cls) (hnm : meth.name = "law") (hret : meth.sig.returnType = (some .boolean)) (hlk : meth.locks = false) (w0 a0_ b0 c0 fl wi ln : Int32) (s_ : Int64) (mk in_ ex cd : Addr) (s14 : Slot) (o nn : Nat) (ev : Nat → Int64) {T0 : State} {locs : List Loc} {h0 : Heap} (X0 : Stand p l e room_1 s m args below meth c T0 locs 8 665) (e0 : T0.heap = h0) (N0 : Fr n0 locs) (Z0 : n0 ≤ h0.size) (ho : o ≤ 3) (h3 : nn ≤ 3) (hp : own_At (Int32.ofNat o) o) (hnn : own_At ln nn) (A_in_ : own_Av Z h0 in_ .long 8 (fun i => .long (own_tv s_ o nn ev i))) (A_ex : own_Av Z h0 ex .long 3 (fun i => .long (ev i))) :
    own_Go p e below T0 (mkF m 259 #[.val (.int w0), .val (.int a0_), .val (.int b0), .val (.int c0), .val (.int fl), .val (.long s_), .second, .val (.int wi), .val (.int (Int32.ofNat o)), .val (.ref mk), .val (.ref in_), .val (.ref ex), .val (.ref cd), .val (.int ln), s14] []) (own_Fin s (fun (v : Option Value) (h : Heap) (L : List Loc) => v = some (.int 1) ∧ Fr n0 L) 24 1408) := by
  show own_Go p e below T0 (mkF m 259 #[.val (.int w0), .val (.int a0_), .val (.int b0), .val (.int c0), .val (.int fl), .val (.long s_), .second, .val (.int wi), .val (.int (Int32.ofNat o)), .val (.ref mk), .val (.ref in_), .val (.ref ex), .val (.ref cd), .val (.int ln), s14] []) _
  refine own_s_aload X0.here hx (hb hby at_259) rfl rfl ?_
  refine own_s_iconst X0.here hx (0 : Int32) (hb hby at_261) rfl ?_
  refine own_s_iload X0.here hx (hb hby at_262) rfl ?_
  refine own_s_iload X0.here hx (hb hby at_264) rfl ?_
  refine own_s_aload X0.here hx (hb hby at_266) rfl rfl ?_
  refine own_s_lload X0.here hx (hb hby at_268) rfl ?_
  obtain ⟨_, _, ⟨T171, L171, k171, n171⟩, -, X171, ⟨Lc171, hQ171, l171, y171, z171⟩, st171⟩ := Jvm.LawKit.callS X0 hx (y := (⟨"com/example/lapse/lapse/MarkingCodePackPinLaw", "ok", "([JIII[JJ)Z"⟩ : MethodName)) hown (mvT hZ (hw _ (List.mem_of_getElem? (i := 35) rfl))) (mvT hZ (hw _ (List.mem_of_getElem? (i := 36) rfl))) (mvT hZ (hw _ (List.mem_of_getElem? (i := 37) rfl))) (mvT hZ (hw _ (List.mem_of_getElem? (i := 38) rfl))) (by decide) (backOf (W := 0) (own_r7 l Z a0 hw [] in_ (0 : Int32) (Int32.ofNat o) ln ex s_ 0 o nn ev h0 n0 Z0 (by decide) hp hnn (by decide) ho h3 A_in_ A_ex) hZ (hw _ (List.mem_of_getElem? (i := 38) rfl)) (hw _ (List.mem_of_getElem? (i := 37) rfl)) (by decide) (by decide)) (g := (mkF m 270 #[.val (.int w0), .val (.int a0_), .val (.int b0), .val (.int c0), .val (.int fl), .val (.long s_), .second, .val (.int wi), .val (.int (Int32.ofNat o)), .val (.ref mk), .val (.ref in_), .val (.ref ex), .val (.ref cd), .val (.int ln), s14] [(.long s_), (.ref ex), (.int ln), (.int (Int32.ofNat o)), (.int (0 : Int32)), (.ref in_)])) rfl (by rw [hml]; rfl) (argsL := [(.ref in_), (.int (0 : Int32)), (.int (Int32.ofNat o)), (.int ln), (.ref ex), (.long s_)]) (rest := []) (lenOf own_pd_6 rfl) rfl (by show 2 * 0 + _ ≤ _; exact Nat.le_of_eq rfl) (hb hby at_270) (fun _ _ => ⟨rfl, e0, (by decide : 8 + 0 ≤ _), (by decide : 665 + 0 ≤ _)⟩)
  dsimp only [Pt.U, Pt.locs, Pt.cells, Pt.slots] at X171 l171 y171 z171 st171 hQ171
  subst l171 y171 z171
  obtain ⟨rfl, N171q, e171⟩ := hQ171
  have N171 := Fr.app N0 N171q
  refine own_by st171 ?_
  show own_Go p e below T171 (mkF m 273 #[.val (.int w0), .val (.int a0_), .val (.int b0), .val (.int c0), .val (.int fl), .val (.long s_), .second, .val (.int wi), .val (.int (Int32.ofNat o)), .val (.ref mk), .val (.ref in_), .val (.ref ex), .val (.ref cd), .val (.int ln), s14] [(.int (1 : Int32))]) _
  refine own_s_ifNo X171.here hx (hb hby at_273) (Jvm.Free.XT.i0_eq_f ((by decide))) ?_
  refine own_s_aload X171.here hx (hb hby at_276) rfl rfl ?_
  refine own_s_iconst X171.here hx (1 : Int32) (hb hby at_278) rfl ?_
  refine own_s_iload X171.here hx (hb hby at_279) rfl ?_
  refine own_s_iload X171.here hx (hb hby at_281) rfl ?_
  refine own_s_aload X171.here hx (hb hby at_283) rfl rfl ?_
  refine own_s_lload X171.here hx (hb hby at_285) rfl ?_
  obtain ⟨_, _, ⟨T172, L172, k172, n172⟩, -, X172, ⟨Lc172, hQ172, l172, y172, z172⟩, st172⟩ := Jvm.LawKit.callS X171 hx (y := (⟨"com/example/lapse/lapse/MarkingCodePackPinLaw", "ok", "([JIII[JJ)Z"⟩ : MethodName)) hown (mvT hZ (hw _ (List.mem_of_getElem? (i := 35) rfl))) (mvT hZ (hw _ (List.mem_of_getElem? (i := 36) rfl))) (mvT hZ (hw _ (List.mem_of_getElem? (i := 37) rfl))) (mvT hZ (hw _ (List.mem_of_getElem? (i := 38) rfl))) (by decide) (backOf (W := 0) (own_r7 l Z a0 hw [] in_ (1 : Int32) (Int32.ofNat o) ln ex s_ 1 o nn ev h0 n0 Z0 (by decide) hp hnn (by decide) ho h3 A_in_ A_ex) hZ (hw _ (List.mem_of_getElem? (i := 38) rfl)) (hw _ (List.mem_of_getElem? (i := 37) rfl)) (by decide) (by decide)) (g := (mkF m 287 #[.val (.int w0), .val (.int a0_), .val (.int b0), .val (.int c0), .val (.int fl), .val (.long s_), .second, .val (.int wi), .val (.int (Int32.ofNat o)), .val (.ref mk), .val (.ref in_), .val (.ref ex), .val (.ref cd), .val (.int ln), s14] [(.long s_), (.ref ex), (.int ln), (.int (Int32.ofNat o)), (.int (1 : Int32)), (.ref in_)])) rfl (by rw [hml]; rfl) (argsL := [(.ref in_), (.int (1 : Int32)), (.int (Int32.ofNat o)), (.int ln), (.ref ex), (.long s_)]) (rest := []) (lenOf own_pd_6 rfl) rfl (by show 2 * 0 + _ ≤ _; exact Nat.le_of_eq rfl) (hb hby at_287) (fun _ _ => ⟨rfl, e171, (by decide : 8 + 0 ≤ _), (by decide : 665 + 0 ≤ _)⟩)
  dsimp only [Pt.U, Pt.locs, Pt.cells, Pt.slots] at X172 l172 y172 z172 st172 hQ172
  subst l172 y172 z172
  obtain ⟨rfl, N172q, e172⟩ := hQ172
  have N172 := Fr.app N171 N172q
  refine own_by st172 ?_
  show own_Go p e below T172 (mkF m 290 #[.val (.int w0), .val (.int a0_), .val (.int b0), .val (.int c0), .val (.int fl), .val (.long s_), .second, .val (.int wi), .val (.int (Int32.ofNat o)), .val (.ref mk), .val (.ref in_), .val (.ref ex), .val (.ref cd), .val (.int ln), s14] [(.int (1 : Int32))]) _
  refine own_s_ifNo X172.here hx (hb hby at_290) (Jvm.Free.XT.i0_eq_f ((by decide))) ?_
  refine own_s_aload X172.here hx (hb hby at_293) rfl rfl ?_
  refine own_s_iconst X172.here hx (2 : Int32) (hb hby at_295) rfl ?_
  refine own_s_iload X172.here hx (hb hby at_296) rfl ?_
  refine own_s_iload X172.here hx (hb hby at_298) rfl ?_
  refine own_s_aload X172.here hx (hb hby at_300) rfl rfl ?_
  refine own_s_lload X172.here hx (hb hby at_302) rfl ?_
  obtain ⟨_, _, ⟨T173, L173, k173, n173⟩, -, X173, ⟨Lc173, hQ173, l173, y173, z173⟩, st173⟩ := Jvm.LawKit.callS X172 hx (y := (⟨"com/example/lapse/lapse/MarkingCodePackPinLaw", "ok", "([JIII[JJ)Z"⟩ : MethodName)) hown (mvT hZ (hw _ (List.mem_of_getElem? (i := 35) rfl))) (mvT hZ (hw _ (List.mem_of_getElem? (i := 36) rfl))) (mvT hZ (hw _ (List.mem_of_getElem? (i := 37) rfl))) (mvT hZ (hw _ (List.mem_of_getElem? (i := 38) rfl))) (by decide) (backOf (W := 0) (own_r7 l Z a0 hw [] in_ (2 : Int32) (Int32.ofNat o) ln ex s_ 2 o nn ev h0 n0 Z0 (by decide) hp hnn (by decide) ho h3 A_in_ A_ex) hZ (hw _ (List.mem_of_getElem? (i := 38) rfl)) (hw _ (List.mem_of_getElem? (i := 37) rfl)) (by decide) (by decide)) (g := (mkF m 304 #[.val (.int w0), .val (.int a0_), .val (.int b0), .val (.int c0), .val (.int fl), .val (.long s_), .second, .val (.int wi), .val (.int (Int32.ofNat o)), .val (.ref mk), .val (.ref in_), .val (.ref ex), .val (.ref cd), .val (.int ln), s14] [(.long s_), (.ref ex), (.int ln), (.int (Int32.ofNat o)), (.int (2 : Int32)), (.ref in_)])) rfl (by rw [hml]; rfl) (argsL := [(.ref in_), (.int (2 : Int32)), (.int (Int32.ofNat o)), (.int ln), (.ref ex), (.long s_)]) (rest := []) (lenOf own_pd_6 rfl) rfl (by show 2 * 0 + _ ≤ _; exact Nat.le_of_eq rfl) (hb hby at_304) (fun _ _ => ⟨rfl, e172, (by decide : 8 + 0 ≤ _), (by decide : 665 + 0 ≤ _)⟩)
  dsimp only [Pt.U, Pt.locs, Pt.cells, Pt.slots] at X173 l173 y173 z173 st173 hQ173
  subst l173 y173 z173
  obtain ⟨rfl, N173q, e173⟩ := hQ173
  have N173 := Fr.app N172 N173q
  refine own_by st173 ?_
  show own_Go p e below T173 (mkF m 307 #[.val (.int w0), .val (.int a0_), .val (.int b0), .val (.int c0), .val (.int fl), .val (.long s_), .second, .val (.int wi), .val (.int (Int32.ofNat o)), .val (.ref mk), .val (.ref in_), .val (.ref ex), .val (.ref cd), .val (.int ln), s14] [(.int (1 : Int32))]) _
  refine own_s_ifNo X173.here hx (hb hby at_307) (Jvm.Free.XT.i0_eq_f ((by decide))) ?_
  refine own_s_aload X173.here hx (hb hby at_310) rfl rfl ?_
  refine own_s_iconst X173.here hx (3 : Int32) (hb hby at_312) rfl ?_
  refine own_s_iload X173.here hx (hb hby at_313) rfl ?_
  refine own_s_iload X173.here hx (hb hby at_315) rfl ?_
  refine own_s_aload X173.here hx (hb hby at_317) rfl rfl ?_
  refine own_s_lload X173.here hx (hb hby at_319) rfl ?_
  obtain ⟨_, _, ⟨T174, L174, k174, n174⟩, -, X174, ⟨Lc174, hQ174, l174, y174, z174⟩, st174⟩ := Jvm.LawKit.callS X173 hx (y := (⟨"com/example/lapse/lapse/MarkingCodePackPinLaw", "ok", "([JIII[JJ)Z"⟩ : MethodName)) hown (mvT hZ (hw _ (List.mem_of_getElem? (i := 35) rfl))) (mvT hZ (hw _ (List.mem_of_getElem? (i := 36) rfl))) (mvT hZ (hw _ (List.mem_of_getElem? (i := 37) rfl))) (mvT hZ (hw _ (List.mem_of_getElem? (i := 38) rfl))) (by decide) (backOf (W := 0) (own_r7 l Z a0 hw [] in_ (3 : Int32) (Int32.ofNat o) ln ex s_ 3 o nn ev h0 n0 Z0 (by decide) hp hnn (by decide) ho h3 A_in_ A_ex) hZ (hw _ (List.mem_of_getElem? (i := 38) rfl)) (hw _ (List.mem_of_getElem? (i := 37) rfl)) (by decide) (by decide)) (g := (mkF m 321 #[.val (.int w0), .val (.int a0_), .val (.int b0), .val (.int c0), .val (.int fl), .val (.long s_), .second, .val (.int wi), .val (.int (Int32.ofNat o)), .val (.ref mk), .val (.ref in_), .val (.ref ex), .val (.ref cd), .val (.int ln), s14] [(.long s_), (.ref ex), (.int ln), (.int (Int32.ofNat o)), (.int (3 : Int32)), (.ref in_)])) rfl (by rw [hml]; rfl) (argsL := [(.ref in_), (.int (3 : Int32)), (.int (Int32.ofNat o)), (.int ln), (.ref ex), (.long s_)]) (rest := []) (lenOf own_pd_6 rfl) rfl (by show 2 * 0 + _ ≤ _; exact Nat.le_of_eq rfl) (hb hby at_321) (fun _ _ => ⟨rfl, e173, (by decide : 8 + 0 ≤ _), (by decide : 665 + 0 ≤ _)⟩)
  dsimp only [Pt.U, Pt.locs, Pt.cells, Pt.slots] at X174 l174 y174 z174 st174 hQ174
  subst l174 y174 z174
  obtain ⟨rfl, N174q, e174⟩ := hQ174
  have N174 := Fr.app N173 N174q
  refine own_by st174 ?_
  show own_Go p e below T174 (mkF m 324 #[.val (.int w0), .val (.int a0_), .val (.int b0), .val (.int c0), .val (.int fl), .val (.long s_), .second, .val (.int wi), .val (.int (Int32.ofNat o)), .val (.ref mk), .val (.ref in_), .val (.ref ex), .val (.ref cd), .val (.int ln), s14] [(.int (1 : Int32))]) _
  refine own_s_ifNo X174.here hx (hb hby at_324) (Jvm.Free.XT.i0_eq_f ((by decide))) ?_
  refine own_s_aload X174.here hx (hb hby at_327) rfl rfl ?_
  refine own_s_iconst X174.here hx (4 : Int32) (hb hby at_329) rfl ?_
  refine own_s_iload X174.here hx (hb hby at_330) rfl ?_
  refine own_s_iload X174.here hx (hb hby at_332) rfl ?_
  refine own_s_aload X174.here hx (hb hby at_334) rfl rfl ?_
  refine own_s_lload X174.here hx (hb hby at_336) rfl ?_
  obtain ⟨_, _, ⟨T175, L175, k175, n175⟩, -, X175, ⟨Lc175, hQ175, l175, y175, z175⟩, st175⟩ := Jvm.LawKit.callS X174 hx (y := (⟨"com/example/lapse/lapse/MarkingCodePackPinLaw", "ok", "([JIII[JJ)Z"⟩ : MethodName)) hown (mvT hZ (hw _ (List.mem_of_getElem? (i := 35) rfl))) (mvT hZ (hw _ (List.mem_of_getElem? (i := 36) rfl))) (mvT hZ (hw _ (List.mem_of_getElem? (i := 37) rfl))) (mvT hZ (hw _ (List.mem_of_getElem? (i := 38) rfl))) (by decide) (backOf (W := 0) (own_r7 l Z a0 hw [] in_ (4 : Int32) (Int32.ofNat o) ln ex s_ 4 o nn ev h0 n0 Z0 (by decide) hp hnn (by decide) ho h3 A_in_ A_ex) hZ (hw _ (List.mem_of_getElem? (i := 38) rfl)) (hw _ (List.mem_of_getElem? (i := 37) rfl)) (by decide) (by decide)) (g := (mkF m 338 #[.val (.int w0), .val (.int a0_), .val (.int b0), .val (.int c0), .val (.int fl), .val (.long s_), .second, .val (.int wi), .val (.int (Int32.ofNat o)), .val (.ref mk), .val (.ref in_), .val (.ref ex), .val (.ref cd), .val (.int ln), s14] [(.long s_), (.ref ex), (.int ln), (.int (Int32.ofNat o)), (.int (4 : Int32)), (.ref in_)])) rfl (by rw [hml]; rfl) (argsL := [(.ref in_), (.int (4 : Int32)), (.int (Int32.ofNat o)), (.int ln), (.ref ex), (.long s_)]) (rest := []) (lenOf own_pd_6 rfl) rfl (by show 2 * 0 + _ ≤ _; exact Nat.le_of_eq rfl) (hb hby at_338) (fun _ _ => ⟨rfl, e174, (by decide : 8 + 0 ≤ _), (by decide : 665 + 0 ≤ _)⟩)
  dsimp only [Pt.U, Pt.locs, Pt.cells, Pt.slots] at X175 l175 y175 z175 st175 hQ175
  subst l175 y175 z175
  obtain ⟨rfl, N175q, e175⟩ := hQ175
  have N175 := Fr.app N174 N175q
  refine own_by st175 ?_
  show own_Go p e below T175 (mkF m 341 #[.val (.int w0), .val (.int a0_), .val (.int b0), .val (.int c0), .val (.int fl), .val (.long s_), .second, .val (.int wi), .val (.int (Int32.ofNat o)), .val (.ref mk), .val (.ref in_), .val (.ref ex), .val (.ref cd), .val (.int ln), s14] [(.int (1 : Int32))]) _
  refine own_s_ifNo X175.here hx (hb hby at_341) (Jvm.Free.XT.i0_eq_f ((by decide))) ?_
  refine own_s_aload X175.here hx (hb hby at_344) rfl rfl ?_
  refine own_s_iconst X175.here hx (5 : Int32) (hb hby at_346) rfl ?_
  refine own_s_iload X175.here hx (hb hby at_347) rfl ?_
  refine own_s_iload X175.here hx (hb hby at_349) rfl ?_
  refine own_s_aload X175.here hx (hb hby at_351) rfl rfl ?_
  refine own_s_lload X175.here hx (hb hby at_353) rfl ?_
  obtain ⟨_, _, ⟨T176, L176, k176, n176⟩, -, X176, ⟨Lc176, hQ176, l176, y176, z176⟩, st176⟩ := Jvm.LawKit.callS X175 hx (y := (⟨"com/example/lapse/lapse/MarkingCodePackPinLaw", "ok", "([JIII[JJ)Z"⟩ : MethodName)) hown (mvT hZ (hw _ (List.mem_of_getElem? (i := 35) rfl))) (mvT hZ (hw _ (List.mem_of_getElem? (i := 36) rfl))) (mvT hZ (hw _ (List.mem_of_getElem? (i := 37) rfl))) (mvT hZ (hw _ (List.mem_of_getElem? (i := 38) rfl))) (by decide) (backOf (W := 0) (own_r7 l Z a0 hw [] in_ (5 : Int32) (Int32.ofNat o) ln ex s_ 5 o nn ev h0 n0 Z0 (by decide) hp hnn (by decide) ho h3 A_in_ A_ex) hZ (hw _ (List.mem_of_getElem? (i := 38) rfl)) (hw _ (List.mem_of_getElem? (i := 37) rfl)) (by decide) (by decide)) (g := (mkF m 355 #[.val (.int w0), .val (.int a0_), .val (.int b0), .val (.int c0), .val (.int fl), .val (.long s_), .second, .val (.int wi), .val (.int (Int32.ofNat o)), .val (.ref mk), .val (.ref in_), .val (.ref ex), .val (.ref cd), .val (.int ln), s14] [(.long s_), (.ref ex), (.int ln), (.int (Int32.ofNat o)), (.int (5 : Int32)), (.ref in_)])) rfl (by rw [hml]; rfl) (argsL := [(.ref in_), (.int (5 : Int32)), (.int (Int32.ofNat o)), (.int ln), (.ref ex), (.long s_)]) (rest := []) (lenOf own_pd_6 rfl) rfl (by show 2 * 0 + _ ≤ _; exact Nat.le_of_eq rfl) (hb hby at_355) (fun _ _ => ⟨rfl, e175, (by decide : 8 + 0 ≤ _), (by decide : 665 + 0 ≤ _)⟩)
  dsimp only [Pt.U, Pt.locs, Pt.cells, Pt.slots] at X176 l176 y176 z176 st176 hQ176
  subst l176 y176 z176
  obtain ⟨rfl, N176q, e176⟩ := hQ176
  have N176 := Fr.app N175 N176q
  refine own_by st176 ?_
  show own_Go p e below T176 (mkF m 358 #[.val (.int w0), .val (.int a0_), .val (.int b0), .val (.int c0), .val (.int fl), .val (.long s_), .second, .val (.int wi), .val (.int (Int32.ofNat o)), .val (.ref mk), .val (.ref in_), .val (.ref ex), .val (.ref cd), .val (.int ln), s14] [(.int (1 : Int32))]) _
  refine own_s_ifNo X176.here hx (hb hby at_358) (Jvm.Free.XT.i0_eq_f ((by decide))) ?_
  refine own_s_aload X176.here hx (hb hby at_361) rfl rfl ?_
  refine own_s_bipush X176.here hx (6 : Int32) (hb hby at_363) rfl ?_
  refine own_s_iload X176.here hx (hb hby at_365) rfl ?_
  refine own_s_iload X176.here hx (hb hby at_367) rfl ?_
  refine own_s_aload X176.here hx (hb hby at_369) rfl rfl ?_
  refine own_s_lload X176.here hx (hb hby at_371) rfl ?_
  obtain ⟨_, _, ⟨T177, L177, k177, n177⟩, -, X177, ⟨Lc177, hQ177, l177, y177, z177⟩, st177⟩ := Jvm.LawKit.callS X176 hx (y := (⟨"com/example/lapse/lapse/MarkingCodePackPinLaw", "ok", "([JIII[JJ)Z"⟩ : MethodName)) hown (mvT hZ (hw _ (List.mem_of_getElem? (i := 35) rfl))) (mvT hZ (hw _ (List.mem_of_getElem? (i := 36) rfl))) (mvT hZ (hw _ (List.mem_of_getElem? (i := 37) rfl))) (mvT hZ (hw _ (List.mem_of_getElem? (i := 38) rfl))) (by decide) (backOf (W := 0) (own_r7 l Z a0 hw [] in_ (6 : Int32) (Int32.ofNat o) ln ex s_ 6 o nn ev h0 n0 Z0 (by decide) hp hnn (by decide) ho h3 A_in_ A_ex) hZ (hw _ (List.mem_of_getElem? (i := 38) rfl)) (hw _ (List.mem_of_getElem? (i := 37) rfl)) (by decide) (by decide)) (g := (mkF m 373 #[.val (.int w0), .val (.int a0_), .val (.int b0), .val (.int c0), .val (.int fl), .val (.long s_), .second, .val (.int wi), .val (.int (Int32.ofNat o)), .val (.ref mk), .val (.ref in_), .val (.ref ex), .val (.ref cd), .val (.int ln), s14] [(.long s_), (.ref ex), (.int ln), (.int (Int32.ofNat o)), (.int (6 : Int32)), (.ref in_)])) rfl (by rw [hml]; rfl) (argsL := [(.ref in_), (.int (6 : Int32)), (.int (Int32.ofNat o)), (.int ln), (.ref ex), (.long s_)]) (rest := []) (lenOf own_pd_6 rfl) rfl (by show 2 * 0 + _ ≤ _; exact Nat.le_of_eq rfl) (hb hby at_373) (fun _ _ => ⟨rfl, e176, (by decide : 8 + 0 ≤ _), (by decide : 665 + 0 ≤ _)⟩)
  dsimp only [Pt.U, Pt.locs, Pt.cells, Pt.slots] at X177 l177 y177 z177 st177 hQ177
  subst l177 y177 z177
  obtain ⟨rfl, N177q, e177⟩ := hQ177
  have N177 := Fr.app N176 N177q
  refine own_by st177 ?_
  show own_Go p e below T177 (mkF m 376 #[.val (.int w0), .val (.int a0_), .val (.int b0), .val (.int c0), .val (.int fl), .val (.long s_), .second, .val (.int wi), .val (.int (Int32.ofNat o)), .val (.ref mk), .val (.ref in_), .val (.ref ex), .val (.ref cd), .val (.int ln), s14] [(.int (1 : Int32))]) _
  refine own_s_ifNo X177.here hx (hb hby at_376) (Jvm.Free.XT.i0_eq_f ((by decide))) ?_
  refine own_s_aload X177.here hx (hb hby at_379) rfl rfl ?_
  refine own_s_bipush X177.here hx (7 : Int32) (hb hby at_381) rfl ?_
  refine own_s_iload X177.here hx (hb hby at_383) rfl ?_
  refine own_s_iload X177.here hx (hb hby at_385) rfl ?_
  refine own_s_aload X177.here hx (hb hby at_387) rfl rfl ?_
  refine own_s_lload X177.here hx (hb hby at_389) rfl ?_
  obtain ⟨_, _, ⟨T178, L178, k178, n178⟩, -, X178, ⟨Lc178, hQ178, l178, y178, z178⟩, st178⟩ := Jvm.LawKit.callS X177 hx (y := (⟨"com/example/lapse/lapse/MarkingCodePackPinLaw", "ok", "([JIII[JJ)Z"⟩ : MethodName)) hown (mvT hZ (hw _ (List.mem_of_getElem? (i := 35) rfl))) (mvT hZ (hw _ (List.mem_of_getElem? (i := 36) rfl))) (mvT hZ (hw _ (List.mem_of_getElem? (i := 37) rfl))) (mvT hZ (hw _ (List.mem_of_getElem? (i := 38) rfl))) (by decide) (backOf (W := 0) (own_r7 l Z a0 hw [] in_ (7 : Int32) (Int32.ofNat o) ln ex s_ 7 o nn ev h0 n0 Z0 (by decide) hp hnn (by decide) ho h3 A_in_ A_ex) hZ (hw _ (List.mem_of_getElem? (i := 38) rfl)) (hw _ (List.mem_of_getElem? (i := 37) rfl)) (by decide) (by decide)) (g := (mkF m 391 #[.val (.int w0), .val (.int a0_), .val (.int b0), .val (.int c0), .val (.int fl), .val (.long s_), .second, .val (.int wi), .val (.int (Int32.ofNat o)), .val (.ref mk), .val (.ref in_), .val (.ref ex), .val (.ref cd), .val (.int ln), s14] [(.long s_), (.ref ex), (.int ln), (.int (Int32.ofNat o)), (.int (7 : Int32)), (.ref in_)])) rfl (by rw [hml]; rfl) (argsL := [(.ref in_), (.int (7 : Int32)), (.int (Int32.ofNat o)), (.int ln), (.ref ex), (.long s_)]) (rest := []) (lenOf own_pd_6 rfl) rfl (by show 2 * 0 + _ ≤ _; exact Nat.le_of_eq rfl) (hb hby at_391) (fun _ _ => ⟨rfl, e177, (by decide : 8 + 0 ≤ _), (by decide : 665 + 0 ≤ _)⟩)
  dsimp only [Pt.U, Pt.locs, Pt.cells, Pt.slots] at X178 l178 y178 z178 st178 hQ178
  subst l178 y178 z178
  obtain ⟨rfl, N178q, e178⟩ := hQ178
  have N178 := Fr.app N177 N178q
  refine own_by st178 ?_
  show own_Go p e below T178 (mkF m 394 #[.val (.int w0), .val (.int a0_), .val (.int b0), .val (.int c0), .val (.int fl), .val (.long s_), .second, .val (.int wi), .val (.int (Int32.ofNat o)), .val (.ref mk), .val (.ref in_), .val (.ref ex), .val (.ref cd), .val (.int ln), s14] [(.int (1 : Int32))]) _
  refine own_s_ifNo X178.here hx (hb hby at_394) (Jvm.Free.XT.i0_eq_f ((by decide))) ?_
  refine own_s_iconst X178.here hx (1 : Int32) (hb hby at_397) rfl ?_
  show own_Go p e below T178 (mkF m 398 #[.val (.int w0), .val (.int a0_), .val (.int b0), .val (.int c0), .val (.int fl), .val (.long s_), .second, .val (.int wi), .val (.int (Int32.ofNat o)), .val (.ref mk), .val (.ref in_), .val (.ref ex), .val (.ref cd), .val (.int ln), s14] [(.int (1 : Int32))]) _
  refine own_s_goto X178.here hx 402 (hb hby at_398) (by decide) (by decide) ?_
  refine own_retZ X178 hx hret hlk (hb hby at_402) rfl (by decide) (by decide) ?_
  exact ⟨rfl, N178⟩
theorem own_sh6 (j : Nat) (hj : j < 1000) : (((Int32.ofNat j).toUInt32 >>> ((6 : Int32) &&& 31).toUInt32).toInt32) = Int32.ofNat (j / 64) := by
  apply Int32.toInt_inj.mp
  have e := own_toI (i := j) (by omega)
  rw [Jvm.Kit.i32_iushr (Jvm.Kit.i32_nonneg.mpr (by omega)) (k := 6) (by decide) (by decide), e, own_toI (by omega)]
  omega
theorem own_an6 (j : Nat) (hj : j < 1000) : ((Int32.ofNat j) &&& (63 : Int32)) = Int32.ofNat (j % 64) := by
  apply Int32.toInt_inj.mp
  rw [Jvm.Kit.i32_mask _ _ (k := 6) (by decide) (by decide), own_toI (by omega), own_toI (by omega)]
  omega
theorem own_nat {x : Int32} {k : Nat} (h0 : 0 ≤ x.toInt) (h1 : x.toInt ≤ k) (hk : k < 1000) : ∃ n : Nat, n ≤ k ∧ x = Int32.ofNat n := by
  refine ⟨x.toInt.toNat, by omega, Int32.toInt_inj.mp ?_⟩
  rw [own_toI (by omega)]
  omega
theorem own_nzn {n : Nat} (h : 0 < n) (h2 : n < 1000) : Int32.ofNat n ≠ 0 := fun q => by
  have := (own_ofeq (n := 0) (by omega) (by omega)).mp q; omega
theorem own_qb (x : Int32) (n : Nat) (h : 0 < n) (h2 : n ≤ 192) : ∃ q : Nat, q < n ∧ ((x &&& (2147483647 : Int32)) % (Int32.ofNat n)) = Int32.ofNat q := by
  have e1 : (x &&& (2147483647 : Int32)).toInt = x.toInt % 2 ^ 31 := Jvm.Kit.i32_mask x _ (k := 31) (by decide) (by decide)
  have e2 : ((x &&& (2147483647 : Int32)) % (Int32.ofNat n)).toInt = (x.toInt % 2 ^ 31) % n := by rw [Jvm.Kit.i32_rem_nonneg (by omega), e1, own_toI (by omega)]
  have h3 : 0 ≤ (x.toInt % 2 ^ 31) % (n : Int) := Int.emod_nonneg _ (by omega)
  have h4 : (x.toInt % 2 ^ 31) % (n : Int) < n := Int.emod_lt_of_pos _ (by omega)
  obtain ⟨q, hq, e⟩ := own_nat (k := n - 1) (x := (x &&& (2147483647 : Int32)) % (Int32.ofNat n)) (by omega) (by omega) (by omega)
  exact ⟨q, by omega, e⟩
def own_mv (p q r : Nat) (x y z : Int64) (j : Nat) : Int64 := if j = r then z else if j = q then y else if j = p then x else 0
def own_e1 (E : Nat → Int64) (k0 : Nat) (t : Int64) (k : Nat) : Int64 := if k = k0 then E k0 ||| t else E k
theorem own_e1_eq (E : Nat → Int64) (k0 : Nat) (t : Int64) (k : Nat) : own_upd (fun k => .long (E k)) k0 (.long (E k0 ||| t)) k = .long (own_e1 E k0 t k) := by
  unfold own_e1
  by_cases q : k = k0
  · rw [own_upd_hit q, if_pos q]
  · rw [own_upd_miss q, if_neg q]
theorem own_mv_eq (p q r : Nat) (x y z : Int64) (j : Nat) : own_upd (own_upd (own_upd (fun _ => (.long (0 : Int64))) p (.long x)) q (.long y)) r (.long z) j = .long (own_mv p q r x y z j) := by
  unfold own_mv
  by_cases q3 : j = r
  · rw [own_upd_hit q3, if_pos q3]
  · rw [own_upd_miss q3, if_neg q3]
    by_cases q2 : j = q
    · rw [own_upd_hit q2, if_pos q2]
    · rw [own_upd_miss q2, if_neg q2]
      by_cases q1 : j = p
      · rw [own_upd_hit q1, if_pos q1]
      · rw [own_upd_miss q1, if_neg q1]
theorem own_shl (x : Int64) (s : Nat) (hs : s < 64) : (x <<< ((Int32.ofNat s) &&& 0x3f).toInt64).toBitVec = x.toBitVec <<< s := by
  have e : ∀ s : Fin 64, ((((Int32.ofNat s.val) &&& 0x3f).toInt64).toBitVec.smod 64) = BitVec.ofNat 64 s.val := by decide +kernel
  have h : (x <<< ((Int32.ofNat s) &&& 0x3f).toInt64).toBitVec = x.toBitVec <<< (((Int32.ofNat s) &&& 0x3f).toInt64.toBitVec.smod 64) := rfl
  rw [h, e ⟨s, hs⟩, BitVec.shiftLeft_eq', BitVec.toNat_ofNat, Nat.mod_eq_of_lt (by omega)]
theorem own_tmb (mv : Nat → Int64) (j : Nat) : (own_tm mv j).toBitVec = (mv j).toBitVec <<< (j % 64) := own_shl (mv j) (j % 64) (by omega)
theorem own_bit01 {x : Int64} (h : x = 0 ∨ x = 1) (i : Nat) : x.toBitVec.getLsbD i = (decide (i = 0) && x.toBitVec.getLsbD 0) := by
  rcases h with rfl | rfl
  · rw [show (0 : Int64).toBitVec = 0#64 from rfl]; simp
  · rw [show (1 : Int64).toBitVec = 1#64 from rfl]
    by_cases q : i = 0
    · subst q; rfl
    · have : (1#64).getLsbD i = false := by rw [BitVec.getLsbD_one]; simp [q]
      rw [this]; simp [q]
theorem own_tbit (mv : Nat → Int64) (h01 : ∀ j, mv j = 0 ∨ mv j = 1) (j b : Nat) (hb : b < 64) : (own_tm mv j).toBitVec.getLsbD b = (decide (b = j % 64) && (mv j).toBitVec.getLsbD 0) := by
  rw [own_tmb, BitVec.getLsbD_shiftLeft, own_bit01 (h01 j)]
  by_cases q : b = j % 64
  · subst q; simp [hb]
  · by_cases q2 : b < j % 64
    · simp [q2, q]
    · have : ¬ b - j % 64 = 0 := by omega
      simp [this, q]
theorem own_abit (mv : Nat → Int64) (h01 : ∀ j, mv j = 0 ∨ mv j = 1) (k b : Nat) (hb : b < 64) (K : Nat) (hK : K ≤ 64) : (own_ac mv (64 * k) K).toBitVec.getLsbD b = (decide (b < K) && (mv (64 * k + b)).toBitVec.getLsbD 0) := by
  induction K with
  | zero => show (0 : Int64).toBitVec.getLsbD b = _; rw [show (0 : Int64).toBitVec = 0#64 from rfl]; simp
  | succ K ih =>
    show (own_ac mv (64 * k) K ||| own_tm mv (64 * k + K)).toBitVec.getLsbD b = _
    rw [Int64.toBitVec_or, BitVec.getLsbD_or, ih (by omega), own_tbit mv h01 _ b hb, show (64 * k + K) % 64 = K from by omega]
    by_cases q : b = K
    · subst q; simp
    · by_cases q2 : b < K
      · simp [q, q2, show b < K + 1 from by omega]
      · simp [q, q2, show ¬ b < K + 1 from by omega]
theorem own_ebit (E : Nat → Int64) (k0 k : Nat) (t : Int64) (b : Nat) : (own_e1 E k0 t k).toBitVec.getLsbD b = ((E k).toBitVec.getLsbD b || (decide (k = k0) && t.toBitVec.getLsbD b)) := by
  unfold own_e1
  by_cases q : k = k0
  · subst q; rw [if_pos rfl, Int64.toBitVec_or, BitVec.getLsbD_or]; simp
  · rw [if_neg q]; simp [q]
theorem own_same (mv : Nat → Int64) (n p q r : Nat) (h01 : ∀ j, mv j = 0 ∨ mv j = 1) (hp : p < n) (hq : q < n) (hr : r < n) (hM : ∀ j, ¬ j = p → ¬ j = q → ¬ j = r → mv j = 0) (k : Nat) (hk : 64 * k < n) :
    own_wv mv n k = own_e1 (own_e1 (own_e1 (fun _ => (0 : Int64)) (p / 64) (own_tm mv p)) (q / 64) (own_tm mv q)) (r / 64) (own_tm mv r) k := by
  unfold own_wv
  apply Int64.toBitVec_inj.mp
  apply BitVec.eq_of_getLsbD_eq
  intro b hb
  rw [own_abit mv h01 k b hb _ (by omega), own_ebit, own_ebit, own_ebit, own_tbit mv h01 p b hb, own_tbit mv h01 q b hb, own_tbit mv h01 r b hb, show (0 : Int64).toBitVec.getLsbD b = false from by rw [show (0 : Int64).toBitVec = 0#64 from rfl]; simp]
  have z : ∀ j, ¬ j = p → ¬ j = q → ¬ j = r → (mv j).toBitVec.getLsbD 0 = false := fun j a b c => by rw [hM j a b c]; rfl
  have hx : ∀ x, (decide (k = x / 64) && (decide (b = x % 64) && (mv x).toBitVec.getLsbD 0)) = (decide (64 * k + b = x) && (mv (64 * k + b)).toBitVec.getLsbD 0) := fun x => by
    by_cases e : 64 * k + b = x
    · subst e
      rw [decide_eq_true (show k = (64 * k + b) / 64 from by omega), decide_eq_true (show b = (64 * k + b) % 64 from by omega), decide_eq_true (show 64 * k + b = 64 * k + b from rfl)]
      rfl
    · by_cases e1 : k = x / 64
      · have e2 : ¬ b = x % 64 := by omega
        simp [e, e2]
      · simp [e, e1]
  rw [hx p, hx q, hx r]
  have z' := z (64 * k + b)
  generalize (mv (64 * k + b)).toBitVec.getLsbD 0 = M at z' ⊢
  by_cases ep : 64 * k + b = p
  · rw [decide_eq_true ep, decide_eq_true (show b < min n (64 * (k + 1)) - 64 * k from by omega)]
    cases M <;> simp
  · by_cases eq : 64 * k + b = q
    · rw [decide_eq_true eq, decide_eq_true (show b < min n (64 * (k + 1)) - 64 * k from by omega)]
      cases M <;> simp
    · by_cases er : 64 * k + b = r
      · rw [decide_eq_true er, decide_eq_true (show b < min n (64 * (k + 1)) - 64 * k from by omega)]
        cases M <;> simp
      · rw [z' ep eq er]
        simp
theorem own_tvc (s : Int64) (o n : Nat) (ev ev' : Nat → Int64) (h : ∀ k, k < n → ev k = ev' k) (i : Nat) : own_tv s o n ev i = own_tv s o n ev' i := by
  unfold own_tv
  by_cases q : o ≤ i ∧ i < o + n
  · rw [if_pos q, if_pos q, h _ (by omega)]
  · rw [if_neg q, if_neg q]
theorem own_f01 (x : Int32) : ((x &&& (1 : Int32)).toInt64) = 0 ∨ ((x &&& (1 : Int32)).toInt64) = 1 := by
  rcases and_one x with h | h
  · rw [h]; exact Or.inl rfl
  · rw [h]; exact Or.inr rfl
theorem own_mv01 {p q r : Nat} {x y z : Int64} (hx : x = 0 ∨ x = 1) (hy : y = 0 ∨ y = 1) (hz : z = 0 ∨ z = 1) (j : Nat) : own_mv p q r x y z j = 0 ∨ own_mv p q r x y z j = 1 := by
  unfold own_mv
  split
  · exact hz
  · split
    · exact hy
    · split
      · exact hx
      · exact Or.inl rfl
theorem own_mv0 {p q r : Nat} {x y z : Int64} (j : Nat) (hp : ¬ j = p) (hq : ¬ j = q) (hr : ¬ j = r) : own_mv p q r x y z j = 0 := by
  unfold own_mv
  rw [if_neg hr, if_neg hq, if_neg hp]
theorem own_lenw (n : Nat) (h : 0 < n) (hn : n ≤ 130) : (Int32.ofNat n + (63 : Int32)) / (64 : Int32) = Int32.ofNat ((n - 1) / 64 + 1) := by
  apply Int32.toInt_inj.mp
  have e : (Int32.ofNat n + (63 : Int32)).toInt = n + 63 := by rw [Jvm.Kit.i32_add (by rw [own_toI (by omega), show (63 : Int32).toInt = 63 from by decide]; omega) (by rw [own_toI (by omega), show (63 : Int32).toInt = 63 from by decide]; omega), own_toI (by omega), show (63 : Int32).toInt = 63 from by decide]
  rw [Jvm.Kit.i32_div (by rw [show (64 : Int32).toInt = 64 from by decide]; omega), e, show (64 : Int32).toInt = 64 from by decide, Int.tdiv_eq_ediv_of_nonneg (by omega), own_toI (by omega)]
  omega
theorem own_wb (x : Int32) : ∃ n : Nat, n ≤ 130 ∧ ((x &&& (2147483647 : Int32)) % (131 : Int32)) = Int32.ofNat n := by
  have e1 : (x &&& (2147483647 : Int32)).toInt = x.toInt % 2 ^ 31 := Jvm.Kit.i32_mask x _ (k := 31) (by decide) (by decide)
  have e2 : ((x &&& (2147483647 : Int32)) % (131 : Int32)).toInt = (x.toInt % 2 ^ 31) % 131 := by rw [Jvm.Kit.i32_rem_nonneg (by omega), e1, show (131 : Int32).toInt = 131 from by decide]
  exact own_nat (by omega) (by omega) (by omega)
theorem own_ob (x : Int32) : ∃ n : Nat, n ≤ 3 ∧ (x &&& (3 : Int32)) = Int32.ofNat n := by
  have e1 : (x &&& (3 : Int32)).toInt = x.toInt % 2 ^ 2 := Jvm.Kit.i32_mask x _ (k := 2) (by decide) (by decide)
  exact own_nat (by omega) (by omega) (by omega)
theorem own_zero_ac (lo k : Nat) : own_ac (fun _ => (0 : Int64)) lo k = 0 := by
  induction k with
  | zero => rfl
  | succ k ih =>
    show own_ac (fun _ => (0 : Int64)) lo k ||| own_tm (fun _ => (0 : Int64)) (lo + k) = 0
    rw [ih]
    apply Int64.toBitVec_inj.mp
    rw [Int64.toBitVec_or, own_tmb, show (0 : Int64).toBitVec = 0#64 from rfl]
    simp
theorem own_ml : maxLocals = 15 := rfl
theorem own_ef0 (m : MethodId) (w0 : Int32) (a0_ : Int32) (b0 : Int32) (c0 : Int32) (fl : Int32) (s_ : Int64) : entryFrame m #[(.int w0), (.int a0_), (.int b0), (.int c0), (.int fl), (.long s_)] maxLocals = mkF m 0 #[.val (.int w0), .val (.int a0_), .val (.int b0), .val (.int c0), .val (.int fl), .val (.long s_), .second, .unset, .unset, .unset, .unset, .unset, .unset, .unset, .unset] [] := by first | (simp [entryFrame, mkF, argsToLocals, Value.category, maxLocals]; done) | rfl
theorem own_pd_0 : parseMethodDescriptor "(I)V" = some ⟨[.int], none⟩ := by decide +kernel
theorem own_pd_5 : parseMethodDescriptor "([J[JI)V" = some ⟨[(.array .long), (.array .long), .int], none⟩ := by decide +kernel
def own_q_own_r0 (Z : State) (w0 : Int32) (a0_ : Int32) (b0 : Int32) (c0 : Int32) (fl : Int32) (s_ : Int64) (h0 : Heap) (n0 : Nat) (v : Option Value) (h : Heap) (L : List Loc) : Prop := v = some (.int 1) ∧ Fr n0 L
set_option maxRecDepth 65536 in
set_option maxHeartbeats 40000000 in
theorem own_r0 (l : Launch) (Z : State) (a0 : Array Value) (hw : ∀ d ∈ tables_1, d.before a0 Z = true) (ws : List Jvm.Cond) (w0 : Int32) (a0_ : Int32) (b0 : Int32) (c0 : Int32) (fl : Int32) (s_ : Int64) (h0 : Heap) (n0 : Nat) (Z0 : n0 ≤ h0.size) :
    MetFree l x (head1 (Jvm.Cond.code x code maxLocals ret :: ws) room_1) (fun aq Uq => aq = #[(.int w0), (.int a0_), (.int b0), (.int c0), (.int fl), (.long s_)] ∧ Z.Warmed39 Uq.vm ∧ Uq.heap = h0) (fun _ _ _ _ _ => True) (fun _ Uq oq Uq' => ∃ vq Lq, oq = .returned vq ∧ own_q_own_r0 Z w0 a0_ b0 c0 fl s_ h0 n0 vq Uq'.heap Lq ∧ FrameEnd Uq oq Uq' Lq 24 1408) := by
  refine MetFree.of_bodySF (plainFor_of_name own_pn_MarkingCodePackPinLaw) hisR ?_
  intro p e s m args below meth c T0 Bd hml0 hP hK
  obtain ⟨rfl, hZ, hh⟩ := hP
  have hx := Bd.exec
  have hby := Bd.bytes
  have hml : c.maxLocals = 15 := hml0
  have hown : s.vm.findClass "com/example/lapse/lapse/MarkingCodePackPinLaw" = some m.cls := findClass_of_methodNamed Bd.named
  have hnm := (name_of_methodNamed Bd.named Bd.method).1
  have hret : meth.sig.returnType = (some .boolean) := Bd.returns
  have hlk : meth.locks = false := BodyLoose.notSynchronized Bd
  have X0 : Stand p l e room_1 s m #[(.int w0), (.int a0_), (.int b0), (.int c0), (.int fl), (.long s_)] below meth c T0 [] 0 0 := Stand.of_body Bd
  have e0 : T0.heap = h0 := by rw [← hh, Bd.state]; rfl
  have N0 := Fr.nil n0
  refine own_start (own_ef0 m w0 a0_ b0 c0 fl s_) (Q := fun (v : Option Value) (h : Heap) (L : List Loc) => v = some (.int 1) ∧ Fr n0 L) (k := 24) (j := 1408) ?_
  show own_Go p e below T0 (mkF m 0 #[.val (.int w0), .val (.int a0_), .val (.int b0), .val (.int c0), .val (.int fl), .val (.long s_), .second, .unset, .unset, .unset, .unset, .unset, .unset, .unset, .unset] []) _
  refine own_s_iloadN X0.here hx (hb hby at_0) rfl ?_
  refine own_by (fun tq_ kq_ => X0.ldcInt hx hown (mvT hZ (hw _ (List.mem_of_getElem? (i := 0) rfl))) (g := (mkF m 1 #[.val (.int w0), .val (.int a0_), .val (.int b0), .val (.int c0), .val (.int fl), .val (.long s_), .second, .unset, .unset, .unset, .unset, .unset, .unset, .unset, .unset] [(.int w0)])) rfl (hb hby at_1) tq_ kq_) ?_
  show own_Go p e below T0 (mkF m 3 #[.val (.int w0), .val (.int a0_), .val (.int b0), .val (.int c0), .val (.int fl), .val (.long s_), .second, .unset, .unset, .unset, .unset, .unset, .unset, .unset, .unset] [(.int (2147483647 : Int32)), (.int w0)]) _
  refine own_s_iand X0.here hx (hb hby at_3) ?_
  refine own_s_sipush X0.here hx (131 : Int32) (hb hby at_4) rfl ?_
  refine own_by (fun tq_ kq_ => iremM X0 hx rfl (hb hby at_7) rfl (by decide) kq_) ?_
  show own_Go p e below T0 (mkF m 8 #[.val (.int w0), .val (.int a0_), .val (.int b0), .val (.int c0), .val (.int fl), .val (.long s_), .second, .unset, .unset, .unset, .unset, .unset, .unset, .unset, .unset] [(.int ((w0 &&& (2147483647 : Int32)) % (131 : Int32)))]) _
  refine own_s_istore X0.here hx #[.val (.int w0), .val (.int a0_), .val (.int b0), .val (.int c0), .val (.int fl), .val (.long s_), .second, .val (.int ((w0 &&& (2147483647 : Int32)) % (131 : Int32))), .unset, .unset, .unset, .unset, .unset, .unset, .unset] (hb hby at_8) rfl ?_
  obtain ⟨n, hn, hwe⟩ := own_wb w0
  rw [hwe]
  show own_Go p e below T0 (mkF m 10 #[.val (.int w0), .val (.int a0_), .val (.int b0), .val (.int c0), .val (.int fl), .val (.long s_), .second, .val (.int (Int32.ofNat n)), .unset, .unset, .unset, .unset, .unset, .unset, .unset] []) _
  refine own_s_iload X0.here hx (hb hby at_10) rfl ?_
  refine own_s_iconst X0.here hx (3 : Int32) (hb hby at_12) rfl ?_
  refine own_s_iushr X0.here hx (hb hby at_13) ?_
  refine own_s_iconst X0.here hx (3 : Int32) (hb hby at_14) rfl ?_
  refine own_s_iand X0.here hx (hb hby at_15) ?_
  refine own_s_istore X0.here hx #[.val (.int w0), .val (.int a0_), .val (.int b0), .val (.int c0), .val (.int fl), .val (.long s_), .second, .val (.int (Int32.ofNat n)), .val (.int (((fl.toUInt32 >>> ((3 : Int32) &&& 31).toUInt32).toInt32) &&& (3 : Int32))), .unset, .unset, .unset, .unset, .unset, .unset] (hb hby at_16) rfl ?_
  obtain ⟨o, ho, hoe⟩ := own_ob ((fl.toUInt32 >>> ((3 : Int32) &&& 31).toUInt32).toInt32)
  rw [hoe]
  show own_Go p e below T0 (mkF m 18 #[.val (.int w0), .val (.int a0_), .val (.int b0), .val (.int c0), .val (.int fl), .val (.long s_), .second, .val (.int (Int32.ofNat n)), .val (.int (Int32.ofNat o)), .unset, .unset, .unset, .unset, .unset, .unset] []) _
  refine own_s_sipush X0.here hx (130 : Int32) (hb hby at_18) rfl ?_
  obtain ⟨T179, h179, k179, X179, e179, E179, A179, st179⟩ := newP X0 hx hZ (hw _ (List.mem_of_getElem? (i := 1) rfl)) e0 (g := (mkF m 21 #[.val (.int w0), .val (.int a0_), .val (.int b0), .val (.int c0), .val (.int fl), .val (.long s_), .second, .val (.int (Int32.ofNat n)), .val (.int (Int32.ofNat o)), .unset, .unset, .unset, .unset, .unset, .unset] [(.int (130 : Int32))])) rfl (hb hby at_21) rfl (by decide) (cap := 130) (by decide) (by decide) (by decide) (by decide)
  obtain ⟨b179, g179⟩ : ∃ z, z = h0.size := ⟨_, rfl⟩
  rw [← g179] at A179 st179
  have ge_b179 : n0 ≤ b179 := Nat.le_trans Z0 (Nat.le_of_eq g179.symm)
  have SZ179 : n0 ≤ h179.size := Nat.le_trans Z0 E179.1
  have f180 : own_Av Z h179 b179 .long 130 (fun _ => (.long (0 : Int64))) := own_Av.ofnew A179 (by decide) rfl
  refine own_by st179 ?_
  show own_Go p e below T179 (mkF m 23 #[.val (.int w0), .val (.int a0_), .val (.int b0), .val (.int c0), .val (.int fl), .val (.long s_), .second, .val (.int (Int32.ofNat n)), .val (.int (Int32.ofNat o)), .unset, .unset, .unset, .unset, .unset, .unset] [(.ref b179)]) _
  refine own_s_astore X179.here hx #[.val (.int w0), .val (.int a0_), .val (.int b0), .val (.int c0), .val (.int fl), .val (.long s_), .second, .val (.int (Int32.ofNat n)), .val (.int (Int32.ofNat o)), .val (.ref b179), .unset, .unset, .unset, .unset, .unset] (hb hby at_23) rfl rfl ?_
  refine own_s_bipush X179.here hx (8 : Int32) (hb hby at_25) rfl ?_
  obtain ⟨T181, h181, k181, X181, e181, E181, A181, st181⟩ := newP X179 hx hZ (hw _ (List.mem_of_getElem? (i := 1) rfl)) e179 (g := (mkF m 27 #[.val (.int w0), .val (.int a0_), .val (.int b0), .val (.int c0), .val (.int fl), .val (.long s_), .second, .val (.int (Int32.ofNat n)), .val (.int (Int32.ofNat o)), .val (.ref b179), .unset, .unset, .unset, .unset, .unset] [(.int (8 : Int32))])) rfl (hb hby at_27) rfl (by decide) (cap := 8) (by decide) (by decide) (by decide) (by decide)
  obtain ⟨b181, g181⟩ : ∃ z, z = h179.size := ⟨_, rfl⟩
  rw [← g181] at A181 st181
  have ge_b181 : n0 ≤ b181 := Nat.le_trans SZ179 (Nat.le_of_eq g181.symm)
  have ne_b179_b181 : b179 ≠ b181 := Nat.ne_of_lt (Nat.lt_of_lt_of_le f180.lt (Nat.le_of_eq g181.symm))
  have f182 := f180.ext E181
  have SZ181 : n0 ≤ h181.size := Nat.le_trans SZ179 E181.1
  have f183 : own_Av Z h181 b181 .long 8 (fun _ => (.long (0 : Int64))) := own_Av.ofnew A181 (by decide) rfl
  refine own_by st181 ?_
  show own_Go p e below T181 (mkF m 29 #[.val (.int w0), .val (.int a0_), .val (.int b0), .val (.int c0), .val (.int fl), .val (.long s_), .second, .val (.int (Int32.ofNat n)), .val (.int (Int32.ofNat o)), .val (.ref b179), .unset, .unset, .unset, .unset, .unset] [(.ref b181)]) _
  refine own_s_astore X181.here hx #[.val (.int w0), .val (.int a0_), .val (.int b0), .val (.int c0), .val (.int fl), .val (.long s_), .second, .val (.int (Int32.ofNat n)), .val (.int (Int32.ofNat o)), .val (.ref b179), .val (.ref b181), .unset, .unset, .unset, .unset] (hb hby at_29) rfl rfl ?_
  refine own_s_iconst X181.here hx (3 : Int32) (hb hby at_31) rfl ?_
  obtain ⟨T184, h184, k184, X184, e184, E184, A184, st184⟩ := newP X181 hx hZ (hw _ (List.mem_of_getElem? (i := 1) rfl)) e181 (g := (mkF m 32 #[.val (.int w0), .val (.int a0_), .val (.int b0), .val (.int c0), .val (.int fl), .val (.long s_), .second, .val (.int (Int32.ofNat n)), .val (.int (Int32.ofNat o)), .val (.ref b179), .val (.ref b181), .unset, .unset, .unset, .unset] [(.int (3 : Int32))])) rfl (hb hby at_32) rfl (by decide) (cap := 3) (by decide) (by decide) (by decide) (by decide)
  obtain ⟨b184, g184⟩ : ∃ z, z = h181.size := ⟨_, rfl⟩
  rw [← g184] at A184 st184
  have ge_b184 : n0 ≤ b184 := Nat.le_trans SZ181 (Nat.le_of_eq g184.symm)
  have ne_b179_b184 : b179 ≠ b184 := Nat.ne_of_lt (Nat.lt_of_lt_of_le f182.lt (Nat.le_of_eq g184.symm))
  have ne_b181_b184 : b181 ≠ b184 := Nat.ne_of_lt (Nat.lt_of_lt_of_le f183.lt (Nat.le_of_eq g184.symm))
  have f185 := f182.ext E184
  have f186 := f183.ext E184
  have SZ184 : n0 ≤ h184.size := Nat.le_trans SZ181 E184.1
  have f187 : own_Av Z h184 b184 .long 3 (fun _ => (.long (0 : Int64))) := own_Av.ofnew A184 (by decide) rfl
  refine own_by st184 ?_
  show own_Go p e below T184 (mkF m 34 #[.val (.int w0), .val (.int a0_), .val (.int b0), .val (.int c0), .val (.int fl), .val (.long s_), .second, .val (.int (Int32.ofNat n)), .val (.int (Int32.ofNat o)), .val (.ref b179), .val (.ref b181), .unset, .unset, .unset, .unset] [(.ref b184)]) _
  refine own_s_astore X184.here hx #[.val (.int w0), .val (.int a0_), .val (.int b0), .val (.int c0), .val (.int fl), .val (.long s_), .second, .val (.int (Int32.ofNat n)), .val (.int (Int32.ofNat o)), .val (.ref b179), .val (.ref b181), .val (.ref b184), .unset, .unset, .unset] (hb hby at_34) rfl rfl ?_
  refine own_s_aload X184.here hx (hb hby at_36) rfl rfl ?_
  refine own_s_iconst X184.here hx (0 : Int32) (hb hby at_38) rfl ?_
  refine own_s_lload X184.here hx (hb hby at_39) rfl ?_
  obtain ⟨T188, h188, X188, e188, W188, fa188, st188⟩ := own_stJ X184 hx hZ e184 f186 (k := 0) (by decide) (by decide) (g := (mkF m 41 #[.val (.int w0), .val (.int a0_), .val (.int b0), .val (.int c0), .val (.int fl), .val (.long s_), .second, .val (.int (Int32.ofNat n)), .val (.int (Int32.ofNat o)), .val (.ref b179), .val (.ref b181), .val (.ref b184), .unset, .unset, .unset] [(.long s_), (.int (0 : Int32)), (.ref b181)])) rfl rfl (hb hby at_41)
  have f189 := f185.other W188 ne_b179_b181
  have f190 := f187.other W188 (Ne.symm ne_b181_b184)
  have N188 := Fr.snoc X188 N0 ge_b181
  have SZ188 : n0 ≤ h188.size := by rw [W188.size]; exact SZ184
  refine own_by st188 ?_
  show own_Go p e below T188 (mkF m 42 #[.val (.int w0), .val (.int a0_), .val (.int b0), .val (.int c0), .val (.int fl), .val (.long s_), .second, .val (.int (Int32.ofNat n)), .val (.int (Int32.ofNat o)), .val (.ref b179), .val (.ref b181), .val (.ref b184), .unset, .unset, .unset] []) _
  refine own_s_aload X188.here hx (hb hby at_42) rfl rfl ?_
  refine own_s_iconst X188.here hx (1 : Int32) (hb hby at_44) rfl ?_
  refine own_s_lload X188.here hx (hb hby at_45) rfl ?_
  obtain ⟨T191, h191, X191, e191, W191, fa191, st191⟩ := own_stJ X188 hx hZ e188 fa188 (k := 1) (by decide) (by decide) (g := (mkF m 47 #[.val (.int w0), .val (.int a0_), .val (.int b0), .val (.int c0), .val (.int fl), .val (.long s_), .second, .val (.int (Int32.ofNat n)), .val (.int (Int32.ofNat o)), .val (.ref b179), .val (.ref b181), .val (.ref b184), .unset, .unset, .unset] [(.long s_), (.int (1 : Int32)), (.ref b181)])) rfl rfl (hb hby at_47)
  have f192 := f189.other W191 ne_b179_b181
  have f193 := f190.other W191 (Ne.symm ne_b181_b184)
  have N191 := Fr.snoc X191 N188 ge_b181
  have SZ191 : n0 ≤ h191.size := by rw [W191.size]; exact SZ188
  refine own_by st191 ?_
  show own_Go p e below T191 (mkF m 48 #[.val (.int w0), .val (.int a0_), .val (.int b0), .val (.int c0), .val (.int fl), .val (.long s_), .second, .val (.int (Int32.ofNat n)), .val (.int (Int32.ofNat o)), .val (.ref b179), .val (.ref b181), .val (.ref b184), .unset, .unset, .unset] []) _
  refine own_s_aload X191.here hx (hb hby at_48) rfl rfl ?_
  refine own_s_iconst X191.here hx (2 : Int32) (hb hby at_50) rfl ?_
  refine own_s_lload X191.here hx (hb hby at_51) rfl ?_
  obtain ⟨T194, h194, X194, e194, W194, fa194, st194⟩ := own_stJ X191 hx hZ e191 fa191 (k := 2) (by decide) (by decide) (g := (mkF m 53 #[.val (.int w0), .val (.int a0_), .val (.int b0), .val (.int c0), .val (.int fl), .val (.long s_), .second, .val (.int (Int32.ofNat n)), .val (.int (Int32.ofNat o)), .val (.ref b179), .val (.ref b181), .val (.ref b184), .unset, .unset, .unset] [(.long s_), (.int (2 : Int32)), (.ref b181)])) rfl rfl (hb hby at_53)
  have f195 := f192.other W194 ne_b179_b181
  have f196 := f193.other W194 (Ne.symm ne_b181_b184)
  have N194 := Fr.snoc X194 N191 ge_b181
  have SZ194 : n0 ≤ h194.size := by rw [W194.size]; exact SZ191
  refine own_by st194 ?_
  show own_Go p e below T194 (mkF m 54 #[.val (.int w0), .val (.int a0_), .val (.int b0), .val (.int c0), .val (.int fl), .val (.long s_), .second, .val (.int (Int32.ofNat n)), .val (.int (Int32.ofNat o)), .val (.ref b179), .val (.ref b181), .val (.ref b184), .unset, .unset, .unset] []) _
  refine own_s_aload X194.here hx (hb hby at_54) rfl rfl ?_
  refine own_s_iconst X194.here hx (3 : Int32) (hb hby at_56) rfl ?_
  refine own_s_lload X194.here hx (hb hby at_57) rfl ?_
  obtain ⟨T197, h197, X197, e197, W197, fa197, st197⟩ := own_stJ X194 hx hZ e194 fa194 (k := 3) (by decide) (by decide) (g := (mkF m 59 #[.val (.int w0), .val (.int a0_), .val (.int b0), .val (.int c0), .val (.int fl), .val (.long s_), .second, .val (.int (Int32.ofNat n)), .val (.int (Int32.ofNat o)), .val (.ref b179), .val (.ref b181), .val (.ref b184), .unset, .unset, .unset] [(.long s_), (.int (3 : Int32)), (.ref b181)])) rfl rfl (hb hby at_59)
  have f198 := f195.other W197 ne_b179_b181
  have f199 := f196.other W197 (Ne.symm ne_b181_b184)
  have N197 := Fr.snoc X197 N194 ge_b181
  have SZ197 : n0 ≤ h197.size := by rw [W197.size]; exact SZ194
  refine own_by st197 ?_
  show own_Go p e below T197 (mkF m 60 #[.val (.int w0), .val (.int a0_), .val (.int b0), .val (.int c0), .val (.int fl), .val (.long s_), .second, .val (.int (Int32.ofNat n)), .val (.int (Int32.ofNat o)), .val (.ref b179), .val (.ref b181), .val (.ref b184), .unset, .unset, .unset] []) _
  refine own_s_aload X197.here hx (hb hby at_60) rfl rfl ?_
  refine own_s_iconst X197.here hx (4 : Int32) (hb hby at_62) rfl ?_
  refine own_s_lload X197.here hx (hb hby at_63) rfl ?_
  obtain ⟨T200, h200, X200, e200, W200, fa200, st200⟩ := own_stJ X197 hx hZ e197 fa197 (k := 4) (by decide) (by decide) (g := (mkF m 65 #[.val (.int w0), .val (.int a0_), .val (.int b0), .val (.int c0), .val (.int fl), .val (.long s_), .second, .val (.int (Int32.ofNat n)), .val (.int (Int32.ofNat o)), .val (.ref b179), .val (.ref b181), .val (.ref b184), .unset, .unset, .unset] [(.long s_), (.int (4 : Int32)), (.ref b181)])) rfl rfl (hb hby at_65)
  have f201 := f198.other W200 ne_b179_b181
  have f202 := f199.other W200 (Ne.symm ne_b181_b184)
  have N200 := Fr.snoc X200 N197 ge_b181
  have SZ200 : n0 ≤ h200.size := by rw [W200.size]; exact SZ197
  refine own_by st200 ?_
  show own_Go p e below T200 (mkF m 66 #[.val (.int w0), .val (.int a0_), .val (.int b0), .val (.int c0), .val (.int fl), .val (.long s_), .second, .val (.int (Int32.ofNat n)), .val (.int (Int32.ofNat o)), .val (.ref b179), .val (.ref b181), .val (.ref b184), .unset, .unset, .unset] []) _
  refine own_s_aload X200.here hx (hb hby at_66) rfl rfl ?_
  refine own_s_iconst X200.here hx (5 : Int32) (hb hby at_68) rfl ?_
  refine own_s_lload X200.here hx (hb hby at_69) rfl ?_
  obtain ⟨T203, h203, X203, e203, W203, fa203, st203⟩ := own_stJ X200 hx hZ e200 fa200 (k := 5) (by decide) (by decide) (g := (mkF m 71 #[.val (.int w0), .val (.int a0_), .val (.int b0), .val (.int c0), .val (.int fl), .val (.long s_), .second, .val (.int (Int32.ofNat n)), .val (.int (Int32.ofNat o)), .val (.ref b179), .val (.ref b181), .val (.ref b184), .unset, .unset, .unset] [(.long s_), (.int (5 : Int32)), (.ref b181)])) rfl rfl (hb hby at_71)
  have f204 := f201.other W203 ne_b179_b181
  have f205 := f202.other W203 (Ne.symm ne_b181_b184)
  have N203 := Fr.snoc X203 N200 ge_b181
  have SZ203 : n0 ≤ h203.size := by rw [W203.size]; exact SZ200
  refine own_by st203 ?_
  show own_Go p e below T203 (mkF m 72 #[.val (.int w0), .val (.int a0_), .val (.int b0), .val (.int c0), .val (.int fl), .val (.long s_), .second, .val (.int (Int32.ofNat n)), .val (.int (Int32.ofNat o)), .val (.ref b179), .val (.ref b181), .val (.ref b184), .unset, .unset, .unset] []) _
  refine own_s_aload X203.here hx (hb hby at_72) rfl rfl ?_
  refine own_s_bipush X203.here hx (6 : Int32) (hb hby at_74) rfl ?_
  refine own_s_lload X203.here hx (hb hby at_76) rfl ?_
  obtain ⟨T206, h206, X206, e206, W206, fa206, st206⟩ := own_stJ X203 hx hZ e203 fa203 (k := 6) (by decide) (by decide) (g := (mkF m 78 #[.val (.int w0), .val (.int a0_), .val (.int b0), .val (.int c0), .val (.int fl), .val (.long s_), .second, .val (.int (Int32.ofNat n)), .val (.int (Int32.ofNat o)), .val (.ref b179), .val (.ref b181), .val (.ref b184), .unset, .unset, .unset] [(.long s_), (.int (6 : Int32)), (.ref b181)])) rfl rfl (hb hby at_78)
  have f207 := f204.other W206 ne_b179_b181
  have f208 := f205.other W206 (Ne.symm ne_b181_b184)
  have N206 := Fr.snoc X206 N203 ge_b181
  have SZ206 : n0 ≤ h206.size := by rw [W206.size]; exact SZ203
  refine own_by st206 ?_
  show own_Go p e below T206 (mkF m 79 #[.val (.int w0), .val (.int a0_), .val (.int b0), .val (.int c0), .val (.int fl), .val (.long s_), .second, .val (.int (Int32.ofNat n)), .val (.int (Int32.ofNat o)), .val (.ref b179), .val (.ref b181), .val (.ref b184), .unset, .unset, .unset] []) _
  refine own_s_aload X206.here hx (hb hby at_79) rfl rfl ?_
  refine own_s_bipush X206.here hx (7 : Int32) (hb hby at_81) rfl ?_
  refine own_s_lload X206.here hx (hb hby at_83) rfl ?_
  obtain ⟨T209, h209, X209, e209, W209, fa209, st209⟩ := own_stJ X206 hx hZ e206 fa206 (k := 7) (by decide) (by decide) (g := (mkF m 85 #[.val (.int w0), .val (.int a0_), .val (.int b0), .val (.int c0), .val (.int fl), .val (.long s_), .second, .val (.int (Int32.ofNat n)), .val (.int (Int32.ofNat o)), .val (.ref b179), .val (.ref b181), .val (.ref b184), .unset, .unset, .unset] [(.long s_), (.int (7 : Int32)), (.ref b181)])) rfl rfl (hb hby at_85)
  have f210 := f207.other W209 ne_b179_b181
  have f211 := f208.other W209 (Ne.symm ne_b181_b184)
  have N209 := Fr.snoc X209 N206 ge_b181
  have SZ209 : n0 ≤ h209.size := by rw [W209.size]; exact SZ206
  refine own_by st209 ?_
  show own_Go p e below T209 (mkF m 86 #[.val (.int w0), .val (.int a0_), .val (.int b0), .val (.int c0), .val (.int fl), .val (.long s_), .second, .val (.int (Int32.ofNat n)), .val (.int (Int32.ofNat o)), .val (.ref b179), .val (.ref b181), .val (.ref b184), .unset, .unset, .unset] []) _
  have f212 : own_Av Z h209 b181 .long 8 (fun _ => .long s_) := fa209.cong rfl (fun i hi => by
    match i, hi with
    | 0, _ => rfl
    | 1, _ => rfl
    | 2, _ => rfl
    | 3, _ => rfl
    | 4, _ => rfl
    | 5, _ => rfl
    | 6, _ => rfl
    | 7, _ => rfl)
  refine own_s_iload X209.here hx (hb hby at_86) rfl ?_
  by_cases hc88 : 0 < (Int32.ofNat n)
  ·
    refine own_s_ifNo X209.here hx (hb hby at_88) (Jvm.Free.XT.i0_le_f hc88) ?_
    have hn0 : 0 < n := (own_oflt (i := 0) (by omega) (by omega)).mp hc88
    refine own_s_iloadN X209.here hx (hb hby at_91) rfl ?_
    refine own_by (fun tq_ kq_ => X209.ldcInt hx hown (mvT hZ (hw _ (List.mem_of_getElem? (i := 0) rfl))) (g := (mkF m 92 #[.val (.int w0), .val (.int a0_), .val (.int b0), .val (.int c0), .val (.int fl), .val (.long s_), .second, .val (.int (Int32.ofNat n)), .val (.int (Int32.ofNat o)), .val (.ref b179), .val (.ref b181), .val (.ref b184), .unset, .unset, .unset] [(.int a0_)])) rfl (hb hby at_92) tq_ kq_) ?_
    show own_Go p e below T209 (mkF m 94 #[.val (.int w0), .val (.int a0_), .val (.int b0), .val (.int c0), .val (.int fl), .val (.long s_), .second, .val (.int (Int32.ofNat n)), .val (.int (Int32.ofNat o)), .val (.ref b179), .val (.ref b181), .val (.ref b184), .unset, .unset, .unset] [(.int (2147483647 : Int32)), (.int a0_)]) _
    refine own_s_iand X209.here hx (hb hby at_94) ?_
    refine own_s_iload X209.here hx (hb hby at_95) rfl ?_
    refine own_by (fun tq_ kq_ => iremM X209 hx rfl (hb hby at_97) rfl (own_nzn hn0 (by omega)) kq_) ?_
    show own_Go p e below T209 (mkF m 98 #[.val (.int w0), .val (.int a0_), .val (.int b0), .val (.int c0), .val (.int fl), .val (.long s_), .second, .val (.int (Int32.ofNat n)), .val (.int (Int32.ofNat o)), .val (.ref b179), .val (.ref b181), .val (.ref b184), .unset, .unset, .unset] [(.int ((a0_ &&& (2147483647 : Int32)) % (Int32.ofNat n)))]) _
    obtain ⟨p_, hp, hpe⟩ := own_qb a0_ n hn0 (by omega)
    rw [hpe]
    show own_Go p e below T209 (mkF m 98 #[.val (.int w0), .val (.int a0_), .val (.int b0), .val (.int c0), .val (.int fl), .val (.long s_), .second, .val (.int (Int32.ofNat n)), .val (.int (Int32.ofNat o)), .val (.ref b179), .val (.ref b181), .val (.ref b184), .unset, .unset, .unset] [(.int (Int32.ofNat p_))]) _
    refine own_s_istore X209.here hx #[.val (.int w0), .val (.int a0_), .val (.int b0), .val (.int c0), .val (.int fl), .val (.long s_), .second, .val (.int (Int32.ofNat n)), .val (.int (Int32.ofNat o)), .val (.ref b179), .val (.ref b181), .val (.ref b184), .val (.int (Int32.ofNat p_)), .unset, .unset] (hb hby at_98) rfl ?_
    refine own_s_iloadN X209.here hx (hb hby at_100) rfl ?_
    refine own_by (fun tq_ kq_ => X209.ldcInt hx hown (mvT hZ (hw _ (List.mem_of_getElem? (i := 0) rfl))) (g := (mkF m 101 #[.val (.int w0), .val (.int a0_), .val (.int b0), .val (.int c0), .val (.int fl), .val (.long s_), .second, .val (.int (Int32.ofNat n)), .val (.int (Int32.ofNat o)), .val (.ref b179), .val (.ref b181), .val (.ref b184), .val (.int (Int32.ofNat p_)), .unset, .unset] [(.int b0)])) rfl (hb hby at_101) tq_ kq_) ?_
    show own_Go p e below T209 (mkF m 103 #[.val (.int w0), .val (.int a0_), .val (.int b0), .val (.int c0), .val (.int fl), .val (.long s_), .second, .val (.int (Int32.ofNat n)), .val (.int (Int32.ofNat o)), .val (.ref b179), .val (.ref b181), .val (.ref b184), .val (.int (Int32.ofNat p_)), .unset, .unset] [(.int (2147483647 : Int32)), (.int b0)]) _
    refine own_s_iand X209.here hx (hb hby at_103) ?_
    refine own_s_iload X209.here hx (hb hby at_104) rfl ?_
    refine own_by (fun tq_ kq_ => iremM X209 hx rfl (hb hby at_106) rfl (own_nzn hn0 (by omega)) kq_) ?_
    show own_Go p e below T209 (mkF m 107 #[.val (.int w0), .val (.int a0_), .val (.int b0), .val (.int c0), .val (.int fl), .val (.long s_), .second, .val (.int (Int32.ofNat n)), .val (.int (Int32.ofNat o)), .val (.ref b179), .val (.ref b181), .val (.ref b184), .val (.int (Int32.ofNat p_)), .unset, .unset] [(.int ((b0 &&& (2147483647 : Int32)) % (Int32.ofNat n)))]) _
    obtain ⟨q_, hq, hqe⟩ := own_qb b0 n hn0 (by omega)
    rw [hqe]
    show own_Go p e below T209 (mkF m 107 #[.val (.int w0), .val (.int a0_), .val (.int b0), .val (.int c0), .val (.int fl), .val (.long s_), .second, .val (.int (Int32.ofNat n)), .val (.int (Int32.ofNat o)), .val (.ref b179), .val (.ref b181), .val (.ref b184), .val (.int (Int32.ofNat p_)), .unset, .unset] [(.int (Int32.ofNat q_))]) _
    refine own_s_istore X209.here hx #[.val (.int w0), .val (.int a0_), .val (.int b0), .val (.int c0), .val (.int fl), .val (.long s_), .second, .val (.int (Int32.ofNat n)), .val (.int (Int32.ofNat o)), .val (.ref b179), .val (.ref b181), .val (.ref b184), .val (.int (Int32.ofNat p_)), .val (.int (Int32.ofNat q_)), .unset] (hb hby at_107) rfl ?_
    refine own_s_iloadN X209.here hx (hb hby at_109) rfl ?_
    refine own_by (fun tq_ kq_ => X209.ldcInt hx hown (mvT hZ (hw _ (List.mem_of_getElem? (i := 0) rfl))) (g := (mkF m 110 #[.val (.int w0), .val (.int a0_), .val (.int b0), .val (.int c0), .val (.int fl), .val (.long s_), .second, .val (.int (Int32.ofNat n)), .val (.int (Int32.ofNat o)), .val (.ref b179), .val (.ref b181), .val (.ref b184), .val (.int (Int32.ofNat p_)), .val (.int (Int32.ofNat q_)), .unset] [(.int c0)])) rfl (hb hby at_110) tq_ kq_) ?_
    show own_Go p e below T209 (mkF m 112 #[.val (.int w0), .val (.int a0_), .val (.int b0), .val (.int c0), .val (.int fl), .val (.long s_), .second, .val (.int (Int32.ofNat n)), .val (.int (Int32.ofNat o)), .val (.ref b179), .val (.ref b181), .val (.ref b184), .val (.int (Int32.ofNat p_)), .val (.int (Int32.ofNat q_)), .unset] [(.int (2147483647 : Int32)), (.int c0)]) _
    refine own_s_iand X209.here hx (hb hby at_112) ?_
    refine own_s_iload X209.here hx (hb hby at_113) rfl ?_
    refine own_by (fun tq_ kq_ => iremM X209 hx rfl (hb hby at_115) rfl (own_nzn hn0 (by omega)) kq_) ?_
    show own_Go p e below T209 (mkF m 116 #[.val (.int w0), .val (.int a0_), .val (.int b0), .val (.int c0), .val (.int fl), .val (.long s_), .second, .val (.int (Int32.ofNat n)), .val (.int (Int32.ofNat o)), .val (.ref b179), .val (.ref b181), .val (.ref b184), .val (.int (Int32.ofNat p_)), .val (.int (Int32.ofNat q_)), .unset] [(.int ((c0 &&& (2147483647 : Int32)) % (Int32.ofNat n)))]) _
    obtain ⟨r_, hr, hre⟩ := own_qb c0 n hn0 (by omega)
    rw [hre]
    show own_Go p e below T209 (mkF m 116 #[.val (.int w0), .val (.int a0_), .val (.int b0), .val (.int c0), .val (.int fl), .val (.long s_), .second, .val (.int (Int32.ofNat n)), .val (.int (Int32.ofNat o)), .val (.ref b179), .val (.ref b181), .val (.ref b184), .val (.int (Int32.ofNat p_)), .val (.int (Int32.ofNat q_)), .unset] [(.int (Int32.ofNat r_))]) _
    refine own_s_istore X209.here hx #[.val (.int w0), .val (.int a0_), .val (.int b0), .val (.int c0), .val (.int fl), .val (.long s_), .second, .val (.int (Int32.ofNat n)), .val (.int (Int32.ofNat o)), .val (.ref b179), .val (.ref b181), .val (.ref b184), .val (.int (Int32.ofNat p_)), .val (.int (Int32.ofNat q_)), .val (.int (Int32.ofNat r_))] (hb hby at_116) rfl ?_
    refine own_s_aload X209.here hx (hb hby at_118) rfl rfl ?_
    refine own_s_iload X209.here hx (hb hby at_120) rfl ?_
    refine own_s_iload X209.here hx (hb hby at_122) rfl ?_
    refine own_s_iconst X209.here hx (1 : Int32) (hb hby at_124) rfl ?_
    refine own_s_iand X209.here hx (hb hby at_125) ?_
    refine own_s_i2l X209.here hx (hb hby at_126) ?_
    obtain ⟨T213, h213, X213, e213, W213, fa213, st213⟩ := own_stJ X209 hx hZ e209 f210 (k := p_) (own_ix (by omega)) (by omega) (g := (mkF m 127 #[.val (.int w0), .val (.int a0_), .val (.int b0), .val (.int c0), .val (.int fl), .val (.long s_), .second, .val (.int (Int32.ofNat n)), .val (.int (Int32.ofNat o)), .val (.ref b179), .val (.ref b181), .val (.ref b184), .val (.int (Int32.ofNat p_)), .val (.int (Int32.ofNat q_)), .val (.int (Int32.ofNat r_))] [(.long ((fl &&& (1 : Int32)).toInt64)), (.int (Int32.ofNat p_)), (.ref b179)])) rfl rfl (hb hby at_127)
    have f214 := f212.other W213 (Ne.symm ne_b179_b181)
    have f215 := f211.other W213 (Ne.symm ne_b179_b184)
    have N213 := Fr.snoc X213 N209 ge_b179
    have SZ213 : n0 ≤ h213.size := by rw [W213.size]; exact SZ209
    refine own_by st213 ?_
    show own_Go p e below T213 (mkF m 128 #[.val (.int w0), .val (.int a0_), .val (.int b0), .val (.int c0), .val (.int fl), .val (.long s_), .second, .val (.int (Int32.ofNat n)), .val (.int (Int32.ofNat o)), .val (.ref b179), .val (.ref b181), .val (.ref b184), .val (.int (Int32.ofNat p_)), .val (.int (Int32.ofNat q_)), .val (.int (Int32.ofNat r_))] []) _
    refine own_s_aload X213.here hx (hb hby at_128) rfl rfl ?_
    refine own_s_iload X213.here hx (hb hby at_130) rfl ?_
    refine own_s_iload X213.here hx (hb hby at_132) rfl ?_
    refine own_s_iconst X213.here hx (1 : Int32) (hb hby at_134) rfl ?_
    refine own_s_iushr X213.here hx (hb hby at_135) ?_
    refine own_s_iconst X213.here hx (1 : Int32) (hb hby at_136) rfl ?_
    refine own_s_iand X213.here hx (hb hby at_137) ?_
    refine own_s_i2l X213.here hx (hb hby at_138) ?_
    obtain ⟨T216, h216, X216, e216, W216, fa216, st216⟩ := own_stJ X213 hx hZ e213 fa213 (k := q_) (own_ix (by omega)) (by omega) (g := (mkF m 139 #[.val (.int w0), .val (.int a0_), .val (.int b0), .val (.int c0), .val (.int fl), .val (.long s_), .second, .val (.int (Int32.ofNat n)), .val (.int (Int32.ofNat o)), .val (.ref b179), .val (.ref b181), .val (.ref b184), .val (.int (Int32.ofNat p_)), .val (.int (Int32.ofNat q_)), .val (.int (Int32.ofNat r_))] [(.long ((((fl.toUInt32 >>> ((1 : Int32) &&& 31).toUInt32).toInt32) &&& (1 : Int32)).toInt64)), (.int (Int32.ofNat q_)), (.ref b179)])) rfl rfl (hb hby at_139)
    have f217 := f214.other W216 (Ne.symm ne_b179_b181)
    have f218 := f215.other W216 (Ne.symm ne_b179_b184)
    have N216 := Fr.snoc X216 N213 ge_b179
    have SZ216 : n0 ≤ h216.size := by rw [W216.size]; exact SZ213
    refine own_by st216 ?_
    show own_Go p e below T216 (mkF m 140 #[.val (.int w0), .val (.int a0_), .val (.int b0), .val (.int c0), .val (.int fl), .val (.long s_), .second, .val (.int (Int32.ofNat n)), .val (.int (Int32.ofNat o)), .val (.ref b179), .val (.ref b181), .val (.ref b184), .val (.int (Int32.ofNat p_)), .val (.int (Int32.ofNat q_)), .val (.int (Int32.ofNat r_))] []) _
    refine own_s_aload X216.here hx (hb hby at_140) rfl rfl ?_
    refine own_s_iload X216.here hx (hb hby at_142) rfl ?_
    refine own_s_iload X216.here hx (hb hby at_144) rfl ?_
    refine own_s_iconst X216.here hx (2 : Int32) (hb hby at_146) rfl ?_
    refine own_s_iushr X216.here hx (hb hby at_147) ?_
    refine own_s_iconst X216.here hx (1 : Int32) (hb hby at_148) rfl ?_
    refine own_s_iand X216.here hx (hb hby at_149) ?_
    refine own_s_i2l X216.here hx (hb hby at_150) ?_
    obtain ⟨T219, h219, X219, e219, W219, fa219, st219⟩ := own_stJ X216 hx hZ e216 fa216 (k := r_) (own_ix (by omega)) (by omega) (g := (mkF m 151 #[.val (.int w0), .val (.int a0_), .val (.int b0), .val (.int c0), .val (.int fl), .val (.long s_), .second, .val (.int (Int32.ofNat n)), .val (.int (Int32.ofNat o)), .val (.ref b179), .val (.ref b181), .val (.ref b184), .val (.int (Int32.ofNat p_)), .val (.int (Int32.ofNat q_)), .val (.int (Int32.ofNat r_))] [(.long ((((fl.toUInt32 >>> ((2 : Int32) &&& 31).toUInt32).toInt32) &&& (1 : Int32)).toInt64)), (.int (Int32.ofNat r_)), (.ref b179)])) rfl rfl (hb hby at_151)
    have f220 := f217.other W219 (Ne.symm ne_b179_b181)
    have f221 := f218.other W219 (Ne.symm ne_b179_b184)
    have N219 := Fr.snoc X219 N216 ge_b179
    have SZ219 : n0 ≤ h219.size := by rw [W219.size]; exact SZ216
    refine own_by st219 ?_
    show own_Go p e below T219 (mkF m 152 #[.val (.int w0), .val (.int a0_), .val (.int b0), .val (.int c0), .val (.int fl), .val (.long s_), .second, .val (.int (Int32.ofNat n)), .val (.int (Int32.ofNat o)), .val (.ref b179), .val (.ref b181), .val (.ref b184), .val (.int (Int32.ofNat p_)), .val (.int (Int32.ofNat q_)), .val (.int (Int32.ofNat r_))] []) _
    have f222 : own_Av Z h219 b179 .long 130 (fun j => .long ((own_mv p_ q_ r_ ((fl &&& (1 : Int32)).toInt64) ((((fl.toUInt32 >>> ((1 : Int32) &&& 31).toUInt32).toInt32) &&& (1 : Int32)).toInt64) ((((fl.toUInt32 >>> ((2 : Int32) &&& 31).toUInt32).toInt32) &&& (1 : Int32)).toInt64)) j)) := fa219.cong rfl (fun j _ => own_mv_eq _ _ _ _ _ _ j)
    have f223 : own_Av Z h219 b184 .long 3 (fun k => .long ((fun _ => (0 : Int64)) k)) := f221
    refine own_s_aload X219.here hx (hb hby at_152) rfl rfl ?_
    refine own_s_iload X219.here hx (hb hby at_154) rfl ?_
    refine own_s_bipush X219.here hx (6 : Int32) (hb hby at_156) rfl ?_
    refine own_s_iushr X219.here hx (hb hby at_158) ?_
    rw [own_sh6 p_ (by omega)]
    show own_Go p e below T219 (mkF m 159 #[.val (.int w0), .val (.int a0_), .val (.int b0), .val (.int c0), .val (.int fl), .val (.long s_), .second, .val (.int (Int32.ofNat n)), .val (.int (Int32.ofNat o)), .val (.ref b179), .val (.ref b181), .val (.ref b184), .val (.int (Int32.ofNat p_)), .val (.int (Int32.ofNat q_)), .val (.int (Int32.ofNat r_))] [(.int (Int32.ofNat (p_ / 64))), (.ref b184)]) _
    refine own_by (fun tq_ kq_ => Jvm.Free.XT.dup2 X219.here hx rfl (hb hby at_159) rfl rfl rfl kq_) ?_
    show own_Go p e below T219 (mkF m 160 #[.val (.int w0), .val (.int a0_), .val (.int b0), .val (.int c0), .val (.int fl), .val (.long s_), .second, .val (.int (Int32.ofNat n)), .val (.int (Int32.ofNat o)), .val (.ref b179), .val (.ref b181), .val (.ref b184), .val (.int (Int32.ofNat p_)), .val (.int (Int32.ofNat q_)), .val (.int (Int32.ofNat r_))] [(.int (Int32.ofNat (p_ / 64))), (.ref b184), (.int (Int32.ofNat (p_ / 64))), (.ref b184)]) _
    refine own_by (fun tq_ kq_ => own_ldJ X219 hx hZ e219 f223 (k := (p_ / 64)) (v := (.long ((fun _ => (0 : Int64)) (p_ / 64)))) (own_ix (by omega)) (by omega) rfl (g := (mkF m 160 #[.val (.int w0), .val (.int a0_), .val (.int b0), .val (.int c0), .val (.int fl), .val (.long s_), .second, .val (.int (Int32.ofNat n)), .val (.int (Int32.ofNat o)), .val (.ref b179), .val (.ref b181), .val (.ref b184), .val (.int (Int32.ofNat p_)), .val (.int (Int32.ofNat q_)), .val (.int (Int32.ofNat r_))] [(.int (Int32.ofNat (p_ / 64))), (.ref b184), (.int (Int32.ofNat (p_ / 64))), (.ref b184)])) rfl rfl (hb hby at_160) tq_ kq_) ?_
    show own_Go p e below T219 (mkF m 161 #[.val (.int w0), .val (.int a0_), .val (.int b0), .val (.int c0), .val (.int fl), .val (.long s_), .second, .val (.int (Int32.ofNat n)), .val (.int (Int32.ofNat o)), .val (.ref b179), .val (.ref b181), .val (.ref b184), .val (.int (Int32.ofNat p_)), .val (.int (Int32.ofNat q_)), .val (.int (Int32.ofNat r_))] [(.long ((fun _ => (0 : Int64)) (p_ / 64))), (.int (Int32.ofNat (p_ / 64))), (.ref b184)]) _
    refine own_s_aload X219.here hx (hb hby at_161) rfl rfl ?_
    refine own_s_iload X219.here hx (hb hby at_163) rfl ?_
    refine own_by (fun tq_ kq_ => own_ldJ X219 hx hZ e219 f222 (k := p_) (v := (.long ((own_mv p_ q_ r_ ((fl &&& (1 : Int32)).toInt64) ((((fl.toUInt32 >>> ((1 : Int32) &&& 31).toUInt32).toInt32) &&& (1 : Int32)).toInt64) ((((fl.toUInt32 >>> ((2 : Int32) &&& 31).toUInt32).toInt32) &&& (1 : Int32)).toInt64)) p_))) (own_ix (by omega)) (by omega) rfl (g := (mkF m 165 #[.val (.int w0), .val (.int a0_), .val (.int b0), .val (.int c0), .val (.int fl), .val (.long s_), .second, .val (.int (Int32.ofNat n)), .val (.int (Int32.ofNat o)), .val (.ref b179), .val (.ref b181), .val (.ref b184), .val (.int (Int32.ofNat p_)), .val (.int (Int32.ofNat q_)), .val (.int (Int32.ofNat r_))] [(.int (Int32.ofNat p_)), (.ref b179), (.long ((fun _ => (0 : Int64)) (p_ / 64))), (.int (Int32.ofNat (p_ / 64))), (.ref b184)])) rfl rfl (hb hby at_165) tq_ kq_) ?_
    show own_Go p e below T219 (mkF m 166 #[.val (.int w0), .val (.int a0_), .val (.int b0), .val (.int c0), .val (.int fl), .val (.long s_), .second, .val (.int (Int32.ofNat n)), .val (.int (Int32.ofNat o)), .val (.ref b179), .val (.ref b181), .val (.ref b184), .val (.int (Int32.ofNat p_)), .val (.int (Int32.ofNat q_)), .val (.int (Int32.ofNat r_))] [(.long ((own_mv p_ q_ r_ ((fl &&& (1 : Int32)).toInt64) ((((fl.toUInt32 >>> ((1 : Int32) &&& 31).toUInt32).toInt32) &&& (1 : Int32)).toInt64) ((((fl.toUInt32 >>> ((2 : Int32) &&& 31).toUInt32).toInt32) &&& (1 : Int32)).toInt64)) p_)), (.long ((fun _ => (0 : Int64)) (p_ / 64))), (.int (Int32.ofNat (p_ / 64))), (.ref b184)]) _
    refine own_s_iload X219.here hx (hb hby at_166) rfl ?_
    refine own_s_bipush X219.here hx (63 : Int32) (hb hby at_168) rfl ?_
    refine own_s_iand X219.here hx (hb hby at_170) ?_
    rw [own_an6 p_ (by omega)]
    show own_Go p e below T219 (mkF m 171 #[.val (.int w0), .val (.int a0_), .val (.int b0), .val (.int c0), .val (.int fl), .val (.long s_), .second, .val (.int (Int32.ofNat n)), .val (.int (Int32.ofNat o)), .val (.ref b179), .val (.ref b181), .val (.ref b184), .val (.int (Int32.ofNat p_)), .val (.int (Int32.ofNat q_)), .val (.int (Int32.ofNat r_))] [(.int (Int32.ofNat (p_ % 64))), (.long ((own_mv p_ q_ r_ ((fl &&& (1 : Int32)).toInt64) ((((fl.toUInt32 >>> ((1 : Int32) &&& 31).toUInt32).toInt32) &&& (1 : Int32)).toInt64) ((((fl.toUInt32 >>> ((2 : Int32) &&& 31).toUInt32).toInt32) &&& (1 : Int32)).toInt64)) p_)), (.long ((fun _ => (0 : Int64)) (p_ / 64))), (.int (Int32.ofNat (p_ / 64))), (.ref b184)]) _
    refine own_s_lshl X219.here hx (hb hby at_171) ?_
    show own_Go p e below T219 (mkF m 172 #[.val (.int w0), .val (.int a0_), .val (.int b0), .val (.int c0), .val (.int fl), .val (.long s_), .second, .val (.int (Int32.ofNat n)), .val (.int (Int32.ofNat o)), .val (.ref b179), .val (.ref b181), .val (.ref b184), .val (.int (Int32.ofNat p_)), .val (.int (Int32.ofNat q_)), .val (.int (Int32.ofNat r_))] [(.long (own_tm (own_mv p_ q_ r_ ((fl &&& (1 : Int32)).toInt64) ((((fl.toUInt32 >>> ((1 : Int32) &&& 31).toUInt32).toInt32) &&& (1 : Int32)).toInt64) ((((fl.toUInt32 >>> ((2 : Int32) &&& 31).toUInt32).toInt32) &&& (1 : Int32)).toInt64)) p_)), (.long ((fun _ => (0 : Int64)) (p_ / 64))), (.int (Int32.ofNat (p_ / 64))), (.ref b184)]) _
    refine own_s_lor X219.here hx (hb hby at_172) ?_
    obtain ⟨T224, h224, X224, e224, W224, fa224, st224⟩ := own_stJ X219 hx hZ e219 f223 (k := (p_ / 64)) (own_ix (by omega)) (by omega) (g := (mkF m 173 #[.val (.int w0), .val (.int a0_), .val (.int b0), .val (.int c0), .val (.int fl), .val (.long s_), .second, .val (.int (Int32.ofNat n)), .val (.int (Int32.ofNat o)), .val (.ref b179), .val (.ref b181), .val (.ref b184), .val (.int (Int32.ofNat p_)), .val (.int (Int32.ofNat q_)), .val (.int (Int32.ofNat r_))] [(.long (((fun _ => (0 : Int64)) (p_ / 64)) ||| (own_tm (own_mv p_ q_ r_ ((fl &&& (1 : Int32)).toInt64) ((((fl.toUInt32 >>> ((1 : Int32) &&& 31).toUInt32).toInt32) &&& (1 : Int32)).toInt64) ((((fl.toUInt32 >>> ((2 : Int32) &&& 31).toUInt32).toInt32) &&& (1 : Int32)).toInt64)) p_))), (.int (Int32.ofNat (p_ / 64))), (.ref b184)])) rfl rfl (hb hby at_173)
    have f225 := f222.other W224 ne_b179_b184
    have f226 := f220.other W224 ne_b181_b184
    have N224 := Fr.snoc X224 N219 ge_b184
    have SZ224 : n0 ≤ h224.size := by rw [W224.size]; exact SZ219
    refine own_by st224 ?_
    show own_Go p e below T224 (mkF m 174 #[.val (.int w0), .val (.int a0_), .val (.int b0), .val (.int c0), .val (.int fl), .val (.long s_), .second, .val (.int (Int32.ofNat n)), .val (.int (Int32.ofNat o)), .val (.ref b179), .val (.ref b181), .val (.ref b184), .val (.int (Int32.ofNat p_)), .val (.int (Int32.ofNat q_)), .val (.int (Int32.ofNat r_))] []) _
    have f227 : own_Av Z h224 b184 .long 3 (fun k => .long ((own_e1 (fun _ => (0 : Int64)) (p_ / 64) (own_tm (own_mv p_ q_ r_ ((fl &&& (1 : Int32)).toInt64) ((((fl.toUInt32 >>> ((1 : Int32) &&& 31).toUInt32).toInt32) &&& (1 : Int32)).toInt64) ((((fl.toUInt32 >>> ((2 : Int32) &&& 31).toUInt32).toInt32) &&& (1 : Int32)).toInt64)) p_)) k)) := fa224.cong rfl (fun k _ => own_e1_eq (fun _ => (0 : Int64)) (p_ / 64) _ k)
    refine own_s_aload X224.here hx (hb hby at_174) rfl rfl ?_
    refine own_s_iload X224.here hx (hb hby at_176) rfl ?_
    refine own_s_bipush X224.here hx (6 : Int32) (hb hby at_178) rfl ?_
    refine own_s_iushr X224.here hx (hb hby at_180) ?_
    rw [own_sh6 q_ (by omega)]
    show own_Go p e below T224 (mkF m 181 #[.val (.int w0), .val (.int a0_), .val (.int b0), .val (.int c0), .val (.int fl), .val (.long s_), .second, .val (.int (Int32.ofNat n)), .val (.int (Int32.ofNat o)), .val (.ref b179), .val (.ref b181), .val (.ref b184), .val (.int (Int32.ofNat p_)), .val (.int (Int32.ofNat q_)), .val (.int (Int32.ofNat r_))] [(.int (Int32.ofNat (q_ / 64))), (.ref b184)]) _
    refine own_by (fun tq_ kq_ => Jvm.Free.XT.dup2 X224.here hx rfl (hb hby at_181) rfl rfl rfl kq_) ?_
    show own_Go p e below T224 (mkF m 182 #[.val (.int w0), .val (.int a0_), .val (.int b0), .val (.int c0), .val (.int fl), .val (.long s_), .second, .val (.int (Int32.ofNat n)), .val (.int (Int32.ofNat o)), .val (.ref b179), .val (.ref b181), .val (.ref b184), .val (.int (Int32.ofNat p_)), .val (.int (Int32.ofNat q_)), .val (.int (Int32.ofNat r_))] [(.int (Int32.ofNat (q_ / 64))), (.ref b184), (.int (Int32.ofNat (q_ / 64))), (.ref b184)]) _
    refine own_by (fun tq_ kq_ => own_ldJ X224 hx hZ e224 f227 (k := (q_ / 64)) (v := (.long ((own_e1 (fun _ => (0 : Int64)) (p_ / 64) (own_tm (own_mv p_ q_ r_ ((fl &&& (1 : Int32)).toInt64) ((((fl.toUInt32 >>> ((1 : Int32) &&& 31).toUInt32).toInt32) &&& (1 : Int32)).toInt64) ((((fl.toUInt32 >>> ((2 : Int32) &&& 31).toUInt32).toInt32) &&& (1 : Int32)).toInt64)) p_)) (q_ / 64)))) (own_ix (by omega)) (by omega) rfl (g := (mkF m 182 #[.val (.int w0), .val (.int a0_), .val (.int b0), .val (.int c0), .val (.int fl), .val (.long s_), .second, .val (.int (Int32.ofNat n)), .val (.int (Int32.ofNat o)), .val (.ref b179), .val (.ref b181), .val (.ref b184), .val (.int (Int32.ofNat p_)), .val (.int (Int32.ofNat q_)), .val (.int (Int32.ofNat r_))] [(.int (Int32.ofNat (q_ / 64))), (.ref b184), (.int (Int32.ofNat (q_ / 64))), (.ref b184)])) rfl rfl (hb hby at_182) tq_ kq_) ?_
    show own_Go p e below T224 (mkF m 183 #[.val (.int w0), .val (.int a0_), .val (.int b0), .val (.int c0), .val (.int fl), .val (.long s_), .second, .val (.int (Int32.ofNat n)), .val (.int (Int32.ofNat o)), .val (.ref b179), .val (.ref b181), .val (.ref b184), .val (.int (Int32.ofNat p_)), .val (.int (Int32.ofNat q_)), .val (.int (Int32.ofNat r_))] [(.long ((own_e1 (fun _ => (0 : Int64)) (p_ / 64) (own_tm (own_mv p_ q_ r_ ((fl &&& (1 : Int32)).toInt64) ((((fl.toUInt32 >>> ((1 : Int32) &&& 31).toUInt32).toInt32) &&& (1 : Int32)).toInt64) ((((fl.toUInt32 >>> ((2 : Int32) &&& 31).toUInt32).toInt32) &&& (1 : Int32)).toInt64)) p_)) (q_ / 64))), (.int (Int32.ofNat (q_ / 64))), (.ref b184)]) _
    refine own_s_aload X224.here hx (hb hby at_183) rfl rfl ?_
    refine own_s_iload X224.here hx (hb hby at_185) rfl ?_
    refine own_by (fun tq_ kq_ => own_ldJ X224 hx hZ e224 f225 (k := q_) (v := (.long ((own_mv p_ q_ r_ ((fl &&& (1 : Int32)).toInt64) ((((fl.toUInt32 >>> ((1 : Int32) &&& 31).toUInt32).toInt32) &&& (1 : Int32)).toInt64) ((((fl.toUInt32 >>> ((2 : Int32) &&& 31).toUInt32).toInt32) &&& (1 : Int32)).toInt64)) q_))) (own_ix (by omega)) (by omega) rfl (g := (mkF m 187 #[.val (.int w0), .val (.int a0_), .val (.int b0), .val (.int c0), .val (.int fl), .val (.long s_), .second, .val (.int (Int32.ofNat n)), .val (.int (Int32.ofNat o)), .val (.ref b179), .val (.ref b181), .val (.ref b184), .val (.int (Int32.ofNat p_)), .val (.int (Int32.ofNat q_)), .val (.int (Int32.ofNat r_))] [(.int (Int32.ofNat q_)), (.ref b179), (.long ((own_e1 (fun _ => (0 : Int64)) (p_ / 64) (own_tm (own_mv p_ q_ r_ ((fl &&& (1 : Int32)).toInt64) ((((fl.toUInt32 >>> ((1 : Int32) &&& 31).toUInt32).toInt32) &&& (1 : Int32)).toInt64) ((((fl.toUInt32 >>> ((2 : Int32) &&& 31).toUInt32).toInt32) &&& (1 : Int32)).toInt64)) p_)) (q_ / 64))), (.int (Int32.ofNat (q_ / 64))), (.ref b184)])) rfl rfl (hb hby at_187) tq_ kq_) ?_
    show own_Go p e below T224 (mkF m 188 #[.val (.int w0), .val (.int a0_), .val (.int b0), .val (.int c0), .val (.int fl), .val (.long s_), .second, .val (.int (Int32.ofNat n)), .val (.int (Int32.ofNat o)), .val (.ref b179), .val (.ref b181), .val (.ref b184), .val (.int (Int32.ofNat p_)), .val (.int (Int32.ofNat q_)), .val (.int (Int32.ofNat r_))] [(.long ((own_mv p_ q_ r_ ((fl &&& (1 : Int32)).toInt64) ((((fl.toUInt32 >>> ((1 : Int32) &&& 31).toUInt32).toInt32) &&& (1 : Int32)).toInt64) ((((fl.toUInt32 >>> ((2 : Int32) &&& 31).toUInt32).toInt32) &&& (1 : Int32)).toInt64)) q_)), (.long ((own_e1 (fun _ => (0 : Int64)) (p_ / 64) (own_tm (own_mv p_ q_ r_ ((fl &&& (1 : Int32)).toInt64) ((((fl.toUInt32 >>> ((1 : Int32) &&& 31).toUInt32).toInt32) &&& (1 : Int32)).toInt64) ((((fl.toUInt32 >>> ((2 : Int32) &&& 31).toUInt32).toInt32) &&& (1 : Int32)).toInt64)) p_)) (q_ / 64))), (.int (Int32.ofNat (q_ / 64))), (.ref b184)]) _
    refine own_s_iload X224.here hx (hb hby at_188) rfl ?_
    refine own_s_bipush X224.here hx (63 : Int32) (hb hby at_190) rfl ?_
    refine own_s_iand X224.here hx (hb hby at_192) ?_
    rw [own_an6 q_ (by omega)]
    show own_Go p e below T224 (mkF m 193 #[.val (.int w0), .val (.int a0_), .val (.int b0), .val (.int c0), .val (.int fl), .val (.long s_), .second, .val (.int (Int32.ofNat n)), .val (.int (Int32.ofNat o)), .val (.ref b179), .val (.ref b181), .val (.ref b184), .val (.int (Int32.ofNat p_)), .val (.int (Int32.ofNat q_)), .val (.int (Int32.ofNat r_))] [(.int (Int32.ofNat (q_ % 64))), (.long ((own_mv p_ q_ r_ ((fl &&& (1 : Int32)).toInt64) ((((fl.toUInt32 >>> ((1 : Int32) &&& 31).toUInt32).toInt32) &&& (1 : Int32)).toInt64) ((((fl.toUInt32 >>> ((2 : Int32) &&& 31).toUInt32).toInt32) &&& (1 : Int32)).toInt64)) q_)), (.long ((own_e1 (fun _ => (0 : Int64)) (p_ / 64) (own_tm (own_mv p_ q_ r_ ((fl &&& (1 : Int32)).toInt64) ((((fl.toUInt32 >>> ((1 : Int32) &&& 31).toUInt32).toInt32) &&& (1 : Int32)).toInt64) ((((fl.toUInt32 >>> ((2 : Int32) &&& 31).toUInt32).toInt32) &&& (1 : Int32)).toInt64)) p_)) (q_ / 64))), (.int (Int32.ofNat (q_ / 64))), (.ref b184)]) _
    refine own_s_lshl X224.here hx (hb hby at_193) ?_
    show own_Go p e below T224 (mkF m 194 #[.val (.int w0), .val (.int a0_), .val (.int b0), .val (.int c0), .val (.int fl), .val (.long s_), .second, .val (.int (Int32.ofNat n)), .val (.int (Int32.ofNat o)), .val (.ref b179), .val (.ref b181), .val (.ref b184), .val (.int (Int32.ofNat p_)), .val (.int (Int32.ofNat q_)), .val (.int (Int32.ofNat r_))] [(.long (own_tm (own_mv p_ q_ r_ ((fl &&& (1 : Int32)).toInt64) ((((fl.toUInt32 >>> ((1 : Int32) &&& 31).toUInt32).toInt32) &&& (1 : Int32)).toInt64) ((((fl.toUInt32 >>> ((2 : Int32) &&& 31).toUInt32).toInt32) &&& (1 : Int32)).toInt64)) q_)), (.long ((own_e1 (fun _ => (0 : Int64)) (p_ / 64) (own_tm (own_mv p_ q_ r_ ((fl &&& (1 : Int32)).toInt64) ((((fl.toUInt32 >>> ((1 : Int32) &&& 31).toUInt32).toInt32) &&& (1 : Int32)).toInt64) ((((fl.toUInt32 >>> ((2 : Int32) &&& 31).toUInt32).toInt32) &&& (1 : Int32)).toInt64)) p_)) (q_ / 64))), (.int (Int32.ofNat (q_ / 64))), (.ref b184)]) _
    refine own_s_lor X224.here hx (hb hby at_194) ?_
    obtain ⟨T228, h228, X228, e228, W228, fa228, st228⟩ := own_stJ X224 hx hZ e224 f227 (k := (q_ / 64)) (own_ix (by omega)) (by omega) (g := (mkF m 195 #[.val (.int w0), .val (.int a0_), .val (.int b0), .val (.int c0), .val (.int fl), .val (.long s_), .second, .val (.int (Int32.ofNat n)), .val (.int (Int32.ofNat o)), .val (.ref b179), .val (.ref b181), .val (.ref b184), .val (.int (Int32.ofNat p_)), .val (.int (Int32.ofNat q_)), .val (.int (Int32.ofNat r_))] [(.long (((own_e1 (fun _ => (0 : Int64)) (p_ / 64) (own_tm (own_mv p_ q_ r_ ((fl &&& (1 : Int32)).toInt64) ((((fl.toUInt32 >>> ((1 : Int32) &&& 31).toUInt32).toInt32) &&& (1 : Int32)).toInt64) ((((fl.toUInt32 >>> ((2 : Int32) &&& 31).toUInt32).toInt32) &&& (1 : Int32)).toInt64)) p_)) (q_ / 64)) ||| (own_tm (own_mv p_ q_ r_ ((fl &&& (1 : Int32)).toInt64) ((((fl.toUInt32 >>> ((1 : Int32) &&& 31).toUInt32).toInt32) &&& (1 : Int32)).toInt64) ((((fl.toUInt32 >>> ((2 : Int32) &&& 31).toUInt32).toInt32) &&& (1 : Int32)).toInt64)) q_))), (.int (Int32.ofNat (q_ / 64))), (.ref b184)])) rfl rfl (hb hby at_195)
    have f229 := f225.other W228 ne_b179_b184
    have f230 := f226.other W228 ne_b181_b184
    have N228 := Fr.snoc X228 N224 ge_b184
    have SZ228 : n0 ≤ h228.size := by rw [W228.size]; exact SZ224
    refine own_by st228 ?_
    show own_Go p e below T228 (mkF m 196 #[.val (.int w0), .val (.int a0_), .val (.int b0), .val (.int c0), .val (.int fl), .val (.long s_), .second, .val (.int (Int32.ofNat n)), .val (.int (Int32.ofNat o)), .val (.ref b179), .val (.ref b181), .val (.ref b184), .val (.int (Int32.ofNat p_)), .val (.int (Int32.ofNat q_)), .val (.int (Int32.ofNat r_))] []) _
    have f231 : own_Av Z h228 b184 .long 3 (fun k => .long ((own_e1 (own_e1 (fun _ => (0 : Int64)) (p_ / 64) (own_tm (own_mv p_ q_ r_ ((fl &&& (1 : Int32)).toInt64) ((((fl.toUInt32 >>> ((1 : Int32) &&& 31).toUInt32).toInt32) &&& (1 : Int32)).toInt64) ((((fl.toUInt32 >>> ((2 : Int32) &&& 31).toUInt32).toInt32) &&& (1 : Int32)).toInt64)) p_)) (q_ / 64) (own_tm (own_mv p_ q_ r_ ((fl &&& (1 : Int32)).toInt64) ((((fl.toUInt32 >>> ((1 : Int32) &&& 31).toUInt32).toInt32) &&& (1 : Int32)).toInt64) ((((fl.toUInt32 >>> ((2 : Int32) &&& 31).toUInt32).toInt32) &&& (1 : Int32)).toInt64)) q_)) k)) := fa228.cong rfl (fun k _ => own_e1_eq (own_e1 (fun _ => (0 : Int64)) (p_ / 64) (own_tm (own_mv p_ q_ r_ ((fl &&& (1 : Int32)).toInt64) ((((fl.toUInt32 >>> ((1 : Int32) &&& 31).toUInt32).toInt32) &&& (1 : Int32)).toInt64) ((((fl.toUInt32 >>> ((2 : Int32) &&& 31).toUInt32).toInt32) &&& (1 : Int32)).toInt64)) p_)) (q_ / 64) _ k)
    refine own_s_aload X228.here hx (hb hby at_196) rfl rfl ?_
    refine own_s_iload X228.here hx (hb hby at_198) rfl ?_
    refine own_s_bipush X228.here hx (6 : Int32) (hb hby at_200) rfl ?_
    refine own_s_iushr X228.here hx (hb hby at_202) ?_
    rw [own_sh6 r_ (by omega)]
    show own_Go p e below T228 (mkF m 203 #[.val (.int w0), .val (.int a0_), .val (.int b0), .val (.int c0), .val (.int fl), .val (.long s_), .second, .val (.int (Int32.ofNat n)), .val (.int (Int32.ofNat o)), .val (.ref b179), .val (.ref b181), .val (.ref b184), .val (.int (Int32.ofNat p_)), .val (.int (Int32.ofNat q_)), .val (.int (Int32.ofNat r_))] [(.int (Int32.ofNat (r_ / 64))), (.ref b184)]) _
    refine own_by (fun tq_ kq_ => Jvm.Free.XT.dup2 X228.here hx rfl (hb hby at_203) rfl rfl rfl kq_) ?_
    show own_Go p e below T228 (mkF m 204 #[.val (.int w0), .val (.int a0_), .val (.int b0), .val (.int c0), .val (.int fl), .val (.long s_), .second, .val (.int (Int32.ofNat n)), .val (.int (Int32.ofNat o)), .val (.ref b179), .val (.ref b181), .val (.ref b184), .val (.int (Int32.ofNat p_)), .val (.int (Int32.ofNat q_)), .val (.int (Int32.ofNat r_))] [(.int (Int32.ofNat (r_ / 64))), (.ref b184), (.int (Int32.ofNat (r_ / 64))), (.ref b184)]) _
    refine own_by (fun tq_ kq_ => own_ldJ X228 hx hZ e228 f231 (k := (r_ / 64)) (v := (.long ((own_e1 (own_e1 (fun _ => (0 : Int64)) (p_ / 64) (own_tm (own_mv p_ q_ r_ ((fl &&& (1 : Int32)).toInt64) ((((fl.toUInt32 >>> ((1 : Int32) &&& 31).toUInt32).toInt32) &&& (1 : Int32)).toInt64) ((((fl.toUInt32 >>> ((2 : Int32) &&& 31).toUInt32).toInt32) &&& (1 : Int32)).toInt64)) p_)) (q_ / 64) (own_tm (own_mv p_ q_ r_ ((fl &&& (1 : Int32)).toInt64) ((((fl.toUInt32 >>> ((1 : Int32) &&& 31).toUInt32).toInt32) &&& (1 : Int32)).toInt64) ((((fl.toUInt32 >>> ((2 : Int32) &&& 31).toUInt32).toInt32) &&& (1 : Int32)).toInt64)) q_)) (r_ / 64)))) (own_ix (by omega)) (by omega) rfl (g := (mkF m 204 #[.val (.int w0), .val (.int a0_), .val (.int b0), .val (.int c0), .val (.int fl), .val (.long s_), .second, .val (.int (Int32.ofNat n)), .val (.int (Int32.ofNat o)), .val (.ref b179), .val (.ref b181), .val (.ref b184), .val (.int (Int32.ofNat p_)), .val (.int (Int32.ofNat q_)), .val (.int (Int32.ofNat r_))] [(.int (Int32.ofNat (r_ / 64))), (.ref b184), (.int (Int32.ofNat (r_ / 64))), (.ref b184)])) rfl rfl (hb hby at_204) tq_ kq_) ?_
    show own_Go p e below T228 (mkF m 205 #[.val (.int w0), .val (.int a0_), .val (.int b0), .val (.int c0), .val (.int fl), .val (.long s_), .second, .val (.int (Int32.ofNat n)), .val (.int (Int32.ofNat o)), .val (.ref b179), .val (.ref b181), .val (.ref b184), .val (.int (Int32.ofNat p_)), .val (.int (Int32.ofNat q_)), .val (.int (Int32.ofNat r_))] [(.long ((own_e1 (own_e1 (fun _ => (0 : Int64)) (p_ / 64) (own_tm (own_mv p_ q_ r_ ((fl &&& (1 : Int32)).toInt64) ((((fl.toUInt32 >>> ((1 : Int32) &&& 31).toUInt32).toInt32) &&& (1 : Int32)).toInt64) ((((fl.toUInt32 >>> ((2 : Int32) &&& 31).toUInt32).toInt32) &&& (1 : Int32)).toInt64)) p_)) (q_ / 64) (own_tm (own_mv p_ q_ r_ ((fl &&& (1 : Int32)).toInt64) ((((fl.toUInt32 >>> ((1 : Int32) &&& 31).toUInt32).toInt32) &&& (1 : Int32)).toInt64) ((((fl.toUInt32 >>> ((2 : Int32) &&& 31).toUInt32).toInt32) &&& (1 : Int32)).toInt64)) q_)) (r_ / 64))), (.int (Int32.ofNat (r_ / 64))), (.ref b184)]) _
    refine own_s_aload X228.here hx (hb hby at_205) rfl rfl ?_
    refine own_s_iload X228.here hx (hb hby at_207) rfl ?_
    refine own_by (fun tq_ kq_ => own_ldJ X228 hx hZ e228 f229 (k := r_) (v := (.long ((own_mv p_ q_ r_ ((fl &&& (1 : Int32)).toInt64) ((((fl.toUInt32 >>> ((1 : Int32) &&& 31).toUInt32).toInt32) &&& (1 : Int32)).toInt64) ((((fl.toUInt32 >>> ((2 : Int32) &&& 31).toUInt32).toInt32) &&& (1 : Int32)).toInt64)) r_))) (own_ix (by omega)) (by omega) rfl (g := (mkF m 209 #[.val (.int w0), .val (.int a0_), .val (.int b0), .val (.int c0), .val (.int fl), .val (.long s_), .second, .val (.int (Int32.ofNat n)), .val (.int (Int32.ofNat o)), .val (.ref b179), .val (.ref b181), .val (.ref b184), .val (.int (Int32.ofNat p_)), .val (.int (Int32.ofNat q_)), .val (.int (Int32.ofNat r_))] [(.int (Int32.ofNat r_)), (.ref b179), (.long ((own_e1 (own_e1 (fun _ => (0 : Int64)) (p_ / 64) (own_tm (own_mv p_ q_ r_ ((fl &&& (1 : Int32)).toInt64) ((((fl.toUInt32 >>> ((1 : Int32) &&& 31).toUInt32).toInt32) &&& (1 : Int32)).toInt64) ((((fl.toUInt32 >>> ((2 : Int32) &&& 31).toUInt32).toInt32) &&& (1 : Int32)).toInt64)) p_)) (q_ / 64) (own_tm (own_mv p_ q_ r_ ((fl &&& (1 : Int32)).toInt64) ((((fl.toUInt32 >>> ((1 : Int32) &&& 31).toUInt32).toInt32) &&& (1 : Int32)).toInt64) ((((fl.toUInt32 >>> ((2 : Int32) &&& 31).toUInt32).toInt32) &&& (1 : Int32)).toInt64)) q_)) (r_ / 64))), (.int (Int32.ofNat (r_ / 64))), (.ref b184)])) rfl rfl (hb hby at_209) tq_ kq_) ?_
    show own_Go p e below T228 (mkF m 210 #[.val (.int w0), .val (.int a0_), .val (.int b0), .val (.int c0), .val (.int fl), .val (.long s_), .second, .val (.int (Int32.ofNat n)), .val (.int (Int32.ofNat o)), .val (.ref b179), .val (.ref b181), .val (.ref b184), .val (.int (Int32.ofNat p_)), .val (.int (Int32.ofNat q_)), .val (.int (Int32.ofNat r_))] [(.long ((own_mv p_ q_ r_ ((fl &&& (1 : Int32)).toInt64) ((((fl.toUInt32 >>> ((1 : Int32) &&& 31).toUInt32).toInt32) &&& (1 : Int32)).toInt64) ((((fl.toUInt32 >>> ((2 : Int32) &&& 31).toUInt32).toInt32) &&& (1 : Int32)).toInt64)) r_)), (.long ((own_e1 (own_e1 (fun _ => (0 : Int64)) (p_ / 64) (own_tm (own_mv p_ q_ r_ ((fl &&& (1 : Int32)).toInt64) ((((fl.toUInt32 >>> ((1 : Int32) &&& 31).toUInt32).toInt32) &&& (1 : Int32)).toInt64) ((((fl.toUInt32 >>> ((2 : Int32) &&& 31).toUInt32).toInt32) &&& (1 : Int32)).toInt64)) p_)) (q_ / 64) (own_tm (own_mv p_ q_ r_ ((fl &&& (1 : Int32)).toInt64) ((((fl.toUInt32 >>> ((1 : Int32) &&& 31).toUInt32).toInt32) &&& (1 : Int32)).toInt64) ((((fl.toUInt32 >>> ((2 : Int32) &&& 31).toUInt32).toInt32) &&& (1 : Int32)).toInt64)) q_)) (r_ / 64))), (.int (Int32.ofNat (r_ / 64))), (.ref b184)]) _
    refine own_s_iload X228.here hx (hb hby at_210) rfl ?_
    refine own_s_bipush X228.here hx (63 : Int32) (hb hby at_212) rfl ?_
    refine own_s_iand X228.here hx (hb hby at_214) ?_
    rw [own_an6 r_ (by omega)]
    show own_Go p e below T228 (mkF m 215 #[.val (.int w0), .val (.int a0_), .val (.int b0), .val (.int c0), .val (.int fl), .val (.long s_), .second, .val (.int (Int32.ofNat n)), .val (.int (Int32.ofNat o)), .val (.ref b179), .val (.ref b181), .val (.ref b184), .val (.int (Int32.ofNat p_)), .val (.int (Int32.ofNat q_)), .val (.int (Int32.ofNat r_))] [(.int (Int32.ofNat (r_ % 64))), (.long ((own_mv p_ q_ r_ ((fl &&& (1 : Int32)).toInt64) ((((fl.toUInt32 >>> ((1 : Int32) &&& 31).toUInt32).toInt32) &&& (1 : Int32)).toInt64) ((((fl.toUInt32 >>> ((2 : Int32) &&& 31).toUInt32).toInt32) &&& (1 : Int32)).toInt64)) r_)), (.long ((own_e1 (own_e1 (fun _ => (0 : Int64)) (p_ / 64) (own_tm (own_mv p_ q_ r_ ((fl &&& (1 : Int32)).toInt64) ((((fl.toUInt32 >>> ((1 : Int32) &&& 31).toUInt32).toInt32) &&& (1 : Int32)).toInt64) ((((fl.toUInt32 >>> ((2 : Int32) &&& 31).toUInt32).toInt32) &&& (1 : Int32)).toInt64)) p_)) (q_ / 64) (own_tm (own_mv p_ q_ r_ ((fl &&& (1 : Int32)).toInt64) ((((fl.toUInt32 >>> ((1 : Int32) &&& 31).toUInt32).toInt32) &&& (1 : Int32)).toInt64) ((((fl.toUInt32 >>> ((2 : Int32) &&& 31).toUInt32).toInt32) &&& (1 : Int32)).toInt64)) q_)) (r_ / 64))), (.int (Int32.ofNat (r_ / 64))), (.ref b184)]) _
    refine own_s_lshl X228.here hx (hb hby at_215) ?_
    show own_Go p e below T228 (mkF m 216 #[.val (.int w0), .val (.int a0_), .val (.int b0), .val (.int c0), .val (.int fl), .val (.long s_), .second, .val (.int (Int32.ofNat n)), .val (.int (Int32.ofNat o)), .val (.ref b179), .val (.ref b181), .val (.ref b184), .val (.int (Int32.ofNat p_)), .val (.int (Int32.ofNat q_)), .val (.int (Int32.ofNat r_))] [(.long (own_tm (own_mv p_ q_ r_ ((fl &&& (1 : Int32)).toInt64) ((((fl.toUInt32 >>> ((1 : Int32) &&& 31).toUInt32).toInt32) &&& (1 : Int32)).toInt64) ((((fl.toUInt32 >>> ((2 : Int32) &&& 31).toUInt32).toInt32) &&& (1 : Int32)).toInt64)) r_)), (.long ((own_e1 (own_e1 (fun _ => (0 : Int64)) (p_ / 64) (own_tm (own_mv p_ q_ r_ ((fl &&& (1 : Int32)).toInt64) ((((fl.toUInt32 >>> ((1 : Int32) &&& 31).toUInt32).toInt32) &&& (1 : Int32)).toInt64) ((((fl.toUInt32 >>> ((2 : Int32) &&& 31).toUInt32).toInt32) &&& (1 : Int32)).toInt64)) p_)) (q_ / 64) (own_tm (own_mv p_ q_ r_ ((fl &&& (1 : Int32)).toInt64) ((((fl.toUInt32 >>> ((1 : Int32) &&& 31).toUInt32).toInt32) &&& (1 : Int32)).toInt64) ((((fl.toUInt32 >>> ((2 : Int32) &&& 31).toUInt32).toInt32) &&& (1 : Int32)).toInt64)) q_)) (r_ / 64))), (.int (Int32.ofNat (r_ / 64))), (.ref b184)]) _
    refine own_s_lor X228.here hx (hb hby at_216) ?_
    obtain ⟨T232, h232, X232, e232, W232, fa232, st232⟩ := own_stJ X228 hx hZ e228 f231 (k := (r_ / 64)) (own_ix (by omega)) (by omega) (g := (mkF m 217 #[.val (.int w0), .val (.int a0_), .val (.int b0), .val (.int c0), .val (.int fl), .val (.long s_), .second, .val (.int (Int32.ofNat n)), .val (.int (Int32.ofNat o)), .val (.ref b179), .val (.ref b181), .val (.ref b184), .val (.int (Int32.ofNat p_)), .val (.int (Int32.ofNat q_)), .val (.int (Int32.ofNat r_))] [(.long (((own_e1 (own_e1 (fun _ => (0 : Int64)) (p_ / 64) (own_tm (own_mv p_ q_ r_ ((fl &&& (1 : Int32)).toInt64) ((((fl.toUInt32 >>> ((1 : Int32) &&& 31).toUInt32).toInt32) &&& (1 : Int32)).toInt64) ((((fl.toUInt32 >>> ((2 : Int32) &&& 31).toUInt32).toInt32) &&& (1 : Int32)).toInt64)) p_)) (q_ / 64) (own_tm (own_mv p_ q_ r_ ((fl &&& (1 : Int32)).toInt64) ((((fl.toUInt32 >>> ((1 : Int32) &&& 31).toUInt32).toInt32) &&& (1 : Int32)).toInt64) ((((fl.toUInt32 >>> ((2 : Int32) &&& 31).toUInt32).toInt32) &&& (1 : Int32)).toInt64)) q_)) (r_ / 64)) ||| (own_tm (own_mv p_ q_ r_ ((fl &&& (1 : Int32)).toInt64) ((((fl.toUInt32 >>> ((1 : Int32) &&& 31).toUInt32).toInt32) &&& (1 : Int32)).toInt64) ((((fl.toUInt32 >>> ((2 : Int32) &&& 31).toUInt32).toInt32) &&& (1 : Int32)).toInt64)) r_))), (.int (Int32.ofNat (r_ / 64))), (.ref b184)])) rfl rfl (hb hby at_217)
    have f233 := f229.other W232 ne_b179_b184
    have f234 := f230.other W232 ne_b181_b184
    have N232 := Fr.snoc X232 N228 ge_b184
    have SZ232 : n0 ≤ h232.size := by rw [W232.size]; exact SZ228
    refine own_by st232 ?_
    show own_Go p e below T232 (mkF m 218 #[.val (.int w0), .val (.int a0_), .val (.int b0), .val (.int c0), .val (.int fl), .val (.long s_), .second, .val (.int (Int32.ofNat n)), .val (.int (Int32.ofNat o)), .val (.ref b179), .val (.ref b181), .val (.ref b184), .val (.int (Int32.ofNat p_)), .val (.int (Int32.ofNat q_)), .val (.int (Int32.ofNat r_))] []) _
    have f235 : own_Av Z h232 b184 .long 3 (fun k => .long ((own_e1 (own_e1 (own_e1 (fun _ => (0 : Int64)) (p_ / 64) (own_tm (own_mv p_ q_ r_ ((fl &&& (1 : Int32)).toInt64) ((((fl.toUInt32 >>> ((1 : Int32) &&& 31).toUInt32).toInt32) &&& (1 : Int32)).toInt64) ((((fl.toUInt32 >>> ((2 : Int32) &&& 31).toUInt32).toInt32) &&& (1 : Int32)).toInt64)) p_)) (q_ / 64) (own_tm (own_mv p_ q_ r_ ((fl &&& (1 : Int32)).toInt64) ((((fl.toUInt32 >>> ((1 : Int32) &&& 31).toUInt32).toInt32) &&& (1 : Int32)).toInt64) ((((fl.toUInt32 >>> ((2 : Int32) &&& 31).toUInt32).toInt32) &&& (1 : Int32)).toInt64)) q_)) (r_ / 64) (own_tm (own_mv p_ q_ r_ ((fl &&& (1 : Int32)).toInt64) ((((fl.toUInt32 >>> ((1 : Int32) &&& 31).toUInt32).toInt32) &&& (1 : Int32)).toInt64) ((((fl.toUInt32 >>> ((2 : Int32) &&& 31).toUInt32).toInt32) &&& (1 : Int32)).toInt64)) r_)) k)) := fa232.cong rfl (fun k _ => own_e1_eq (own_e1 (own_e1 (fun _ => (0 : Int64)) (p_ / 64) (own_tm (own_mv p_ q_ r_ ((fl &&& (1 : Int32)).toInt64) ((((fl.toUInt32 >>> ((1 : Int32) &&& 31).toUInt32).toInt32) &&& (1 : Int32)).toInt64) ((((fl.toUInt32 >>> ((2 : Int32) &&& 31).toUInt32).toInt32) &&& (1 : Int32)).toInt64)) p_)) (q_ / 64) (own_tm (own_mv p_ q_ r_ ((fl &&& (1 : Int32)).toInt64) ((((fl.toUInt32 >>> ((1 : Int32) &&& 31).toUInt32).toInt32) &&& (1 : Int32)).toInt64) ((((fl.toUInt32 >>> ((2 : Int32) &&& 31).toUInt32).toInt32) &&& (1 : Int32)).toInt64)) q_)) (r_ / 64) _ k)
    obtain ⟨T236, h236, X236, e236, E236, A236, D236, -, st236⟩ := newO X232 hx hZ hown (hw _ (List.mem_of_getElem? (i := 2) rfl)) (hw _ (List.mem_of_getElem? (i := 3) rfl)) (hw _ (List.mem_of_getElem? (i := 4) rfl)) e232 (g := (mkF m 218 #[.val (.int w0), .val (.int a0_), .val (.int b0), .val (.int c0), .val (.int fl), .val (.long s_), .second, .val (.int (Int32.ofNat n)), .val (.int (Int32.ofNat o)), .val (.ref b179), .val (.ref b181), .val (.ref b184), .val (.int (Int32.ofNat p_)), .val (.int (Int32.ofNat q_)), .val (.int (Int32.ofNat r_))] [])) rfl (hb hby at_218) (by decide) (by decide)
    obtain ⟨b236, g236⟩ : ∃ z, z = h232.size := ⟨_, rfl⟩
    rw [← g236] at A236 D236 st236
    have ge_b236 : n0 ≤ b236 := Nat.le_trans SZ232 (Nat.le_of_eq g236.symm)
    have ne_b179_b236 : b179 ≠ b236 := Nat.ne_of_lt (Nat.lt_of_lt_of_le f233.lt (Nat.le_of_eq g236.symm))
    have ne_b181_b236 : b181 ≠ b236 := Nat.ne_of_lt (Nat.lt_of_lt_of_le f234.lt (Nat.le_of_eq g236.symm))
    have ne_b184_b236 : b184 ≠ b236 := Nat.ne_of_lt (Nat.lt_of_lt_of_le f235.lt (Nat.le_of_eq g236.symm))
    have f237 := f233.ext E236
    have f238 := f234.ext E236
    have f239 := f235.ext E236
    have SZ236 : n0 ≤ h236.size := Nat.le_trans SZ232 E236.1
    have f240 : Fld Z h236 b236 "com/example/lapse/lapse/MarkingCode" "most" "[I" .null := D236 (Or.inr (hw _ (List.mem_of_getElem? (i := 23) rfl))) (ty := (.array .int)) (by decide)
    have f241 : Fld Z h236 b236 "com/example/lapse/lapse/MarkingCode" "words" "[I" .null := D236 (Or.inr (hw _ (List.mem_of_getElem? (i := 25) rfl))) (ty := (.array .int)) (by decide)
    have f242 : Fld Z h236 b236 "com/example/lapse/lapse/MarkingCode" "shifts" "[I" .null := D236 (Or.inr (hw _ (List.mem_of_getElem? (i := 27) rfl))) (ty := (.array .int)) (by decide)
    have f243 : Fld Z h236 b236 "com/example/lapse/lapse/MarkingCode" "length" "I" (.int (0 : Int32)) := D236 (Or.inr (hw _ (List.mem_of_getElem? (i := 29) rfl))) (ty := .int) (by decide)
    refine own_by st236 ?_
    show own_Go p e below T236 (mkF m 221 #[.val (.int w0), .val (.int a0_), .val (.int b0), .val (.int c0), .val (.int fl), .val (.long s_), .second, .val (.int (Int32.ofNat n)), .val (.int (Int32.ofNat o)), .val (.ref b179), .val (.ref b181), .val (.ref b184), .val (.int (Int32.ofNat p_)), .val (.int (Int32.ofNat q_)), .val (.int (Int32.ofNat r_))] [(.ref b236)]) _
    refine own_s_dup X236.here hx (hb hby at_221) rfl ?_
    refine own_s_iload X236.here hx (hb hby at_222) rfl ?_
    obtain ⟨_, _, ⟨T244, L244, k244, n244⟩, -, X244, ⟨Lc244, hQ244, l244, y244, z244⟩, st244⟩ := X236.specialBack hx (y := (⟨"com/example/lapse/lapse/MarkingCode", "<init>", "(I)V"⟩ : MethodName)) rfl hown (mvT hZ (hw _ (List.mem_of_getElem? (i := 5) rfl))) (mvT hZ (hw _ (List.mem_of_getElem? (i := 6) rfl))) (mvT hZ (hw _ (List.mem_of_getElem? (i := 7) rfl))) (by decide) (backOf (W := 1) (own_r1 l Z a0 hw [] b236 (Int32.ofNat n) n h236 n0 SZ236 ((own_ix (by omega)).2) ((own_ix (by omega)).1) hn A236 f240 f241 f242 f243 ge_b236) hZ (hw _ (List.mem_of_getElem? (i := 7) rfl)) (hw _ (List.mem_of_getElem? (i := 4) rfl)) (by decide) (by decide)) (g := (mkF m 224 #[.val (.int w0), .val (.int a0_), .val (.int b0), .val (.int c0), .val (.int fl), .val (.long s_), .second, .val (.int (Int32.ofNat n)), .val (.int (Int32.ofNat o)), .val (.ref b179), .val (.ref b181), .val (.ref b184), .val (.int (Int32.ofNat p_)), .val (.int (Int32.ofNat q_)), .val (.int (Int32.ofNat r_))] [(.int (Int32.ofNat n)), (.ref b236), (.ref b236)])) rfl (by rw [hml]; rfl) (Steps.refl _) (a := b236) (argsL := [(.int (Int32.ofNat n))]) (rest := [(.ref b236)]) (lenOf own_pd_0 rfl) rfl (by show 2 * 0 + _ ≤ _; exact Nat.le_of_eq rfl) (hb hby at_224) (fun _ _ => ⟨rfl, e236, (by decide : 4 + 4 ≤ _), (by decide : 145 + 520 ≤ _)⟩)
    dsimp only [Pt.U, Pt.locs, Pt.cells, Pt.slots] at X244 l244 y244 z244 st244 hQ244
    subst l244 y244 z244
    obtain ⟨rfl, N244q, K244, am244, aw244, as244, gm244, gw244, gs244, zm244, zw244, zs244, nmw244, nms244, nws244, fm244, Am244, fw244, Aw244, fs244, As244, fl244⟩ := hQ244
    have N244 := Fr.app N232 N244q
    have f245 := f237.keep K244 (ninS ne_b179_b236 nin0)
    have f246 := f238.keep K244 (ninS ne_b181_b236 nin0)
    have f247 := f239.keep K244 (ninS ne_b184_b236 nin0)
    have f248 := A236.keep K244
    have SZ244 : n0 ≤ T244.heap.size := Nat.le_trans SZ236 K244.1
    refine own_by (fun t k => st244.trans k) ?_
    have ne_b179_am244 : b179 ≠ am244 := Nat.ne_of_lt (Nat.lt_of_lt_of_le f237.lt zm244)
    have ne_b181_am244 : b181 ≠ am244 := Nat.ne_of_lt (Nat.lt_of_lt_of_le f238.lt zm244)
    have ne_b184_am244 : b184 ≠ am244 := Nat.ne_of_lt (Nat.lt_of_lt_of_le f239.lt zm244)
    have ne_b236_am244 : b236 ≠ am244 := Nat.ne_of_lt (Nat.lt_of_lt_of_le A236.lt zm244)
    have ne_b179_aw244 : b179 ≠ aw244 := Nat.ne_of_lt (Nat.lt_of_lt_of_le f237.lt zw244)
    have ne_b181_aw244 : b181 ≠ aw244 := Nat.ne_of_lt (Nat.lt_of_lt_of_le f238.lt zw244)
    have ne_b184_aw244 : b184 ≠ aw244 := Nat.ne_of_lt (Nat.lt_of_lt_of_le f239.lt zw244)
    have ne_b236_aw244 : b236 ≠ aw244 := Nat.ne_of_lt (Nat.lt_of_lt_of_le A236.lt zw244)
    have ne_b179_as244 : b179 ≠ as244 := Nat.ne_of_lt (Nat.lt_of_lt_of_le f237.lt zs244)
    have ne_b181_as244 : b181 ≠ as244 := Nat.ne_of_lt (Nat.lt_of_lt_of_le f238.lt zs244)
    have ne_b184_as244 : b184 ≠ as244 := Nat.ne_of_lt (Nat.lt_of_lt_of_le f239.lt zs244)
    have ne_b236_as244 : b236 ≠ as244 := Nat.ne_of_lt (Nat.lt_of_lt_of_le A236.lt zs244)
    show own_Go p e below T244 (mkF m 227 #[.val (.int w0), .val (.int a0_), .val (.int b0), .val (.int c0), .val (.int fl), .val (.long s_), .second, .val (.int (Int32.ofNat n)), .val (.int (Int32.ofNat o)), .val (.ref b179), .val (.ref b181), .val (.ref b184), .val (.int (Int32.ofNat p_)), .val (.int (Int32.ofNat q_)), .val (.int (Int32.ofNat r_))] [(.ref b236)]) _
    refine own_s_astore X244.here hx #[.val (.int w0), .val (.int a0_), .val (.int b0), .val (.int c0), .val (.int fl), .val (.long s_), .second, .val (.int (Int32.ofNat n)), .val (.int (Int32.ofNat o)), .val (.ref b179), .val (.ref b181), .val (.ref b184), .val (.ref b236), .val (.int (Int32.ofNat q_)), .val (.int (Int32.ofNat r_))] (hb hby at_227) rfl rfl ?_
    have f249 : own_Av Z T244.heap am244 .int n (fun _ => .int (1 : Int32)) := Am244.cong rfl (fun j _ => congrArg Value.int own_mo1)
    have f250 : own_Av Z T244.heap aw244 .int n (fun j => .int (Int32.ofNat (j / 64))) := Aw244.cong rfl (fun j hj => congrArg Value.int (own_cfW j (by omega)))
    have f251 : own_Av Z T244.heap as244 .int n (fun j => .int (Int32.ofNat (j % 64))) := As244.cong rfl (fun j hj => congrArg Value.int (own_cfS j (by omega)))
    have f252 := fl244
    rw [own_cfL n (by omega)] at f252
    refine own_s_aload X244.here hx (hb hby at_229) rfl rfl ?_
    refine own_s_aload X244.here hx (hb hby at_231) rfl rfl ?_
    refine own_s_aload X244.here hx (hb hby at_233) rfl rfl ?_
    refine own_s_iload X244.here hx (hb hby at_235) rfl ?_
    obtain ⟨cq253, kq253, q253a, q253b, q253c⟩ := isOf hZ rfl f248
    obtain ⟨_, _, ⟨T253, L253, k253, n253⟩, -, X253, ⟨Lc253, hQ253, l253, y253, z253⟩, st253⟩ := X244.virtualBack hx (y := (⟨"com/example/lapse/lapse/MarkingCode", "pack", "([J[JI)V"⟩ : MethodName)) (z := (⟨"com/example/lapse/lapse/MarkingCode", "pack", "([J[JI)V"⟩ : MethodName)) hown (mvT hZ (hw _ (List.mem_of_getElem? (i := 30) rfl))) (mvT hZ (hw _ (List.mem_of_getElem? (i := 31) rfl))) (notFace_of_selects (args := #[]) (mvT hZ (hw _ (List.mem_of_getElem? (i := 33) rfl)))) (mvT hZ (hw _ (List.mem_of_getElem? (i := 33) rfl))) (mvT hZ (hw _ (List.mem_of_getElem? (i := 32) rfl))) (by decide) (backOf (W := 0) (own_r6 l Z a0 hw [] b236 b179 b181 (Int32.ofNat o) am244 aw244 as244 n o (fun _ => .long s_) (own_mv p_ q_ r_ ((fl &&& (1 : Int32)).toInt64) ((((fl.toUInt32 >>> ((1 : Int32) &&& 31).toUInt32).toInt32) &&& (1 : Int32)).toInt64) ((((fl.toUInt32 >>> ((2 : Int32) &&& 31).toUInt32).toInt32) &&& (1 : Int32)).toInt64)) T244.heap n0 SZ244 rfl hn ho fm244 fw244 fs244 f252 f249 f250 f251 f245 f246 ge_b181 (Ne.symm ne_b181_b236) (Ne.symm ne_b181_am244) (Ne.symm ne_b181_aw244) (Ne.symm ne_b181_as244) ne_b179_b181) hZ (hw _ (List.mem_of_getElem? (i := 34) rfl)) (hw _ (List.mem_of_getElem? (i := 4) rfl)) (by decide) (by decide)) q253a q253c (g := (mkF m 237 #[.val (.int w0), .val (.int a0_), .val (.int b0), .val (.int c0), .val (.int fl), .val (.long s_), .second, .val (.int (Int32.ofNat n)), .val (.int (Int32.ofNat o)), .val (.ref b179), .val (.ref b181), .val (.ref b184), .val (.ref b236), .val (.int (Int32.ofNat q_)), .val (.int (Int32.ofNat r_))] [(.int (Int32.ofNat o)), (.ref b181), (.ref b179), (.ref b236)])) rfl (by rw [hml]; rfl) (Steps.refl _) (argsL := [(.ref b179), (.ref b181), (.int (Int32.ofNat o))]) (rest := []) (lenOf own_pd_5 rfl) rfl (by show 2 * 0 + _ ≤ _; exact Nat.le_of_eq rfl) (hb hby at_237) (fun _ _ => ⟨rfl, rfl, (by decide : 8 + 0 ≤ _), (by decide : 665 + 0 ≤ _)⟩)
    dsimp only [Pt.U, Pt.locs, Pt.cells, Pt.slots] at X253 l253 y253 z253 st253 hQ253
    subst l253 y253 z253
    obtain ⟨rfl, N253q, K253, fa253⟩ := hQ253
    have N253 := Fr.app N244 N253q
    have f254 := f245.keep K253 (ninS ne_b179_b181 nin0)
    have f255 := f247.keep K253 (ninS (Ne.symm ne_b181_b184) nin0)
    have f256 := f248.keep K253
    have f257 := fm244.keep K253 (ninS (Ne.symm ne_b181_b236) nin0)
    have f258 := fw244.keep K253 (ninS (Ne.symm ne_b181_b236) nin0)
    have f259 := fs244.keep K253 (ninS (Ne.symm ne_b181_b236) nin0)
    have f260 := f252.keep K253 (ninS (Ne.symm ne_b181_b236) nin0)
    have f261 := f249.keep K253 (ninS (Ne.symm ne_b181_am244) nin0)
    have f262 := f250.keep K253 (ninS (Ne.symm ne_b181_aw244) nin0)
    have f263 := f251.keep K253 (ninS (Ne.symm ne_b181_as244) nin0)
    have SZ253 : n0 ≤ T253.heap.size := Nat.le_trans SZ244 K253.1
    refine own_by (fun t k => st253.trans k) ?_
    show own_Go p e below T253 (mkF m 240 #[.val (.int w0), .val (.int a0_), .val (.int b0), .val (.int c0), .val (.int fl), .val (.long s_), .second, .val (.int (Int32.ofNat n)), .val (.int (Int32.ofNat o)), .val (.ref b179), .val (.ref b181), .val (.ref b184), .val (.ref b236), .val (.int (Int32.ofNat q_)), .val (.int (Int32.ofNat r_))] []) _
    refine own_s_iload X253.here hx (hb hby at_240) rfl ?_
    show own_Go p e below T253 (mkF m 242 #[.val (.int w0), .val (.int a0_), .val (.int b0), .val (.int c0), .val (.int fl), .val (.long s_), .second, .val (.int (Int32.ofNat n)), .val (.int (Int32.ofNat o)), .val (.ref b179), .val (.ref b181), .val (.ref b184), .val (.ref b236), .val (.int (Int32.ofNat q_)), .val (.int (Int32.ofNat r_))] [(.int (Int32.ofNat n))]) _
    refine own_s_ifYes X253.here hx 249 (hb hby at_242) (Jvm.Free.XT.i0_ne_t ((own_nzn hn0 (by omega)))) (by decide) (by decide) ?_
    refine own_s_iload X253.here hx (hb hby at_249) rfl ?_
    refine own_s_bipush X253.here hx (63 : Int32) (hb hby at_251) rfl ?_
    refine own_s_iadd X253.here hx (hb hby at_253) ?_
    refine own_s_bipush X253.here hx (64 : Int32) (hb hby at_254) rfl ?_
    refine own_by (fun tq_ kq_ => XS.idiv X253.here hx rfl (hb hby at_256) rfl (by decide) kq_) ?_
    show own_Go p e below T253 (mkF m 257 #[.val (.int w0), .val (.int a0_), .val (.int b0), .val (.int c0), .val (.int fl), .val (.long s_), .second, .val (.int (Int32.ofNat n)), .val (.int (Int32.ofNat o)), .val (.ref b179), .val (.ref b181), .val (.ref b184), .val (.ref b236), .val (.int (Int32.ofNat q_)), .val (.int (Int32.ofNat r_))] [(.int (((Int32.ofNat n) + (63 : Int32)) / (64 : Int32)))]) _
    rw [own_lenw n hn0 hn]
    show own_Go p e below T253 (mkF m 257 #[.val (.int w0), .val (.int a0_), .val (.int b0), .val (.int c0), .val (.int fl), .val (.long s_), .second, .val (.int (Int32.ofNat n)), .val (.int (Int32.ofNat o)), .val (.ref b179), .val (.ref b181), .val (.ref b184), .val (.ref b236), .val (.int (Int32.ofNat q_)), .val (.int (Int32.ofNat r_))] [(.int (Int32.ofNat ((n - 1) / 64 + 1)))]) _
    refine own_s_istore X253.here hx #[.val (.int w0), .val (.int a0_), .val (.int b0), .val (.int c0), .val (.int fl), .val (.long s_), .second, .val (.int (Int32.ofNat n)), .val (.int (Int32.ofNat o)), .val (.ref b179), .val (.ref b181), .val (.ref b184), .val (.ref b236), .val (.int (Int32.ofNat ((n - 1) / 64 + 1))), .val (.int (Int32.ofNat r_))] (hb hby at_257) rfl ?_
    have f264 : own_Av Z T253.heap b181 .long 8 (fun i => .long (own_tv s_ o ((n - 1) / 64 + 1) (own_e1 (own_e1 (own_e1 (fun _ => (0 : Int64)) (p_ / 64) (own_tm (own_mv p_ q_ r_ ((fl &&& (1 : Int32)).toInt64) ((((fl.toUInt32 >>> ((1 : Int32) &&& 31).toUInt32).toInt32) &&& (1 : Int32)).toInt64) ((((fl.toUInt32 >>> ((2 : Int32) &&& 31).toUInt32).toInt32) &&& (1 : Int32)).toInt64)) p_)) (q_ / 64) (own_tm (own_mv p_ q_ r_ ((fl &&& (1 : Int32)).toInt64) ((((fl.toUInt32 >>> ((1 : Int32) &&& 31).toUInt32).toInt32) &&& (1 : Int32)).toInt64) ((((fl.toUInt32 >>> ((2 : Int32) &&& 31).toUInt32).toInt32) &&& (1 : Int32)).toInt64)) q_)) (r_ / 64) (own_tm (own_mv p_ q_ r_ ((fl &&& (1 : Int32)).toInt64) ((((fl.toUInt32 >>> ((1 : Int32) &&& 31).toUInt32).toInt32) &&& (1 : Int32)).toInt64) ((((fl.toUInt32 >>> ((2 : Int32) &&& 31).toUInt32).toInt32) &&& (1 : Int32)).toInt64)) r_)) i)) := fa253.cong rfl (fun i _ => (own_gw_eq s_ o _ _ i).trans (congrArg Value.long (own_tvc s_ o _ _ _ (fun k hk => own_same (own_mv p_ q_ r_ ((fl &&& (1 : Int32)).toInt64) ((((fl.toUInt32 >>> ((1 : Int32) &&& 31).toUInt32).toInt32) &&& (1 : Int32)).toInt64) ((((fl.toUInt32 >>> ((2 : Int32) &&& 31).toUInt32).toInt32) &&& (1 : Int32)).toInt64)) n p_ q_ r_ (own_mv01 (own_f01 _) (own_f01 _) (own_f01 _)) hp hq hr (fun j a b c => own_mv0 j a b c) k (by omega)) i)))
    exact own_p259 hx hZ hw hby hml hown hnm hret hlk  w0 a0_ b0 c0 fl (Int32.ofNat n) (Int32.ofNat ((n - 1) / 64 + 1)) s_ b179 b181 b184 b236 (.val (.int (Int32.ofNat r_))) o ((n - 1) / 64 + 1) (own_e1 (own_e1 (own_e1 (fun _ => (0 : Int64)) (p_ / 64) (own_tm (own_mv p_ q_ r_ ((fl &&& (1 : Int32)).toInt64) ((((fl.toUInt32 >>> ((1 : Int32) &&& 31).toUInt32).toInt32) &&& (1 : Int32)).toInt64) ((((fl.toUInt32 >>> ((2 : Int32) &&& 31).toUInt32).toInt32) &&& (1 : Int32)).toInt64)) p_)) (q_ / 64) (own_tm (own_mv p_ q_ r_ ((fl &&& (1 : Int32)).toInt64) ((((fl.toUInt32 >>> ((1 : Int32) &&& 31).toUInt32).toInt32) &&& (1 : Int32)).toInt64) ((((fl.toUInt32 >>> ((2 : Int32) &&& 31).toUInt32).toInt32) &&& (1 : Int32)).toInt64)) q_)) (r_ / 64) (own_tm (own_mv p_ q_ r_ ((fl &&& (1 : Int32)).toInt64) ((((fl.toUInt32 >>> ((1 : Int32) &&& 31).toUInt32).toInt32) &&& (1 : Int32)).toInt64) ((((fl.toUInt32 >>> ((2 : Int32) &&& 31).toUInt32).toInt32) &&& (1 : Int32)).toInt64)) r_)) X253 rfl N253 SZ253 ho (by omega) (own_ix (by omega)) (own_ix (by omega)) f264 f255
  ·
    show own_Go p e below T209 (mkF m 88 #[.val (.int w0), .val (.int a0_), .val (.int b0), .val (.int c0), .val (.int fl), .val (.long s_), .second, .val (.int (Int32.ofNat n)), .val (.int (Int32.ofNat o)), .val (.ref b179), .val (.ref b181), .val (.ref b184), .unset, .unset, .unset] [(.int (Int32.ofNat n))]) _
    refine own_s_ifYes X209.here hx 218 (hb hby at_88) (Jvm.Free.XT.i0_le_t hc88) (by decide) (by decide) ?_
    have hn0 : n = 0 := by
      have : ¬ 0 < n := fun q => hc88 ((own_oflt (i := 0) (by omega) (by omega)).mpr q)
      omega
    have f265 : own_Av Z h209 b179 .long 130 (fun j => .long ((fun _ => (0 : Int64)) j)) := f210
    have f266 : own_Av Z h209 b184 .long 3 (fun j => .long ((fun _ => (0 : Int64)) j)) := f211
    obtain ⟨T267, h267, X267, e267, E267, A267, D267, -, st267⟩ := newO X209 hx hZ hown (hw _ (List.mem_of_getElem? (i := 2) rfl)) (hw _ (List.mem_of_getElem? (i := 3) rfl)) (hw _ (List.mem_of_getElem? (i := 4) rfl)) e209 (g := (mkF m 218 #[.val (.int w0), .val (.int a0_), .val (.int b0), .val (.int c0), .val (.int fl), .val (.long s_), .second, .val (.int (Int32.ofNat n)), .val (.int (Int32.ofNat o)), .val (.ref b179), .val (.ref b181), .val (.ref b184), .unset, .unset, .unset] [])) rfl (hb hby at_218) (by decide) (by decide)
    obtain ⟨b267, g267⟩ : ∃ z, z = h209.size := ⟨_, rfl⟩
    rw [← g267] at A267 D267 st267
    have ge_b267 : n0 ≤ b267 := Nat.le_trans SZ209 (Nat.le_of_eq g267.symm)
    have ne_b179_b267 : b179 ≠ b267 := Nat.ne_of_lt (Nat.lt_of_lt_of_le f265.lt (Nat.le_of_eq g267.symm))
    have ne_b181_b267 : b181 ≠ b267 := Nat.ne_of_lt (Nat.lt_of_lt_of_le f212.lt (Nat.le_of_eq g267.symm))
    have ne_b184_b267 : b184 ≠ b267 := Nat.ne_of_lt (Nat.lt_of_lt_of_le f266.lt (Nat.le_of_eq g267.symm))
    have f268 := f265.ext E267
    have f269 := f212.ext E267
    have f270 := f266.ext E267
    have SZ267 : n0 ≤ h267.size := Nat.le_trans SZ209 E267.1
    have f271 : Fld Z h267 b267 "com/example/lapse/lapse/MarkingCode" "most" "[I" .null := D267 (Or.inr (hw _ (List.mem_of_getElem? (i := 23) rfl))) (ty := (.array .int)) (by decide)
    have f272 : Fld Z h267 b267 "com/example/lapse/lapse/MarkingCode" "words" "[I" .null := D267 (Or.inr (hw _ (List.mem_of_getElem? (i := 25) rfl))) (ty := (.array .int)) (by decide)
    have f273 : Fld Z h267 b267 "com/example/lapse/lapse/MarkingCode" "shifts" "[I" .null := D267 (Or.inr (hw _ (List.mem_of_getElem? (i := 27) rfl))) (ty := (.array .int)) (by decide)
    have f274 : Fld Z h267 b267 "com/example/lapse/lapse/MarkingCode" "length" "I" (.int (0 : Int32)) := D267 (Or.inr (hw _ (List.mem_of_getElem? (i := 29) rfl))) (ty := .int) (by decide)
    refine own_by st267 ?_
    show own_Go p e below T267 (mkF m 221 #[.val (.int w0), .val (.int a0_), .val (.int b0), .val (.int c0), .val (.int fl), .val (.long s_), .second, .val (.int (Int32.ofNat n)), .val (.int (Int32.ofNat o)), .val (.ref b179), .val (.ref b181), .val (.ref b184), .unset, .unset, .unset] [(.ref b267)]) _
    refine own_s_dup X267.here hx (hb hby at_221) rfl ?_
    refine own_s_iload X267.here hx (hb hby at_222) rfl ?_
    obtain ⟨_, _, ⟨T275, L275, k275, n275⟩, -, X275, ⟨Lc275, hQ275, l275, y275, z275⟩, st275⟩ := X267.specialBack hx (y := (⟨"com/example/lapse/lapse/MarkingCode", "<init>", "(I)V"⟩ : MethodName)) rfl hown (mvT hZ (hw _ (List.mem_of_getElem? (i := 5) rfl))) (mvT hZ (hw _ (List.mem_of_getElem? (i := 6) rfl))) (mvT hZ (hw _ (List.mem_of_getElem? (i := 7) rfl))) (by decide) (backOf (W := 1) (own_r1 l Z a0 hw [] b267 (Int32.ofNat n) n h267 n0 SZ267 ((own_ix (by omega)).2) ((own_ix (by omega)).1) hn A267 f271 f272 f273 f274 ge_b267) hZ (hw _ (List.mem_of_getElem? (i := 7) rfl)) (hw _ (List.mem_of_getElem? (i := 4) rfl)) (by decide) (by decide)) (g := (mkF m 224 #[.val (.int w0), .val (.int a0_), .val (.int b0), .val (.int c0), .val (.int fl), .val (.long s_), .second, .val (.int (Int32.ofNat n)), .val (.int (Int32.ofNat o)), .val (.ref b179), .val (.ref b181), .val (.ref b184), .unset, .unset, .unset] [(.int (Int32.ofNat n)), (.ref b267), (.ref b267)])) rfl (by rw [hml]; rfl) (Steps.refl _) (a := b267) (argsL := [(.int (Int32.ofNat n))]) (rest := [(.ref b267)]) (lenOf own_pd_0 rfl) rfl (by show 2 * 0 + _ ≤ _; exact Nat.le_of_eq rfl) (hb hby at_224) (fun _ _ => ⟨rfl, e267, (by decide : 4 + 4 ≤ _), (by decide : 145 + 520 ≤ _)⟩)
    dsimp only [Pt.U, Pt.locs, Pt.cells, Pt.slots] at X275 l275 y275 z275 st275 hQ275
    subst l275 y275 z275
    obtain ⟨rfl, N275q, K275, am275, aw275, as275, gm275, gw275, gs275, zm275, zw275, zs275, nmw275, nms275, nws275, fm275, Am275, fw275, Aw275, fs275, As275, fl275⟩ := hQ275
    have N275 := Fr.app N209 N275q
    have f276 := f268.keep K275 (ninS ne_b179_b267 nin0)
    have f277 := f269.keep K275 (ninS ne_b181_b267 nin0)
    have f278 := f270.keep K275 (ninS ne_b184_b267 nin0)
    have f279 := A267.keep K275
    have SZ275 : n0 ≤ T275.heap.size := Nat.le_trans SZ267 K275.1
    refine own_by (fun t k => st275.trans k) ?_
    have ne_b179_am275 : b179 ≠ am275 := Nat.ne_of_lt (Nat.lt_of_lt_of_le f268.lt zm275)
    have ne_b181_am275 : b181 ≠ am275 := Nat.ne_of_lt (Nat.lt_of_lt_of_le f269.lt zm275)
    have ne_b184_am275 : b184 ≠ am275 := Nat.ne_of_lt (Nat.lt_of_lt_of_le f270.lt zm275)
    have ne_b267_am275 : b267 ≠ am275 := Nat.ne_of_lt (Nat.lt_of_lt_of_le A267.lt zm275)
    have ne_b179_aw275 : b179 ≠ aw275 := Nat.ne_of_lt (Nat.lt_of_lt_of_le f268.lt zw275)
    have ne_b181_aw275 : b181 ≠ aw275 := Nat.ne_of_lt (Nat.lt_of_lt_of_le f269.lt zw275)
    have ne_b184_aw275 : b184 ≠ aw275 := Nat.ne_of_lt (Nat.lt_of_lt_of_le f270.lt zw275)
    have ne_b267_aw275 : b267 ≠ aw275 := Nat.ne_of_lt (Nat.lt_of_lt_of_le A267.lt zw275)
    have ne_b179_as275 : b179 ≠ as275 := Nat.ne_of_lt (Nat.lt_of_lt_of_le f268.lt zs275)
    have ne_b181_as275 : b181 ≠ as275 := Nat.ne_of_lt (Nat.lt_of_lt_of_le f269.lt zs275)
    have ne_b184_as275 : b184 ≠ as275 := Nat.ne_of_lt (Nat.lt_of_lt_of_le f270.lt zs275)
    have ne_b267_as275 : b267 ≠ as275 := Nat.ne_of_lt (Nat.lt_of_lt_of_le A267.lt zs275)
    show own_Go p e below T275 (mkF m 227 #[.val (.int w0), .val (.int a0_), .val (.int b0), .val (.int c0), .val (.int fl), .val (.long s_), .second, .val (.int (Int32.ofNat n)), .val (.int (Int32.ofNat o)), .val (.ref b179), .val (.ref b181), .val (.ref b184), .unset, .unset, .unset] [(.ref b267)]) _
    refine own_s_astore X275.here hx #[.val (.int w0), .val (.int a0_), .val (.int b0), .val (.int c0), .val (.int fl), .val (.long s_), .second, .val (.int (Int32.ofNat n)), .val (.int (Int32.ofNat o)), .val (.ref b179), .val (.ref b181), .val (.ref b184), .val (.ref b267), .unset, .unset] (hb hby at_227) rfl rfl ?_
    have f280 : own_Av Z T275.heap am275 .int n (fun _ => .int (1 : Int32)) := Am275.cong rfl (fun j _ => congrArg Value.int own_mo1)
    have f281 : own_Av Z T275.heap aw275 .int n (fun j => .int (Int32.ofNat (j / 64))) := Aw275.cong rfl (fun j hj => congrArg Value.int (own_cfW j (by omega)))
    have f282 : own_Av Z T275.heap as275 .int n (fun j => .int (Int32.ofNat (j % 64))) := As275.cong rfl (fun j hj => congrArg Value.int (own_cfS j (by omega)))
    have f283 := fl275
    rw [own_cfL n (by omega)] at f283
    refine own_s_aload X275.here hx (hb hby at_229) rfl rfl ?_
    refine own_s_aload X275.here hx (hb hby at_231) rfl rfl ?_
    refine own_s_aload X275.here hx (hb hby at_233) rfl rfl ?_
    refine own_s_iload X275.here hx (hb hby at_235) rfl ?_
    obtain ⟨cq284, kq284, q284a, q284b, q284c⟩ := isOf hZ rfl f279
    obtain ⟨_, _, ⟨T284, L284, k284, n284⟩, -, X284, ⟨Lc284, hQ284, l284, y284, z284⟩, st284⟩ := X275.virtualBack hx (y := (⟨"com/example/lapse/lapse/MarkingCode", "pack", "([J[JI)V"⟩ : MethodName)) (z := (⟨"com/example/lapse/lapse/MarkingCode", "pack", "([J[JI)V"⟩ : MethodName)) hown (mvT hZ (hw _ (List.mem_of_getElem? (i := 30) rfl))) (mvT hZ (hw _ (List.mem_of_getElem? (i := 31) rfl))) (notFace_of_selects (args := #[]) (mvT hZ (hw _ (List.mem_of_getElem? (i := 33) rfl)))) (mvT hZ (hw _ (List.mem_of_getElem? (i := 33) rfl))) (mvT hZ (hw _ (List.mem_of_getElem? (i := 32) rfl))) (by decide) (backOf (W := 0) (own_r6 l Z a0 hw [] b267 b179 b181 (Int32.ofNat o) am275 aw275 as275 n o (fun _ => .long s_) (fun _ => (0 : Int64)) T275.heap n0 SZ275 rfl hn ho fm275 fw275 fs275 f283 f280 f281 f282 f276 f277 ge_b181 (Ne.symm ne_b181_b267) (Ne.symm ne_b181_am275) (Ne.symm ne_b181_aw275) (Ne.symm ne_b181_as275) ne_b179_b181) hZ (hw _ (List.mem_of_getElem? (i := 34) rfl)) (hw _ (List.mem_of_getElem? (i := 4) rfl)) (by decide) (by decide)) q284a q284c (g := (mkF m 237 #[.val (.int w0), .val (.int a0_), .val (.int b0), .val (.int c0), .val (.int fl), .val (.long s_), .second, .val (.int (Int32.ofNat n)), .val (.int (Int32.ofNat o)), .val (.ref b179), .val (.ref b181), .val (.ref b184), .val (.ref b267), .unset, .unset] [(.int (Int32.ofNat o)), (.ref b181), (.ref b179), (.ref b267)])) rfl (by rw [hml]; rfl) (Steps.refl _) (argsL := [(.ref b179), (.ref b181), (.int (Int32.ofNat o))]) (rest := []) (lenOf own_pd_5 rfl) rfl (by show 2 * 0 + _ ≤ _; exact Nat.le_of_eq rfl) (hb hby at_237) (fun _ _ => ⟨rfl, rfl, (by decide : 8 + 0 ≤ _), (by decide : 665 + 0 ≤ _)⟩)
    dsimp only [Pt.U, Pt.locs, Pt.cells, Pt.slots] at X284 l284 y284 z284 st284 hQ284
    subst l284 y284 z284
    obtain ⟨rfl, N284q, K284, fa284⟩ := hQ284
    have N284 := Fr.app N275 N284q
    have f285 := f276.keep K284 (ninS ne_b179_b181 nin0)
    have f286 := f278.keep K284 (ninS (Ne.symm ne_b181_b184) nin0)
    have f287 := f279.keep K284
    have f288 := fm275.keep K284 (ninS (Ne.symm ne_b181_b267) nin0)
    have f289 := fw275.keep K284 (ninS (Ne.symm ne_b181_b267) nin0)
    have f290 := fs275.keep K284 (ninS (Ne.symm ne_b181_b267) nin0)
    have f291 := f283.keep K284 (ninS (Ne.symm ne_b181_b267) nin0)
    have f292 := f280.keep K284 (ninS (Ne.symm ne_b181_am275) nin0)
    have f293 := f281.keep K284 (ninS (Ne.symm ne_b181_aw275) nin0)
    have f294 := f282.keep K284 (ninS (Ne.symm ne_b181_as275) nin0)
    have SZ284 : n0 ≤ T284.heap.size := Nat.le_trans SZ275 K284.1
    refine own_by (fun t k => st284.trans k) ?_
    show own_Go p e below T284 (mkF m 240 #[.val (.int w0), .val (.int a0_), .val (.int b0), .val (.int c0), .val (.int fl), .val (.long s_), .second, .val (.int (Int32.ofNat n)), .val (.int (Int32.ofNat o)), .val (.ref b179), .val (.ref b181), .val (.ref b184), .val (.ref b267), .unset, .unset] []) _
    refine own_s_iload X284.here hx (hb hby at_240) rfl ?_
    refine own_s_ifNo X284.here hx (hb hby at_242) (Jvm.Free.XT.i0_ne_f ((by rw [hn0]; rfl))) ?_
    refine own_s_iconst X284.here hx (1 : Int32) (hb hby at_245) rfl ?_
    show own_Go p e below T284 (mkF m 246 #[.val (.int w0), .val (.int a0_), .val (.int b0), .val (.int c0), .val (.int fl), .val (.long s_), .second, .val (.int (Int32.ofNat n)), .val (.int (Int32.ofNat o)), .val (.ref b179), .val (.ref b181), .val (.ref b184), .val (.ref b267), .unset, .unset] [(.int (1 : Int32))]) _
    refine own_s_goto X284.here hx 257 (hb hby at_246) (by decide) (by decide) ?_
    refine own_s_istore X284.here hx #[.val (.int w0), .val (.int a0_), .val (.int b0), .val (.int c0), .val (.int fl), .val (.long s_), .second, .val (.int (Int32.ofNat n)), .val (.int (Int32.ofNat o)), .val (.ref b179), .val (.ref b181), .val (.ref b184), .val (.ref b267), .val (.int (1 : Int32)), .unset] (hb hby at_257) rfl ?_
    have f295 : own_Av Z T284.heap b181 .long 8 (fun i => .long (own_tv s_ o ((n - 1) / 64 + 1) (fun _ => (0 : Int64)) i)) := fa284.cong rfl (fun i _ => (own_gw_eq s_ o _ _ i).trans (congrArg Value.long (own_tvc s_ o _ _ _ (fun k hk => own_zero_ac _ _) i)))
    exact own_p259 hx hZ hw hby hml hown hnm hret hlk  w0 a0_ b0 c0 fl (Int32.ofNat n) (1 : Int32) s_ b179 b181 b184 b267 (.unset) o ((n - 1) / 64 + 1) (fun _ => (0 : Int64)) X284 rfl N284 SZ284 ho (by omega) (own_ix (by omega)) (by rw [hn0]; decide) f295 f286
set_option maxRecDepth 65536 in
set_option maxHeartbeats 40000000 in
theorem own_comes {Post : Tables → Env → Array Value → State → Outcome → State → Prop} (hpost : ∀ tb e args s v u, (limb_1_1.after args s (.returned v) u = true ∧ limb_1_2.after args s (.returned v) u = true ∧ True) → FrameEnd s (.returned v) u (Jvm.fieldLocs frame_1_writes args s ++ Jvm.arrayLocs frame_1_arrays args s ++ Jvm.staticLocs frame_1_statics s) 24 1408 → Post tb e args s (.returned v) u) :
    ArmFor flags0 classFile x code maxLocals ret World_1 tables_1 room_1 Calls_1 rest_1 Pre_1 Post := by
  intro l hfl _ _ p e ha hc hk s m args below hf hA hF happ hP
  obtain ⟨hcalls, hrest, hpre⟩ := hP
  obtain ⟨-, -, -, hnamed, -, -, -, hat⟩ := (Spec.applies_iff hf).mp happ
  obtain ⟨hg, hn⟩ := and_e (Cond.before_iff.mp (show (Jvm.Cond.and given_1 narrow_1).before args s = true from hpre))
  obtain ⟨g1, g2⟩ := and_e hg
  obtain ⟨g3, g4⟩ := and_e g2
  obtain ⟨g5, g6⟩ := and_e g4
  obtain ⟨g7, g8⟩ := and_e g6
  obtain ⟨g9, g10⟩ := and_e g8
  obtain ⟨g11, g12⟩ := and_e g10
  obtain ⟨w0, w1, w2, w3, w4, w5, rfl⟩ : ∃ w0 w1 w2 w3 w4 w5 : Value, args = #[w0, w1, w2, w3, w4, w5] := by
    have hs : args.size = 6 := by simpa [Cond.value, given_1] using g1
    obtain ⟨L⟩ := args
    match L, hs with
    | [w0, w1, w2, w3, w4, w5], _ => exact ⟨w0, w1, w2, w3, w4, w5, rfl⟩
  have hw := fun d (hd : d ∈ tables_1) => atoms_spec (ws := Jvm.Cond.code x code maxLocals ret :: tables_1) hat d (List.mem_cons_of_mem _ hd)
  obtain ⟨i0, ei0⟩ := is_v g3
  obtain rfl : w0 = (.int i0) := Option.some.inj ei0
  obtain ⟨i1, ei1⟩ := is_v g5
  obtain rfl : w1 = (.int i1) := Option.some.inj ei1
  obtain ⟨i2, ei2⟩ := is_v g7
  obtain rfl : w2 = (.int i2) := Option.some.inj ei2
  obtain ⟨i3, ei3⟩ := is_v g9
  obtain rfl : w3 = (.int i3) := Option.some.inj ei3
  obtain ⟨i4, ei4⟩ := is_v g11
  obtain rfl : w4 = (.int i4) := Option.some.inj ei4
  obtain ⟨i5, ei5⟩ := isL_v g12
  obtain rfl : w5 = (.long i5) := Option.some.inj ei5
  obtain ⟨n, o, h1, h2, h3, _, L, rfl, ⟨rfl, N⟩, hq⟩ := own_r0 l s _ hw tables_1 i0 i1 i2 i3 i4 i5 s.heap s.heap.size (Nat.le_refl _) p e ha hc hk s m _ below hf ((Spec.applies_iff_loose hf).mp happ).1 ⟨rfl, State.Warmed39.refl s, rfl⟩ trivial
  refine ⟨n, _, h1, h2, h3, hpost _ _ _ _ _ _ ⟨Cond.after_iff.mpr rfl, Cond.after_iff.mpr (eq_i res_at (Term.int_eval (1)) rfl), trivial⟩ ⟨hq.1, hq.2.1, (hq.2.2.sift fun y hy => Or.inr (N y hy)).mono (by decide) (by decide)⟩⟩
theorem main_1_1 : Claimed_1_1 := own_comes fun _ _ _ _ _ _ h hF => ⟨h.1, hF⟩
theorem main_1_2 : Claimed_1_2 := own_comes fun _ _ _ _ _ _ h hF => ⟨h.2.1, hF⟩
end Jvm.Pilot.@@N@@
namespace Jvm.Pilot.@@N@@
open Jvm Jvm.ClassFile Sem Op Lib Jvm.Free Jvm.Stand Jvm.Pilot.@@N@@.Jvm.D
/-! MADE BY PROGRAM (witnessworld.py) out of the Statement's table words and the real class files: 12 classes; the members and pool entries that the words name. The judged class is class 1, her method 1. -/
namespace start1
open Jvm.ClassFile
def u (s : String) : CpInfo := .utf8 (stringToUtf16 s)
/-- a pool by its gaps: so many unusable entries, then the entry; so many at the end -/
def gap : Nat → List CpInfo → List CpInfo
  | 0, r => r
  | n + 1, r => .unusable :: gap n r
def poolList (es : List (Nat × CpInfo)) (last : Nat) : List CpInfo := es.foldr (fun e r => gap e.1 (e.2 :: r)) (gap last [])
def pool (es : List (Nat × CpInfo)) (last : Nat) : Array CpInfo := ⟨poolList es last⟩
def fileOf (pool : Array CpInfo) (this : Nat) (attrs : Array Attribute := #[]) (ms : Array MethodInfo := #[]) (fl : Nat := 33) (sup : Nat := 0) (ifs : Array Nat := #[]) (fds : Array FieldInfo := #[]) : ClassFile where
  minorVersion := 0
  majorVersion := 65
  constantPool := pool
  accessFlags := fl
  thisClass := this
  superClass := sup
  interfaces := ifs
  fields := fds
  methods := ms
  attributes := attrs
def plain (name : String) (sup : Option ClassId) : Class where
  name := name
  kind := .ordinary
  loader := none
  accessFlags := 33
  super := sup
  interfaces := #[]
  cf := none
  fields := #[]
  methods := #[]
  instanceTypes := #[]
  staticTypes := #[]
  resolved := #[]
  callSites := []
  init := .initialized
  statics := none
  mirror := none

def pool0 : Array CpInfo := pool [(5, u "<init>"), (0, u "()V"), (1, .class_ 10), (1, u "java/lang/Object")] 113

def k0c0 : Code := { maxStack := 0, maxLocals := 1, code := object_method_1_code, exceptionTable := #[], attributes := #[] }
def k0m0 : Method := { name := "<init>", desc := "()V", sig := { parameters := [], returnType := none }, accessFlags := 1, code := some k0c0 }
/-- java/lang/Object -/
def k0 : Class := { plain "java/lang/Object" none with
  accessFlags := 33
  interfaces := #[]
  cf := some (fileOf pool0 8 #[] #[{ accessFlags := 1, nameIndex := 5, descriptorIndex := 6, attributes := #[] }] 33 0 #[] #[])
  fields := #[]
  methods := #[k0m0]
  instanceTypes := #[]
  staticTypes := #[]
  resolved := Array.replicate 124 none
  statics := none }

def pool1 : Array CpInfo := pool [(2, .class_ 4), (1, u "java/lang/Object"), (0, u "<init>"), (0, u "()V"), (0, .integer 2147483647), (0, .class_ 9), (0, u "com/example/lapse/lapse/MarkingCode"), (0, .methodref 8 11), (0, .nameAndType 5 12), (0, u "(I)V"), (0, .methodref 8 14), (0, .nameAndType 15 16), (0, u "pack"), (0, u "([J[JI)V"), (0, .methodref 18 19), (0, .class_ 20), (0, .nameAndType 21 22), (0, u "com/example/lapse/lapse/MarkingCodePackPinLaw"), (0, u "ok"), (0, u "([JIII[JJ)Z"), (2, u "law"), (0, u "(IIIIIJ)Z")] 5

def k1m0 : Method := { name := "<init>", desc := "()V", sig := { parameters := [], returnType := none }, accessFlags := 1, code := none }
def k1c1 : Code := { maxStack := 8, maxLocals := 15, code := code, exceptionTable := #[], attributes := #[] }
def k1m1 : Method := { name := "law", desc := "(IIIIIJ)Z", sig := { parameters := [.int, .int, .int, .int, .int, .long], returnType := some .boolean }, accessFlags := 9, code := some k1c1 }
def k1c2 : Code := { maxStack := 4, maxLocals := 8, code := method_3_code, exceptionTable := #[], attributes := #[] }
def k1m2 : Method := { name := "ok", desc := "([JIII[JJ)Z", sig := { parameters := [(.array .long), .int, .int, .int, (.array .long), .long], returnType := some .boolean }, accessFlags := 10, code := some k1c2 }
/-- com/example/lapse/lapse/MarkingCodePackPinLaw -/
def k1 : Class := { plain "com/example/lapse/lapse/MarkingCodePackPinLaw" (some 0) with
  accessFlags := 49
  interfaces := #[]
  cf := some (fileOf pool1 18 #[] #[{ accessFlags := 1, nameIndex := 5, descriptorIndex := 6, attributes := #[] }, { accessFlags := 9, nameIndex := 25, descriptorIndex := 26, attributes := #[] }, { accessFlags := 10, nameIndex := 21, descriptorIndex := 22, attributes := #[] }] 49 2 #[] #[])
  fields := #[]
  methods := #[k1m0, k1m1, k1m2]
  instanceTypes := #[]
  staticTypes := #[]
  resolved := Array.replicate 32 none
  statics := none }

def pool2 : Array CpInfo := pool [(1, .methodref 2 3), (0, .class_ 4), (0, .nameAndType 5 6), (0, u "com/example/lapse/lapse/MarkingCode"), (0, u "ones"), (0, u "(I)[I"), (0, .methodref 2 8), (0, .nameAndType 9 10), (0, u "<init>"), (0, u "([I)V"), (0, .methodref 12 13), (0, .class_ 14), (0, .nameAndType 9 15), (0, u "java/lang/Object"), (0, u "()V"), (0, .fieldref 2 17), (0, .nameAndType 18 19), (0, u "most"), (0, u "[I"), (0, .fieldref 2 21), (0, .nameAndType 22 19), (0, u "words"), (0, .fieldref 2 24), (0, .nameAndType 25 19), (0, u "shifts"), (2, .fieldref 2 29), (0, .nameAndType 30 31), (0, u "length"), (0, u "I"), (19, .methodref 52 53), (0, .class_ 54), (0, .nameAndType 55 56), (0, u "java/util/Arrays"), (0, u "fill"), (0, u "([II)V"), (0, u "MAX_BITS"), (2, u "(I)V"), (9, u "pack"), (0, u "([J[JI)V")] 6

def k2c0 : Code := { maxStack := 2, maxLocals := 2, code := prog_21_method_1_code, exceptionTable := #[], attributes := #[] }
def k2m0 : Method := { name := "<init>", desc := "(I)V", sig := { parameters := [.int], returnType := none }, accessFlags := 0, code := some k2c0 }
def k2c1 : Code := { maxStack := 6, maxLocals := 6, code := prog_21_method_2_code, exceptionTable := #[], attributes := #[] }
def k2m1 : Method := { name := "<init>", desc := "([I)V", sig := { parameters := [(.array .int)], returnType := none }, accessFlags := 2, code := some k2c1 }
def k2c2 : Code := { maxStack := 6, maxLocals := 8, code := prog_21_method_6_code, exceptionTable := #[], attributes := #[] }
def k2m2 : Method := { name := "pack", desc := "([J[JI)V", sig := { parameters := [(.array .long), (.array .long), .int], returnType := none }, accessFlags := 0, code := some k2c2 }
def k2c3 : Code := { maxStack := 2, maxLocals := 2, code := prog_21_method_10_code, exceptionTable := #[], attributes := #[] }
def k2m3 : Method := { name := "ones", desc := "(I)[I", sig := { parameters := [.int], returnType := some (.array .int) }, accessFlags := 10, code := some k2c3 }
/-- com/example/lapse/lapse/MarkingCode -/
def k2 : Class := { plain "com/example/lapse/lapse/MarkingCode" (some 0) with
  accessFlags := 48
  interfaces := #[]
  cf := some (fileOf pool2 2 #[] #[{ accessFlags := 0, nameIndex := 9, descriptorIndex := 60, attributes := #[] }, { accessFlags := 2, nameIndex := 9, descriptorIndex := 10, attributes := #[] }, { accessFlags := 0, nameIndex := 70, descriptorIndex := 71, attributes := #[] }, { accessFlags := 10, nameIndex := 5, descriptorIndex := 6, attributes := #[] }] 48 12 #[] #[{ accessFlags := 26, nameIndex := 57, descriptorIndex := 31, attributes := #[] }, { accessFlags := 18, nameIndex := 18, descriptorIndex := 19, attributes := #[] }, { accessFlags := 18, nameIndex := 22, descriptorIndex := 19, attributes := #[] }, { accessFlags := 18, nameIndex := 25, descriptorIndex := 19, attributes := #[] }, { accessFlags := 18, nameIndex := 30, descriptorIndex := 31, attributes := #[] }])
  fields := #[{ name := "MAX_BITS", type := .int, accessFlags := 26, slot := 0, constantValue := 0 }, { name := "most", type := (.array .int), accessFlags := 18, slot := 0, constantValue := 0 }, { name := "words", type := (.array .int), accessFlags := 18, slot := 1, constantValue := 0 }, { name := "shifts", type := (.array .int), accessFlags := 18, slot := 2, constantValue := 0 }, { name := "length", type := .int, accessFlags := 18, slot := 3, constantValue := 0 }]
  methods := #[k2m0, k2m1, k2m2, k2m3]
  instanceTypes := #[(.array .int), (.array .int), (.array .int), .int]
  staticTypes := #[.int]
  resolved := Array.replicate 78 none
  statics := none }

def pool3 : Array CpInfo := pool [(2, .class_ 4), (1, u "java/lang/Object"), (0, u "<init>"), (0, u "()V"), (7, .class_ 16), (1, u "java/util/Arrays"), (57, .class_ 76), (1, u "java/util/Arrays$NaturalOrder"), (36, .class_ 115), (1, u "java/util/Arrays$LegacyMergeSort"), (1, u "Z"), (257, .class_ 376), (0, u "java/util/Arrays$ArrayList"), (68, u "$assertionsDisabled"), (269, u "MIN_ARRAY_SORT_GRAN"), (0, u "I"), (2, u "INSERTIONSORT_THRESHOLD"), (120, u "fill"), (4, u "([II)V"), (129, .class_ 976), (0, u "java/util/Arrays$ArrayItr")] 52

def k3m0 : Method := { name := "<init>", desc := "()V", sig := { parameters := [], returnType := none }, accessFlags := 2, code := none }
def k3c1 : Code := { maxStack := 3, maxLocals := 4, code := jdk_65_method_103_code, exceptionTable := #[], attributes := #[] }
def k3m1 : Method := { name := "fill", desc := "([II)V", sig := { parameters := [(.array .int), .int], returnType := none }, accessFlags := 9, code := some k3c1 }
/-- java/util/Arrays -/
def k3 : Class := { plain "java/util/Arrays" (some 0) with
  accessFlags := 49
  interfaces := #[]
  cf := some (fileOf pool3 14 #[.nestMembers #[975, 375, 113, 74]] #[{ accessFlags := 2, nameIndex := 5, descriptorIndex := 6, attributes := #[] }, { accessFlags := 9, nameIndex := 840, descriptorIndex := 845, attributes := #[] }] 49 2 #[] #[{ accessFlags := 26, nameIndex := 715, descriptorIndex := 716, attributes := #[] }, { accessFlags := 26, nameIndex := 719, descriptorIndex := 716, attributes := #[] }, { accessFlags := 4120, nameIndex := 445, descriptorIndex := 117, attributes := #[] }])
  fields := #[{ name := "MIN_ARRAY_SORT_GRAN", type := .int, accessFlags := 26, slot := 0, constantValue := 0 }, { name := "INSERTIONSORT_THRESHOLD", type := .int, accessFlags := 26, slot := 1, constantValue := 0 }, { name := "$assertionsDisabled", type := .boolean, accessFlags := 4120, slot := 2, constantValue := 0 }]
  methods := #[k3m0, k3m1]
  instanceTypes := #[]
  staticTypes := #[.int, .int, .boolean]
  resolved := Array.replicate 1029 none
  statics := none }

def pool4 : Array CpInfo := pool [(1, u "java/lang/Cloneable"), (0, .class_ 1), (0, u "java/lang/Object"), (0, .class_ 3)] 3

/-- java/lang/Cloneable -/
def k4 : Class := { plain "java/lang/Cloneable" (some 0) with
  accessFlags := 1537
  interfaces := #[]
  cf := some (fileOf pool4 2 #[] #[] 1537 4 #[] #[])
  fields := #[]
  methods := #[]
  instanceTypes := #[]
  staticTypes := #[]
  resolved := Array.replicate 8 none
  statics := none }

def pool5 : Array CpInfo := pool [(1, u "java/io/Serializable"), (0, .class_ 1), (0, u "java/lang/Object"), (0, .class_ 3)] 3

/-- java/io/Serializable -/
def k5 : Class := { plain "java/io/Serializable" (some 0) with
  accessFlags := 1537
  interfaces := #[]
  cf := some (fileOf pool5 2 #[] #[] 1537 4 #[] #[])
  fields := #[]
  methods := #[]
  instanceTypes := #[]
  staticTypes := #[]
  resolved := Array.replicate 8 none
  statics := none }

/-- the primitive byte -/
def k6 : Class := { plain "byte" none with kind := .primitive 'B', accessFlags := 0x411 }
/-- [B -/
def k7 : Class := { plain "[B" (some 0) with kind := .array 6 .byte, interfaces := #[4, 5], accessFlags := 1041 }

/-- the primitive int -/
def k8 : Class := { plain "int" none with kind := .primitive 'I', accessFlags := 0x411 }
/-- [I -/
def k9 : Class := { plain "[I" (some 0) with kind := .array 8 .int, interfaces := #[4, 5], accessFlags := 1041 }

/-- the primitive long -/
def k10 : Class := { plain "long" none with kind := .primitive 'J', accessFlags := 0x411 }
/-- [J -/
def k11 : Class := { plain "[J" (some 0) with kind := .array 10 .long, interfaces := #[4, 5], accessFlags := 1041 }

def heap : Heap := #[]
def classes : Array Class := #[k0, k1, k2, k3, k4, k5, k6, k7, k8, k9, k10, k11]
def interned : List (Array UInt16 × Addr) := []
def slotsUsed : Nat := 0
def theMethod : MethodId := ⟨1, 1⟩
def args0 : Array Value := #[.int 5, .int 5, .int 5, .int 5, .int 5, .long 5]
def aboutOver (below : List Frame) : State where
  vm := { classes := classes, interned := interned.toArray }
  heap := heap
  slotsUsed := slotsUsed
  threads := #[{ frames := .invoking theMethod args0 :: below }]
def below0 : List Frame := [.native { method := ⟨0, 0⟩, args := #[] }]
def about1 : State := aboutOver below0
def p0 : Program := .bare "" "" ""
def e0 : Env := launch0.env 0 0 0
theorem w_frames : about1.frames = Frame.invoking theMethod args0 :: below0 := rfl
set_option maxRecDepth 65536 in
theorem w_args : argsFit about1.vm theMethod args0 = true := by decide +kernel
set_option maxRecDepth 65536 in
theorem w_heap : heapFits about1 = true := by decide +kernel
set_option maxRecDepth 65536 in
theorem w_runnable : about1.curStatus? = some .runnable := by decide +kernel
set_option maxRecDepth 65536 in
theorem w_alone : about1.alone = true := by decide +kernel
set_option maxRecDepth 65536 in
theorem w_named : about1.methodNamed? x = some theMethod := by decide +kernel
set_option maxRecDepth 65536 in
theorem w_hears : about1.hears theMethod below0 = true := by decide +kernel
set_option maxRecDepth 65536 in
theorem w_ripe : about1.ripe theMethod args0 below0 = true := by decide +kernel
theorem w_running : about1.status = .running := rfl
set_option maxRecDepth 65536 in
theorem w_room : about1.hasRoom e0.platform room_1 = true :=
  launch0.hasRoom_least _ room_1 (by decide +kernel) (by decide +kernel) (by decide +kernel) (by decide +kernel) (by decide +kernel) (by decide +kernel)
theorem allAtoms_all (ts : List Jvm.Cond) (a : Array Jvm.Value) (st : Jvm.State) : (allAtoms ts).before a st = ts.all (fun c => c.before a st) := by
  induction ts with
  | nil => rfl
  | cons c t ih =>
    show (Jvm.Cond.and c (allAtoms t)).before a st = _
    rw [Jvm.Cond.before_and, ih, List.all_cons]
def words1 : List Jvm.Cond := Jvm.Cond.code x code maxLocals ret :: tables_1
/-- a 'code' word, met by the world's own term for the bytes: nothing is compared byte by byte -/
theorem code_word {y : MethodName} {bytes : ByteArray} {mx : Nat} {rt : Option FieldType} {a : Array Value} {s : State} {m : MethodId} {meth : Method} {c : Code} (h1 : s.methodNamed? y = some m) (h2 : s.vm.method? m = some meth) (h3 : meth.code = some c) (h4 : c.code = bytes)
    (h5 : (c.maxLocals == mx && c.exceptionTable.isEmpty && decide (c.maxStack ≤ mostOperands) && decide (meth.sig.returnType = rt) && !meth.locks && decide (parseMethodDescriptor y.desc = some meth.sig)) = true) : (Jvm.Cond.code y bytes mx rt).before a s = true := by
  simp only [Bool.and_eq_true, beq_iff_eq, Bool.not_eq_true', decide_eq_true_eq] at h5
  obtain ⟨⟨⟨⟨⟨g1, g2⟩, g3⟩, g4⟩, g5⟩, g6⟩ := h5
  simp [Cond.before, Cond.holds, Cond.value, h1, h2, h3, h4, g1, g2, g3, g4, g5, g6]
def isCode : Jvm.Cond → Bool
  | .code _ _ _ _ => true
  | _ => false
theorem all_split {L : List Jvm.Cond} {P : Jvm.Cond → Bool} (h1 : L.all (fun c => isCode c || P c) = true) (h2 : ∀ c ∈ L.filter isCode, P c = true) : L.all P = true := by
  refine List.all_eq_true.mpr fun c hc => ?_
  have h := List.all_eq_true.mp h1 c hc
  rcases Bool.eq_false_or_eq_true (isCode c) with hi | hi
  · exact h2 c (List.mem_filter.mpr ⟨hc, hi⟩)
  · simpa [hi] using h
set_option maxRecDepth 65536 in
theorem w_c0 : (Jvm.Cond.code x code maxLocals ret).before args0 about1 = true := code_word (m := ⟨1, 1⟩) (meth := k1m1) (c := k1c1) (by decide +kernel) rfl rfl rfl (by decide +kernel)
set_option maxRecDepth 65536 in
theorem w_c1 : (Jvm.Cond.code ({ cls := "com/example/lapse/lapse/MarkingCode", name := "<init>", desc := "(I)V" } : Jvm.MethodName) prog_21_method_1_code (2 : Nat) (Option.none : Option Jvm.ClassFile.FieldType)).before args0 about1 = true := code_word (m := ⟨2, 0⟩) (meth := k2m0) (c := k2c0) (by decide +kernel) rfl rfl rfl (by decide +kernel)
set_option maxRecDepth 65536 in
theorem w_c2 : (Jvm.Cond.code ({ cls := "com/example/lapse/lapse/MarkingCode", name := "ones", desc := "(I)[I" } : Jvm.MethodName) prog_21_method_10_code (2 : Nat) (Option.some (Jvm.ClassFile.FieldType.array Jvm.ClassFile.FieldType.int))).before args0 about1 = true := code_word (m := ⟨2, 3⟩) (meth := k2m3) (c := k2c3) (by decide +kernel) rfl rfl rfl (by decide +kernel)
set_option maxRecDepth 65536 in
theorem w_c3 : (Jvm.Cond.code ({ cls := "java/util/Arrays", name := "fill", desc := "([II)V" } : Jvm.MethodName) jdk_65_method_103_code (4 : Nat) (Option.none : Option Jvm.ClassFile.FieldType)).before args0 about1 = true := code_word (m := ⟨3, 1⟩) (meth := k3m1) (c := k3c1) (by decide +kernel) rfl rfl rfl (by decide +kernel)
set_option maxRecDepth 65536 in
theorem w_c4 : (Jvm.Cond.code ({ cls := "com/example/lapse/lapse/MarkingCode", name := "<init>", desc := "([I)V" } : Jvm.MethodName) prog_21_method_2_code (6 : Nat) (Option.none : Option Jvm.ClassFile.FieldType)).before args0 about1 = true := code_word (m := ⟨2, 1⟩) (meth := k2m1) (c := k2c1) (by decide +kernel) rfl rfl rfl (by decide +kernel)
set_option maxRecDepth 65536 in
theorem w_c5 : (Jvm.Cond.code ({ cls := "java/lang/Object", name := "<init>", desc := "()V" } : Jvm.MethodName) object_method_1_code (1 : Nat) (Option.none : Option Jvm.ClassFile.FieldType)).before args0 about1 = true := code_word (m := ⟨0, 0⟩) (meth := k0m0) (c := k0c0) (by decide +kernel) rfl rfl rfl (by decide +kernel)
set_option maxRecDepth 65536 in
theorem w_c6 : (Jvm.Cond.code ({ cls := "com/example/lapse/lapse/MarkingCode", name := "pack", desc := "([J[JI)V" } : Jvm.MethodName) prog_21_method_6_code (8 : Nat) (Option.none : Option Jvm.ClassFile.FieldType)).before args0 about1 = true := code_word (m := ⟨2, 2⟩) (meth := k2m2) (c := k2c2) (by decide +kernel) rfl rfl rfl (by decide +kernel)
set_option maxRecDepth 65536 in
theorem w_c7 : (Jvm.Cond.code ({ cls := "com/example/lapse/lapse/MarkingCodePackPinLaw", name := "ok", desc := "([JIII[JJ)Z" } : Jvm.MethodName) method_3_code (8 : Nat) (Option.some Jvm.ClassFile.FieldType.boolean)).before args0 about1 = true := code_word (m := ⟨1, 2⟩) (meth := k1m2) (c := k1c2) (by decide +kernel) rfl rfl rfl (by decide +kernel)
def codes1 : List Jvm.Cond := [Jvm.Cond.code x code maxLocals ret, Jvm.Cond.code ({ cls := "com/example/lapse/lapse/MarkingCode", name := "<init>", desc := "(I)V" } : Jvm.MethodName) prog_21_method_1_code (2 : Nat) (Option.none : Option Jvm.ClassFile.FieldType), Jvm.Cond.code ({ cls := "com/example/lapse/lapse/MarkingCode", name := "ones", desc := "(I)[I" } : Jvm.MethodName) prog_21_method_10_code (2 : Nat) (Option.some (Jvm.ClassFile.FieldType.array Jvm.ClassFile.FieldType.int)), Jvm.Cond.code ({ cls := "java/util/Arrays", name := "fill", desc := "([II)V" } : Jvm.MethodName) jdk_65_method_103_code (4 : Nat) (Option.none : Option Jvm.ClassFile.FieldType), Jvm.Cond.code ({ cls := "com/example/lapse/lapse/MarkingCode", name := "<init>", desc := "([I)V" } : Jvm.MethodName) prog_21_method_2_code (6 : Nat) (Option.none : Option Jvm.ClassFile.FieldType), Jvm.Cond.code ({ cls := "java/lang/Object", name := "<init>", desc := "()V" } : Jvm.MethodName) object_method_1_code (1 : Nat) (Option.none : Option Jvm.ClassFile.FieldType), Jvm.Cond.code ({ cls := "com/example/lapse/lapse/MarkingCode", name := "pack", desc := "([J[JI)V" } : Jvm.MethodName) prog_21_method_6_code (8 : Nat) (Option.none : Option Jvm.ClassFile.FieldType), Jvm.Cond.code ({ cls := "com/example/lapse/lapse/MarkingCodePackPinLaw", name := "ok", desc := "([JIII[JJ)Z" } : Jvm.MethodName) method_3_code (8 : Nat) (Option.some Jvm.ClassFile.FieldType.boolean)]
set_option maxRecDepth 65536 in
theorem codes_eq : words1.filter isCode = codes1 := rfl
theorem w_codes : ∀ c ∈ words1.filter isCode, c.before args0 about1 = true := by
  rw [codes_eq]
  intro c hc
  simp only [codes1, List.mem_cons, List.not_mem_nil, or_false] at hc
  rcases hc with rfl | rfl | rfl | rfl | rfl | rfl | rfl | rfl
  · exact w_c0
  · exact w_c1
  · exact w_c2
  · exact w_c3
  · exact w_c4
  · exact w_c5
  · exact w_c6
  · exact w_c7
set_option maxRecDepth 65536 in
theorem w_t1 : (words1.take 24).all (fun c => isCode c || c.before args0 about1) = true := by decide +kernel
set_option maxRecDepth 65536 in
theorem w_t2 : (words1.drop 24).all (fun c => isCode c || c.before args0 about1) = true := by decide +kernel
theorem w_tables : (allAtoms (Jvm.Cond.code x code maxLocals ret :: tables_1)).before args0 about1 = true := by
  rw [allAtoms_all]
  show words1.all (fun c => c.before args0 about1) = true
  refine all_split ?_ w_codes
  rw [← List.take_append_drop 24 words1, List.all_append, w_t1, w_t2]
  rfl
set_option maxRecDepth 65536 in
theorem w_case : (Jvm.Cond.and given_1 narrow_1).before args0 about1 = true := by decide +kernel
theorem w_applies : (headSpec (Jvm.Cond.code x code maxLocals ret :: tables_1) room_1).applies x e0.platform about1 = true :=
  (Spec.applies_iff w_frames).mpr ⟨w_running, w_runnable, w_alone, w_named, w_hears, w_ripe, w_room, w_tables⟩
theorem atStart : AtStart classFile x code maxLocals ret World_1 tables_1 room_1 Calls_1 rest_1 Pre_1 launch0 p0 e0 about1 theMethod args0 below0 :=
  ⟨lists_1, trivial, launch0.admits_env _ _ _, launch0.least_env, fairChoices_fair.cas, fairChoices_fair.clock, w_frames, w_args, w_heap, w_applies, trivial, trivial, w_case⟩
end start1
theorem witness_1 : WitnessClaimed_1 := ⟨start1.p0, start1.e0, start1.about1, start1.theMethod, start1.args0, start1.below0, start1.atStart⟩
end Jvm.Pilot.@@N@@
