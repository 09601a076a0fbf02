import JvmDerived
import JvmDerived.Pilot.@@N@@Statement
import JvmDerived.Pilot.@@N@@Code
set_option linter.unusedVariables false
set_option linter.unusedSimpArgs false
@@BLOCK:NumsL.lean.txt@@
namespace Jvm.Pilot.@@N@@
open Jvm Jvm.ClassFile Sem Op Lib Jvm.Free Jvm.Stand Jvm.LawKit Jvm.RoadKit Bundle Jvm.Pilot.@@N@@.Jvm.D

/-! the walk's own small kit: from the frame g over the state T the body comes to its end, with Φ -/
def own_Go (p : Program) (e : Env) (below : List Frame) (T : State) (g : JFrame) (Φ : Outcome → State → Prop) : Prop :=
  ∃ s₂ o, Steps p.tables e below (T.setTop g) s₂ ∧ s₂.status = .running ∧ Ended s₂ below o ∧ Φ o s₂
def own_Fin (s : State) (Q : Option Value → Heap → List Loc → Prop) (k j : Nat) (o : Outcome) (U' : State) : Prop :=
  ∃ v L, o = .returned v ∧ Q v U'.heap L ∧ FrameEnd s o U' L k j
theorem own_by {p : Program} {e : Env} {below : List Frame} {T T' : State} {g g' : JFrame} {Φ : Outcome → State → Prop}
    (h : ∀ t, Steps p.tables e below (T'.setTop g') t → Steps p.tables e below (T.setTop g) t) (k : own_Go p e below T' g' Φ) : own_Go p e below T g Φ := by
  obtain ⟨s₂, o, h1, h2⟩ := k
  exact ⟨s₂, o, h _ h1, h2⟩
theorem own_start {p : Program} {e : Env} {below : List Frame} {s T : State} {g g' : JFrame} {Q : Option Value → Heap → List Loc → Prop} {k j : Nat} (hg : g = g')
    (h : own_Go p e below T g' (own_Fin s Q k j)) : ∃ s₂ o, Steps p.tables e below (T.setTop g) s₂ ∧ s₂.status = .running ∧ Ended s₂ below o ∧ ∃ v L, o = .returned v ∧ Q v s₂.heap L ∧ FrameEnd s o s₂ L k j := by
  subst hg
  exact h
section OwnRet
variable {p : Program} {l : Launch} {e : Env} {R : Room} {s : State} {m : MethodId} {args : Array Value} {below : List Frame} {meth : Method} {c : Code} {T : State} {locs : List Loc} {cells slots : Nat} {Q : Option Value → Heap → List Loc → Prop} {k j pc : Nat} {Ls : Array Slot} {rest : List Value}
theorem own_retN {t : FieldType} (ht : t = .boolean ∨ t = .byte ∨ t = .char ∨ t = .short) (X : Stand p l e R s m args below meth c T locs cells slots) (hx : p.tables.exec = Jvm.exec) (hret : meth.sig.returnType = some t) (hlk : meth.locks = false) {z : Int32} (hd : decode c.code pc = .ok (.ireturn, 1))
    (hz : nar t z = z) (hk : cells ≤ k) (hj : slots ≤ j) (q : Q (some (.int z)) T.heap locs) : own_Go p e below T (mkF m pc Ls (.int z :: rest)) (own_Fin s Q k j) := by
  obtain ⟨fs, hr, hrun, hended, hW, hsame⟩ := X.leave (v := some (.int z)) (fun h => by rw [hret] at h; cases h)
  exact ⟨_, _, retN X hx hret ht hd (by rw [hz]; exact hr), hrun, hended, _, _, rfl, q, ⟨_, rfl⟩, hW, hsame.mono hk hj⟩
theorem own_retZ (X : Stand p l e R s m args below meth c T locs cells slots) (hx : p.tables.exec = Jvm.exec) (hret : meth.sig.returnType = some .boolean) (hlk : meth.locks = false) {z : Int32} (hd : decode c.code pc = .ok (.ireturn, 1))
    (hz : nar .boolean z = z) (hk : cells ≤ k) (hj : slots ≤ j) (q : Q (some (.int z)) T.heap locs) : own_Go p e below T (mkF m pc Ls (.int z :: rest)) (own_Fin s Q k j) := own_retN (Or.inl rfl) X hx hret hlk hd hz hk hj q
theorem own_retI (X : Stand p l e R s m args below meth c T locs cells slots) (hx : p.tables.exec = Jvm.exec) (hret : meth.sig.returnType = some .int) (hlk : meth.locks = false) {z : Int32} (hd : decode c.code pc = .ok (.ireturn, 1))
    (hk : cells ≤ k) (hj : slots ≤ j) (q : Q (some (.int z)) T.heap locs) : own_Go p e below T (mkF m pc Ls (.int z :: rest)) (own_Fin s Q k j) := by
  obtain ⟨fs, hr, hrun, hended, hW, hsame⟩ := X.leave (v := some (.int z)) (fun h => by rw [hret] at h; cases h)
  exact ⟨_, _, retOut X hx hret rfl (Or.inl ⟨rfl, Or.inl rfl, z, rfl⟩) hd hr, hrun, hended, _, _, rfl, q, ⟨_, rfl⟩, hW, hsame.mono hk hj⟩
theorem own_retJ (X : Stand p l e R s m args below meth c T locs cells slots) (hx : p.tables.exec = Jvm.exec) (hret : meth.sig.returnType = some .long) (hlk : meth.locks = false) {z : Int64} (hd : decode c.code pc = .ok (.lreturn, 1))
    (hk : cells ≤ k) (hj : slots ≤ j) (q : Q (some (.long z)) T.heap locs) : own_Go p e below T (mkF m pc Ls (.long z :: rest)) (own_Fin s Q k j) := by
  obtain ⟨fs, hr, hrun, hended, hW, hsame⟩ := X.leave (v := some (.long z)) (fun h => by rw [hret] at h; cases h)
  exact ⟨_, _, retOut X hx hret rfl (Or.inr (Or.inl ⟨rfl, rfl, z, rfl⟩)) hd hr, hrun, hended, _, _, rfl, q, ⟨_, rfl⟩, hW, hsame.mono hk hj⟩
theorem own_retA {t : FieldType} (X : Stand p l e R s m args below meth c T locs cells slots) (hx : p.tables.exec = Jvm.exec) (hret : meth.sig.returnType = some t) (hlk : meth.locks = false) {z : Value} (hd : decode c.code pc = .ok (.areturn, 1))
    (ht : t.isReference = true) (hz : z.isRef = true) (hn : narrow t z = z) (hk : cells ≤ k) (hj : slots ≤ j) (q : Q (some z) T.heap locs) : own_Go p e below T (mkF m pc Ls (z :: rest)) (own_Fin s Q k j) := by
  obtain ⟨fs, hr, hrun, hended, hW, hsame⟩ := X.leave (v := some z) (fun h => by rw [hret] at h; cases h)
  exact ⟨_, _, retOut X hx hret hn (Or.inr (Or.inr (Or.inr (Or.inr ⟨rfl, ht, hz⟩)))) hd hr, hrun, hended, _, _, rfl, q, ⟨_, rfl⟩, hW, hsame.mono hk hj⟩
theorem own_retV (X : Stand p l e R s m args below meth c T locs cells slots) (hx : p.tables.exec = Jvm.exec) (hret : meth.sig.returnType = none) (hlk : meth.locks = false) (hd : decode c.code pc = .ok (.return_, 1))
    (hk : cells ≤ k) (hj : slots ≤ j) (q : Q none T.heap locs) : own_Go p e below T (mkF m pc Ls []) (own_Fin s Q k j) := by
  obtain ⟨fs, hr, hrun, hended, hW, hsame⟩ := X.leave (v := none) (fun _ => rfl)
  exact ⟨_, _, X.returnOut hx hret hd hr, hrun, hended, _, _, rfl, q, ⟨_, rfl⟩, hW, hsame.mono hk hj⟩
theorem own_lrem_eq (x y : Int64) : x - x / y * y = x % y := Int64.toInt_inj.mp (by rw [Jvm.Kit.i64_rem, Int64.toInt_mod])
theorem own_lrem {g : JFrame} {target : State} (X : Stand p l e R s m args below meth c T locs cells slots) (hx : p.tables.exec = Jvm.exec) (hg : g.method = m) {x y : Int64} {rest : List Value} (hd : decode c.code g.pc = .ok (.lrem, 1)) (hs : g.stack = .long y :: .long x :: rest) (hy : y ≠ 0)
    (hr : Steps p.tables e below (T.setTop { g with pc := g.pc + 1, stack := .long (x % y) :: rest }) target) : Steps p.tables e below (T.setTop g) target :=
  XS.lrem X.here hx hg hd hs hy (by rw [own_lrem_eq x y]; exact hr)
end OwnRet
/-! an array: its length, and what each place holds -/
abbrev own_At (j : Int32) (k : Nat) : Prop := ¬ j < 0 ∧ j.toNatClampNeg = k
def own_upd (f : Nat → Value) (k : Nat) (v : Value) : Nat → Value := fun i => if i = k then v else f i
theorem own_upd_hit {f : Nat → Value} {k i : Nat} {v : Value} (h : i = k) : own_upd f k v i = v := if_pos h
theorem own_upd_miss {f : Nat → Value} {k i : Nat} {v : Value} (h : ¬ i = k) : own_upd f k v i = f i := if_neg h
def own_Av (Z : State) (h : Heap) (a : Addr) (ty : FieldType) (n : Nat) (f : Nat → Value) : Prop := ∃ c : Cell, Arr Z h a c ty ∧ c.slots.size = n ∧ ∀ i, i < n → c.slots[i]? = some (f i)
section OwnArr
variable {Z : State} {h h' : Heap} {a b : Addr} {ty : FieldType} {n k sl : Nat} {f : Nat → Value} {v : Value} {ws : List Addr}
theorem own_Av.ext (F : own_Av Z h a ty n f) (E : Ext h h') : own_Av Z h' a ty n f := by obtain ⟨c, A, r⟩ := F; exact ⟨c, A.ext E, r⟩
theorem own_Av.other (F : own_Av Z h b ty n f) (W : Wr h h' a sl v) (q : b ≠ a) : own_Av Z h' b ty n f := by obtain ⟨c, A, r⟩ := F; exact ⟨c, A.other W q, r⟩
theorem own_Av.keep (F : own_Av Z h a ty n f) (K : Keep h h' ws) (q : a ∉ ws) : own_Av Z h' a ty n f := by obtain ⟨c, A, r⟩ := F; exact ⟨c, ⟨K.2.1 a c A.1 q, A.2⟩, r⟩
theorem own_Av.lt (F : own_Av Z h a ty n f) : a < h.size := by obtain ⟨c, A, -⟩ := F; exact A.lt
theorem own_Av.ofnew {z : Int32} {kc : ClassId} {d : Value} (A : Arr Z h a (newA kc ty z) ty) (hn : z.toNatClampNeg = n) (hd : defaultValue ty = d) : own_Av Z h a ty n (fun _ => d) := by
  subst hn hd
  exact ⟨_, A, sz_new _ _ _, fun i hi => by simp [newA, hi]⟩
theorem own_Av.set (F : own_Av Z h a ty n f) (W : Wr h h' a k v) : own_Av Z h' a ty n (own_upd f k v) := by
  obtain ⟨c, A, S, H⟩ := F
  refine ⟨_, A.same W, by rw [sz_set]; exact S, fun i hi => ?_⟩
  by_cases q : i = k
  · subst q
    rw [own_upd_hit rfl]
    simp [Cell.setSlot, S, hi]
  · rw [own_upd_miss q, ← H i hi]
    exact Array.getElem?_setIfInBounds_ne fun u => q u.symm
theorem own_Av.cong {g : Nat → Value} {n' : Nat} (F : own_Av Z h a ty n f) (hn : n = n') (q : ∀ i, i < n → f i = g i) : own_Av Z h a ty n' g := by
  subst hn
  obtain ⟨c, A, S, H⟩ := F
  exact ⟨c, A, S, fun i hi => by rw [← q i hi]; exact H i hi⟩
theorem own_in {j : Int32} (hj : own_At j k) (hk : k < n) {c : Cell} (S : c.slots.size = n) : ¬ (j < 0 ∨ c.slots.size ≤ j.toNatClampNeg) := by
  intro q
  rcases q with q | q
  · exact hj.1 q
  · rw [hj.2, S] at q; omega
variable {p : Program} {l : Launch} {e : Env} {R : Room} {s : State} {m : MethodId} {args : Array Value} {below : List Frame} {meth : Method} {c : Code} {T : State} {locs : List Loc} {cells slots : Nat}
theorem own_ldI (X : Stand p l e R s m args below meth c T locs cells slots) (hx : p.tables.exec = Jvm.exec) (hZ : Z.Warmed39 s.vm) (eT : T.heap = h) (F : own_Av Z h a .int n f) {j : Int32} (hj : own_At j k) (hk : k < n) (hv : f k = v)
    {g : JFrame} (hg : g.method = m) {rest : List Value} (hs : g.stack = .int j :: .ref a :: rest) (hd : decode c.code g.pc = .ok (.iaload, 1)) (t : State)
    (hr : Steps p.tables e below (T.setTop { g with pc := g.pc + 1, stack := v :: rest }) t) : Steps p.tables e below (T.setTop g) t := by
  obtain ⟨cl, A, S, H⟩ := F
  exact X.iaload hx (by rw [eT]; exact A.1) (State.isArrayOf_alike hZ.alike A.2.1) A.2.2 (own_in hj hk S) (by rw [hj.2, H k hk, hv]) hg hs hd t hr
theorem own_ldJ (X : Stand p l e R s m args below meth c T locs cells slots) (hx : p.tables.exec = Jvm.exec) (hZ : Z.Warmed39 s.vm) (eT : T.heap = h) (F : own_Av Z h a .long n f) {j : Int32} (hj : own_At j k) (hk : k < n) (hv : f k = v)
    {g : JFrame} (hg : g.method = m) {rest : List Value} (hs : g.stack = .int j :: .ref a :: rest) (hd : decode c.code g.pc = .ok (.laload, 1)) (t : State)
    (hr : Steps p.tables e below (T.setTop { g with pc := g.pc + 1, stack := v :: rest }) t) : Steps p.tables e below (T.setTop g) t := by
  obtain ⟨cl, A, S, H⟩ := F
  exact X.laload hx (by rw [eT]; exact A.1) (State.isArrayOf_alike hZ.alike A.2.1) A.2.2 (own_in hj hk S) (by rw [hj.2, H k hk, hv]) hg hs hd t hr
theorem own_ldS (X : Stand p l e R s m args below meth c T locs cells slots) (hx : p.tables.exec = Jvm.exec) (hZ : Z.Warmed39 s.vm) (eT : T.heap = h) (F : own_Av Z h a .short n f) {j : Int32} (hj : own_At j k) (hk : k < n) (hv : f k = v)
    {g : JFrame} (hg : g.method = m) {rest : List Value} (hs : g.stack = .int j :: .ref a :: rest) (hd : decode c.code g.pc = .ok (.saload, 1)) (t : State)
    (hr : Steps p.tables e below (T.setTop { g with pc := g.pc + 1, stack := v :: rest }) t) : Steps p.tables e below (T.setTop g) t := by
  obtain ⟨cl, A, S, H⟩ := F
  exact X.saload hx (by rw [eT]; exact A.1) (State.isArrayOf_alike hZ.alike A.2.1) A.2.2 (own_in hj hk S) (by rw [hj.2, H k hk, hv]) hg hs hd t hr
theorem own_ldC (X : Stand p l e R s m args below meth c T locs cells slots) (hx : p.tables.exec = Jvm.exec) (hZ : Z.Warmed39 s.vm) (eT : T.heap = h) (F : own_Av Z h a .char n f) {j : Int32} (hj : own_At j k) (hk : k < n) (hv : f k = v)
    {g : JFrame} (hg : g.method = m) {rest : List Value} (hs : g.stack = .int j :: .ref a :: rest) (hd : decode c.code g.pc = .ok (.caload, 1)) (t : State)
    (hr : Steps p.tables e below (T.setTop { g with pc := g.pc + 1, stack := v :: rest }) t) : Steps p.tables e below (T.setTop g) t := by
  obtain ⟨cl, A, S, H⟩ := F
  exact X.caload hx (by rw [eT]; exact A.1) (State.isArrayOf_alike hZ.alike A.2.1) A.2.2 (own_in hj hk S) (by rw [hj.2, H k hk, hv]) hg hs hd t hr
theorem own_ldB (X : Stand p l e R s m args below meth c T locs cells slots) (hx : p.tables.exec = Jvm.exec) (hZ : Z.Warmed39 s.vm) (eT : T.heap = h) (F : own_Av Z h a .byte n f) {j : Int32} (hj : own_At j k) (hk : k < n) (hv : f k = v)
    {g : JFrame} (hg : g.method = m) {rest : List Value} (hs : g.stack = .int j :: .ref a :: rest) (hd : decode c.code g.pc = .ok (.baload, 1)) (t : State)
    (hr : Steps p.tables e below (T.setTop { g with pc := g.pc + 1, stack := v :: rest }) t) : Steps p.tables e below (T.setTop g) t := by
  obtain ⟨cl, A, S, H⟩ := F
  exact X.baloadBytes hx (by rw [eT]; exact A.1) (State.isArrayOf_alike hZ.alike A.2.1) A.2.2 (own_in hj hk S) (by rw [hj.2, H k hk, hv]) hg hs hd t hr
theorem own_ldZ (X : Stand p l e R s m args below meth c T locs cells slots) (hx : p.tables.exec = Jvm.exec) (hZ : Z.Warmed39 s.vm) (eT : T.heap = h) (F : own_Av Z h a .boolean n f) {j : Int32} (hj : own_At j k) (hk : k < n) (hv : f k = v)
    {g : JFrame} (hg : g.method = m) {rest : List Value} (hs : g.stack = .int j :: .ref a :: rest) (hd : decode c.code g.pc = .ok (.baload, 1)) (t : State)
    (hr : Steps p.tables e below (T.setTop { g with pc := g.pc + 1, stack := v :: rest }) t) : Steps p.tables e below (T.setTop g) t := by
  obtain ⟨cl, A, S, H⟩ := F
  exact X.baloadBooleans hx (by rw [eT]; exact A.1) (State.isArrayOf_alike hZ.alike A.2.1) A.2.2 (own_in hj hk S) (by rw [hj.2, H k hk, hv]) hg hs hd t hr
theorem own_len (X : Stand p l e R s m args below meth c T locs cells slots) (hx : p.tables.exec = Jvm.exec) (hZ : Z.Warmed39 s.vm) (eT : T.heap = h) (F : own_Av Z h a ty n f) {z : Int32} (hz : n.toInt32 = z)
    {g : JFrame} (hg : g.method = m) {rest : List Value} (hs : g.stack = .ref a :: rest) (hd : decode c.code g.pc = .ok (.arraylength, 1)) (t : State)
    (hr : Steps p.tables e below (T.setTop { g with pc := g.pc + 1, stack := .int z :: rest }) t) : Steps p.tables e below (T.setTop g) t := by
  obtain ⟨cl, A, S, H⟩ := F
  exact X.arraylength hx (by rw [eT]; exact A.1) (State.isArrayOf_alike hZ.alike A.2.1) hg hs hd t (by rw [S, hz]; exact hr)
theorem own_stI (X : Stand p l e R s m args below meth c T locs cells slots) (hx : p.tables.exec = Jvm.exec) (hZ : Z.Warmed39 s.vm) (eT : T.heap = h) (F : own_Av Z h a .int n f) {j x : Int32} (hj : own_At j k) (hk : k < n)
    {g : JFrame} (hg : g.method = m) {rest : List Value} (hs : g.stack = .int x :: .int j :: .ref a :: rest) (hd : decode c.code g.pc = .ok (.iastore, 1)) :
    ∃ T' h', Stand p l e R s m args below meth c T' (locs ++ [⟨a, k⟩]) cells slots ∧ T'.heap = h' ∧ Wr h h' a k (.int x) ∧ own_Av Z h' a .int n (own_upd f k (.int x)) ∧ ∀ target, Steps p.tables e below (T'.setTop { g with pc := g.pc + 1, stack := rest }) target → Steps p.tables e below (T.setTop g) target := by
  obtain ⟨cl, A, S, H⟩ := id F
  obtain ⟨T', h', X', e', W', st⟩ := stI X hx hZ eT A (own_in hj hk S) hg hs hd
  rw [hj.2] at X' W'
  exact ⟨T', h', X', e', W', F.set W', st⟩
theorem own_stJ (X : Stand p l e R s m args below meth c T locs cells slots) (hx : p.tables.exec = Jvm.exec) (hZ : Z.Warmed39 s.vm) (eT : T.heap = h) (F : own_Av Z h a .long n f) {j : Int32} {x : Int64} (hj : own_At j k) (hk : k < n)
    {g : JFrame} (hg : g.method = m) {rest : List Value} (hs : g.stack = .long x :: .int j :: .ref a :: rest) (hd : decode c.code g.pc = .ok (.lastore, 1)) :
    ∃ T' h', Stand p l e R s m args below meth c T' (locs ++ [⟨a, k⟩]) cells slots ∧ T'.heap = h' ∧ Wr h h' a k (.long x) ∧ own_Av Z h' a .long n (own_upd f k (.long x)) ∧ ∀ target, Steps p.tables e below (T'.setTop { g with pc := g.pc + 1, stack := rest }) target → Steps p.tables e below (T.setTop g) target := by
  obtain ⟨cl, A, S, H⟩ := id F
  obtain ⟨T', h', X', e', W', st⟩ := stJ X hx hZ eT A (own_in hj hk S) hg hs hd
  rw [hj.2] at X' W'
  exact ⟨T', h', X', e', W', F.set W', st⟩
theorem own_stB (X : Stand p l e R s m args below meth c T locs cells slots) (hx : p.tables.exec = Jvm.exec) (hZ : Z.Warmed39 s.vm) (eT : T.heap = h) (F : own_Av Z h a .byte n f) {j x : Int32} (hj : own_At j k) (hk : k < n)
    {g : JFrame} (hg : g.method = m) {rest : List Value} (hs : g.stack = .int x :: .int j :: .ref a :: rest) (hd : decode c.code g.pc = .ok (.bastore, 1)) :
    ∃ T' h', Stand p l e R s m args below meth c T' (locs ++ [⟨a, k⟩]) cells slots ∧ T'.heap = h' ∧ Wr h h' a k (.int x.toInt8.toInt32) ∧ own_Av Z h' a .byte n (own_upd f k (.int x.toInt8.toInt32)) ∧ ∀ target, Steps p.tables e below (T'.setTop { g with pc := g.pc + 1, stack := rest }) target → Steps p.tables e below (T.setTop g) target := by
  obtain ⟨cl, A, S, H⟩ := id F
  obtain ⟨T', h', X', e', W', st⟩ := stB X hx hZ eT A (own_in hj hk S) hg hs hd
  rw [hj.2] at X' W'
  exact ⟨T', h', X', e', W', F.set W', st⟩
theorem own_stZ (X : Stand p l e R s m args below meth c T locs cells slots) (hx : p.tables.exec = Jvm.exec) (hZ : Z.Warmed39 s.vm) (eT : T.heap = h) (F : own_Av Z h a .boolean n f) {j x : Int32} (hj : own_At j k) (hk : k < n)
    {g : JFrame} (hg : g.method = m) {rest : List Value} (hs : g.stack = .int x :: .int j :: .ref a :: rest) (hd : decode c.code g.pc = .ok (.bastore, 1)) :
    ∃ T' h', Stand p l e R s m args below meth c T' (locs ++ [⟨a, k⟩]) cells slots ∧ T'.heap = h' ∧ Wr h h' a k (.int (x &&& 1)) ∧ own_Av Z h' a .boolean n (own_upd f k (.int (x &&& 1))) ∧ ∀ target, Steps p.tables e below (T'.setTop { g with pc := g.pc + 1, stack := rest }) target → Steps p.tables e below (T.setTop g) target := by
  obtain ⟨cl, A, S, H⟩ := id F
  obtain ⟨T', h', X', e', W', st⟩ := stZ X hx hZ eT A (own_in hj hk S) hg hs hd
  rw [hj.2] at X' W'
  exact ⟨T', h', X', e', W', F.set W', st⟩
theorem own_stC (X : Stand p l e R s m args below meth c T locs cells slots) (hx : p.tables.exec = Jvm.exec) (hZ : Z.Warmed39 s.vm) (eT : T.heap = h) (F : own_Av Z h a .char n f) {j x : Int32} (hj : own_At j k) (hk : k < n)
    {g : JFrame} (hg : g.method = m) {rest : List Value} (hs : g.stack = .int x :: .int j :: .ref a :: rest) (hd : decode c.code g.pc = .ok (.castore, 1)) :
    ∃ T' h', Stand p l e R s m args below meth c T' (locs ++ [⟨a, k⟩]) cells slots ∧ T'.heap = h' ∧ Wr h h' a k (.int (nar .char x)) ∧ own_Av Z h' a .char n (own_upd f k (.int (nar .char x))) ∧ ∀ target, Steps p.tables e below (T'.setTop { g with pc := g.pc + 1, stack := rest }) target → Steps p.tables e below (T.setTop g) target := by
  obtain ⟨cl, A, S, H⟩ := id F
  obtain ⟨T', h', X', e', W', st⟩ := stC X hx hZ eT A (own_in hj hk S) hg hs hd
  rw [hj.2] at X' W'
  exact ⟨T', h', X', e', W', F.set W', st⟩
theorem own_stS (X : Stand p l e R s m args below meth c T locs cells slots) (hx : p.tables.exec = Jvm.exec) (hZ : Z.Warmed39 s.vm) (eT : T.heap = h) (F : own_Av Z h a .short n f) {j x : Int32} (hj : own_At j k) (hk : k < n)
    {g : JFrame} (hg : g.method = m) {rest : List Value} (hs : g.stack = .int x :: .int j :: .ref a :: rest) (hd : decode c.code g.pc = .ok (.sastore, 1)) :
    ∃ T' h', Stand p l e R s m args below meth c T' (locs ++ [⟨a, k⟩]) cells slots ∧ T'.heap = h' ∧ Wr h h' a k (.int (nar .short x)) ∧ own_Av Z h' a .short n (own_upd f k (.int (nar .short x))) ∧ ∀ target, Steps p.tables e below (T'.setTop { g with pc := g.pc + 1, stack := rest }) target → Steps p.tables e below (T.setTop g) target := by
  obtain ⟨cl, A, S, H⟩ := id F
  obtain ⟨T', h', X', e', W', st⟩ := stS X hx hZ eT A (own_in hj hk S) hg hs hd
  rw [hj.2] at X' W'
  exact ⟨T', h', X', e', W', F.set W', st⟩
end OwnArr
theorem own_selP {Z s : State} {a0 args : Array Value} {y : MethodName} {n : Nat} (hZ : Z.Warmed39 s.vm) (wi : (Cond.instantiable y.cls n).before a0 Z = true) (wp : (Cond.privateMethod y).before a0 Z = true) (wm : (Cond.instanceMethod y).before a0 Z = true)
    (hy : y.cls ≠ "java/lang/invoke/MethodHandle" ∧ y.cls ≠ "java/lang/invoke/VarHandle") : (Cond.selects y.cls y y).before args s = true := by
  have w : (Cond.instantiable y.cls n).before args s = true := mvT hZ wi
  obtain ⟨c, k, h1, h2, -, h4, -⟩ := Cond.instantiable_spec w
  exact Jvm.Stand.selects_self_of_private h1 h2 (Bool.or_eq_false_iff.mp h4).1 (Cond.privateMethod_at (mvP hZ wp (args := args))) (mvT hZ wm) hy
theorem own_narZ {x : Int32} (h : x &&& 1 = x) : narrow .boolean (.int x) = .int x := by
  show Value.int (x &&& 1) = _
  rw [h]
theorem own_fitZ {x : Int32} (h : x &&& 1 = x) : fits .boolean (.int x) = true := by
  have q := fits_nar_bool x
  rw [show nar .boolean x = x from h] at q
  exact q
theorem own_mono {p : Program} {e : Env} {below : List Frame} {s T : State} {g : JFrame} {Q Q' : Option Value → Heap → List Loc → Prop} {k j : Nat} (h : ∀ v h L, Q v h L → Q' v h L) (G : own_Go p e below T g (own_Fin s Q k j)) : own_Go p e below T g (own_Fin s Q' k j) := by
  obtain ⟨s₂, o, h1, h2, h3, v, L, h4, h5, h6⟩ := G
  exact ⟨s₂, o, h1, h2, h3, v, L, h4, h _ _ _ h5, h6⟩
theorem own_ofs (i : Nat) : Int32.ofNat i + (1 : Int32) = Int32.ofNat (i + 1) := (Int32.ofNat_add i 1).symm
theorem own_toI {i : Nat} (h : i < 2147483648) : (Int32.ofNat i).toInt = i := Int32.toInt_ofNat_small h
theorem own_ix {i : Nat} (h : i < 2147483648) : own_At (Int32.ofNat i) i := by
  have e := own_toI h
  refine ⟨?_, ?_⟩
  · rw [Int32.lt_iff_toInt_lt, e, show (0 : Int32).toInt = 0 from by decide]; omega
  · simp only [Int32.toNatClampNeg, e]; omega
theorem own_oflt {i n : Nat} (hi : i < 2147483648) (hn : n < 2147483648) : Int32.ofNat i < Int32.ofNat n ↔ i < n := by
  rw [Int32.lt_iff_toInt_lt, own_toI hi, own_toI hn]; omega
theorem own_ofeq {i n : Nat} (hi : i < 2147483648) (hn : n < 2147483648) : Int32.ofNat i = Int32.ofNat n ↔ i = n := by
  rw [← Int32.toInt_inj, own_toI hi, own_toI hn]; omega
def own_fl (F : Nat → Int32) (i : Nat) (g : Nat → Value) (j : Nat) : Value := if j < i then .int (F j) else g j
theorem own_fl_up (F : Nat → Int32) (i : Nat) (g : Nat → Value) : ∀ j, own_upd (own_fl F i g) i (.int (F i)) j = own_fl F (i + 1) g j := fun j => by
  unfold own_fl
  by_cases q : j = i
  · subst q; rw [own_upd_hit rfl, if_pos (by omega)]
  · rw [own_upd_miss q]
    by_cases q2 : j < i
    · rw [if_pos q2, if_pos (by omega)]
    · rw [if_neg q2, if_neg (by omega)]
theorem own_fl0 (F : Nat → Int32) (g : Nat → Value) : ∀ j, g j = own_fl F 0 g j := fun j => by unfold own_fl; rw [if_neg (by omega)]
theorem own_fl_in {F : Nat → Int32} {i j : Nat} {g : Nat → Value} (h : j < i) : own_fl F i g j = .int (F j) := if_pos h
theorem own_fl_out {F : Nat → Int32} {i j : Nat} {g : Nat → Value} (h : ¬ j < i) : own_fl F i g j = g j := if_neg h

/-! single steps over own_Go -/
theorem own_s_iadd {p : Program} {e : Env} {below : List Frame} {T : State} {m : MethodId} {c : Code} {Φ : Outcome → State → Prop} {pc : Nat} {L : Array Slot} {S : List Value} (h : At T m c below) (hx : p.tables.exec = Jvm.exec) {x y : Int32} (hd : decode c.code pc = .ok (.iadd, 1)) (G : own_Go p e below T (mkF m (pc + 1) L (.int (x + y) :: S)) Φ) : own_Go p e below T (mkF m pc L (.int y :: .int x :: S)) Φ := own_by (fun t k => XS.iadd h hx rfl hd rfl k) G
theorem own_s_isub {p : Program} {e : Env} {below : List Frame} {T : State} {m : MethodId} {c : Code} {Φ : Outcome → State → Prop} {pc : Nat} {L : Array Slot} {S : List Value} (h : At T m c below) (hx : p.tables.exec = Jvm.exec) {x y : Int32} (hd : decode c.code pc = .ok (.isub, 1)) (G : own_Go p e below T (mkF m (pc + 1) L (.int (x - y) :: S)) Φ) : own_Go p e below T (mkF m pc L (.int y :: .int x :: S)) Φ := own_by (fun t k => XS.isub h hx rfl hd rfl k) G
theorem own_s_imul {p : Program} {e : Env} {below : List Frame} {T : State} {m : MethodId} {c : Code} {Φ : Outcome → State → Prop} {pc : Nat} {L : Array Slot} {S : List Value} (h : At T m c below) (hx : p.tables.exec = Jvm.exec) {x y : Int32} (hd : decode c.code pc = .ok (.imul, 1)) (G : own_Go p e below T (mkF m (pc + 1) L (.int (x * y) :: S)) Φ) : own_Go p e below T (mkF m pc L (.int y :: .int x :: S)) Φ := own_by (fun t k => XS.imul h hx rfl hd rfl k) G
theorem own_s_iand {p : Program} {e : Env} {below : List Frame} {T : State} {m : MethodId} {c : Code} {Φ : Outcome → State → Prop} {pc : Nat} {L : Array Slot} {S : List Value} (h : At T m c below) (hx : p.tables.exec = Jvm.exec) {x y : Int32} (hd : decode c.code pc = .ok (.iand, 1)) (G : own_Go p e below T (mkF m (pc + 1) L (.int (x &&& y) :: S)) Φ) : own_Go p e below T (mkF m pc L (.int y :: .int x :: S)) Φ := own_by (fun t k => XS.iand h hx rfl hd rfl k) G
theorem own_s_ior {p : Program} {e : Env} {below : List Frame} {T : State} {m : MethodId} {c : Code} {Φ : Outcome → State → Prop} {pc : Nat} {L : Array Slot} {S : List Value} (h : At T m c below) (hx : p.tables.exec = Jvm.exec) {x y : Int32} (hd : decode c.code pc = .ok (.ior, 1)) (G : own_Go p e below T (mkF m (pc + 1) L (.int (x ||| y) :: S)) Φ) : own_Go p e below T (mkF m pc L (.int y :: .int x :: S)) Φ := own_by (fun t k => XS.ior h hx rfl hd rfl k) G
theorem own_s_ixor {p : Program} {e : Env} {below : List Frame} {T : State} {m : MethodId} {c : Code} {Φ : Outcome → State → Prop} {pc : Nat} {L : Array Slot} {S : List Value} (h : At T m c below) (hx : p.tables.exec = Jvm.exec) {x y : Int32} (hd : decode c.code pc = .ok (.ixor, 1)) (G : own_Go p e below T (mkF m (pc + 1) L (.int (x ^^^ y) :: S)) Φ) : own_Go p e below T (mkF m pc L (.int y :: .int x :: S)) Φ := own_by (fun t k => XS.ixor h hx rfl hd rfl k) G
theorem own_s_ladd {p : Program} {e : Env} {below : List Frame} {T : State} {m : MethodId} {c : Code} {Φ : Outcome → State → Prop} {pc : Nat} {L : Array Slot} {S : List Value} (h : At T m c below) (hx : p.tables.exec = Jvm.exec) {x y : Int64} (hd : decode c.code pc = .ok (.ladd, 1)) (G : own_Go p e below T (mkF m (pc + 1) L (.long (x + y) :: S)) Φ) : own_Go p e below T (mkF m pc L (.long y :: .long x :: S)) Φ := own_by (fun t k => XS.ladd h hx rfl hd rfl k) G
theorem own_s_lsub {p : Program} {e : Env} {below : List Frame} {T : State} {m : MethodId} {c : Code} {Φ : Outcome → State → Prop} {pc : Nat} {L : Array Slot} {S : List Value} (h : At T m c below) (hx : p.tables.exec = Jvm.exec) {x y : Int64} (hd : decode c.code pc = .ok (.lsub, 1)) (G : own_Go p e below T (mkF m (pc + 1) L (.long (x - y) :: S)) Φ) : own_Go p e below T (mkF m pc L (.long y :: .long x :: S)) Φ := own_by (fun t k => XS.lsub h hx rfl hd rfl k) G
theorem own_s_lmul {p : Program} {e : Env} {below : List Frame} {T : State} {m : MethodId} {c : Code} {Φ : Outcome → State → Prop} {pc : Nat} {L : Array Slot} {S : List Value} (h : At T m c below) (hx : p.tables.exec = Jvm.exec) {x y : Int64} (hd : decode c.code pc = .ok (.lmul, 1)) (G : own_Go p e below T (mkF m (pc + 1) L (.long (x * y) :: S)) Φ) : own_Go p e below T (mkF m pc L (.long y :: .long x :: S)) Φ := own_by (fun t k => XS.lmul h hx rfl hd rfl k) G
theorem own_s_land {p : Program} {e : Env} {below : List Frame} {T : State} {m : MethodId} {c : Code} {Φ : Outcome → State → Prop} {pc : Nat} {L : Array Slot} {S : List Value} (h : At T m c below) (hx : p.tables.exec = Jvm.exec) {x y : Int64} (hd : decode c.code pc = .ok (.land, 1)) (G : own_Go p e below T (mkF m (pc + 1) L (.long (x &&& y) :: S)) Φ) : own_Go p e below T (mkF m pc L (.long y :: .long x :: S)) Φ := own_by (fun t k => XS.land h hx rfl hd rfl k) G
theorem own_s_lor {p : Program} {e : Env} {below : List Frame} {T : State} {m : MethodId} {c : Code} {Φ : Outcome → State → Prop} {pc : Nat} {L : Array Slot} {S : List Value} (h : At T m c below) (hx : p.tables.exec = Jvm.exec) {x y : Int64} (hd : decode c.code pc = .ok (.lor, 1)) (G : own_Go p e below T (mkF m (pc + 1) L (.long (x ||| y) :: S)) Φ) : own_Go p e below T (mkF m pc L (.long y :: .long x :: S)) Φ := own_by (fun t k => XS.lor h hx rfl hd rfl k) G
theorem own_s_lxor {p : Program} {e : Env} {below : List Frame} {T : State} {m : MethodId} {c : Code} {Φ : Outcome → State → Prop} {pc : Nat} {L : Array Slot} {S : List Value} (h : At T m c below) (hx : p.tables.exec = Jvm.exec) {x y : Int64} (hd : decode c.code pc = .ok (.lxor, 1)) (G : own_Go p e below T (mkF m (pc + 1) L (.long (x ^^^ y) :: S)) Φ) : own_Go p e below T (mkF m pc L (.long y :: .long x :: S)) Φ := own_by (fun t k => XS.lxor h hx rfl hd rfl k) G
theorem own_s_ishl {p : Program} {e : Env} {below : List Frame} {T : State} {m : MethodId} {c : Code} {Φ : Outcome → State → Prop} {pc : Nat} {L : Array Slot} {S : List Value} (h : At T m c below) (hx : p.tables.exec = Jvm.exec) {x y : Int32} (hd : decode c.code pc = .ok (.ishl, 1)) (G : own_Go p e below T (mkF m (pc + 1) L (.int (x <<< (y &&& 31)) :: S)) Φ) : own_Go p e below T (mkF m pc L (.int y :: .int x :: S)) Φ := own_by (fun t k => XS.ishl h hx rfl hd rfl k) G
theorem own_s_ishr {p : Program} {e : Env} {below : List Frame} {T : State} {m : MethodId} {c : Code} {Φ : Outcome → State → Prop} {pc : Nat} {L : Array Slot} {S : List Value} (h : At T m c below) (hx : p.tables.exec = Jvm.exec) {x y : Int32} (hd : decode c.code pc = .ok (.ishr, 1)) (G : own_Go p e below T (mkF m (pc + 1) L (.int (x >>> (y &&& 31)) :: S)) Φ) : own_Go p e below T (mkF m pc L (.int y :: .int x :: S)) Φ := own_by (fun t k => XS.ishr h hx rfl hd rfl k) G
theorem own_s_iushr {p : Program} {e : Env} {below : List Frame} {T : State} {m : MethodId} {c : Code} {Φ : Outcome → State → Prop} {pc : Nat} {L : Array Slot} {S : List Value} (h : At T m c below) (hx : p.tables.exec = Jvm.exec) {x y : Int32} (hd : decode c.code pc = .ok (.iushr, 1)) (G : own_Go p e below T (mkF m (pc + 1) L (.int ((x.toUInt32 >>> (y &&& 31).toUInt32).toInt32) :: S)) Φ) : own_Go p e below T (mkF m pc L (.int y :: .int x :: S)) Φ := own_by (fun t k => XS.iushr h hx rfl hd rfl k) G
theorem own_s_lshl {p : Program} {e : Env} {below : List Frame} {T : State} {m : MethodId} {c : Code} {Φ : Outcome → State → Prop} {pc : Nat} {L : Array Slot} {S : List Value} (h : At T m c below) (hx : p.tables.exec = Jvm.exec) {x : Int64} {y : Int32} (hd : decode c.code pc = .ok (.lshl, 1)) (G : own_Go p e below T (mkF m (pc + 1) L (.long (x <<< (y &&& 0x3f).toInt64) :: S)) Φ) : own_Go p e below T (mkF m pc L (.int y :: .long x :: S)) Φ := own_by (fun t k => XS.lshl h hx rfl hd rfl k) G
theorem own_s_lshr {p : Program} {e : Env} {below : List Frame} {T : State} {m : MethodId} {c : Code} {Φ : Outcome → State → Prop} {pc : Nat} {L : Array Slot} {S : List Value} (h : At T m c below) (hx : p.tables.exec = Jvm.exec) {x : Int64} {y : Int32} (hd : decode c.code pc = .ok (.lshr, 1)) (G : own_Go p e below T (mkF m (pc + 1) L (.long (x >>> (y &&& 0x3f).toInt64) :: S)) Φ) : own_Go p e below T (mkF m pc L (.int y :: .long x :: S)) Φ := own_by (fun t k => XS.lshr h hx rfl hd rfl k) G
theorem own_s_lushr {p : Program} {e : Env} {below : List Frame} {T : State} {m : MethodId} {c : Code} {Φ : Outcome → State → Prop} {pc : Nat} {L : Array Slot} {S : List Value} (h : At T m c below) (hx : p.tables.exec = Jvm.exec) {x : Int64} {y : Int32} (hd : decode c.code pc = .ok (.lushr, 1)) (G : own_Go p e below T (mkF m (pc + 1) L (.long ((x.toUInt64 >>> (y &&& 0x3f).toInt64.toUInt64).toInt64) :: S)) Φ) : own_Go p e below T (mkF m pc L (.int y :: .long x :: S)) Φ := own_by (fun t k => XS.lushr h hx rfl hd rfl k) G
theorem own_s_ineg {p : Program} {e : Env} {below : List Frame} {T : State} {m : MethodId} {c : Code} {Φ : Outcome → State → Prop} {pc : Nat} {L : Array Slot} {S : List Value} (h : At T m c below) (hx : p.tables.exec = Jvm.exec) {x : Int32} (hd : decode c.code pc = .ok (.ineg, 1)) (G : own_Go p e below T (mkF m (pc + 1) L (.int (-x) :: S)) Φ) : own_Go p e below T (mkF m pc L (.int x :: S)) Φ := own_by (fun t k => XS.ineg h hx rfl hd rfl k) G
theorem own_s_lneg {p : Program} {e : Env} {below : List Frame} {T : State} {m : MethodId} {c : Code} {Φ : Outcome → State → Prop} {pc : Nat} {L : Array Slot} {S : List Value} (h : At T m c below) (hx : p.tables.exec = Jvm.exec) {x : Int64} (hd : decode c.code pc = .ok (.lneg, 1)) (G : own_Go p e below T (mkF m (pc + 1) L (.long (-x) :: S)) Φ) : own_Go p e below T (mkF m pc L (.long x :: S)) Φ := own_by (fun t k => XS.lneg h hx rfl hd rfl k) G
theorem own_s_i2l {p : Program} {e : Env} {below : List Frame} {T : State} {m : MethodId} {c : Code} {Φ : Outcome → State → Prop} {pc : Nat} {L : Array Slot} {S : List Value} (h : At T m c below) (hx : p.tables.exec = Jvm.exec) {x : Int32} (hd : decode c.code pc = .ok (.i2l, 1)) (G : own_Go p e below T (mkF m (pc + 1) L (.long (x.toInt64) :: S)) Φ) : own_Go p e below T (mkF m pc L (.int x :: S)) Φ := own_by (fun t k => XS.i2l h hx rfl hd rfl k) G
theorem own_s_l2i {p : Program} {e : Env} {below : List Frame} {T : State} {m : MethodId} {c : Code} {Φ : Outcome → State → Prop} {pc : Nat} {L : Array Slot} {S : List Value} (h : At T m c below) (hx : p.tables.exec = Jvm.exec) {x : Int64} (hd : decode c.code pc = .ok (.l2i, 1)) (G : own_Go p e below T (mkF m (pc + 1) L (.int (x.toInt32) :: S)) Φ) : own_Go p e below T (mkF m pc L (.long x :: S)) Φ := own_by (fun t k => XS.l2i h hx rfl hd rfl k) G
theorem own_s_i2b {p : Program} {e : Env} {below : List Frame} {T : State} {m : MethodId} {c : Code} {Φ : Outcome → State → Prop} {pc : Nat} {L : Array Slot} {S : List Value} (h : At T m c below) (hx : p.tables.exec = Jvm.exec) {x : Int32} (hd : decode c.code pc = .ok (.i2b, 1)) (G : own_Go p e below T (mkF m (pc + 1) L (.int (x.toInt8.toInt32) :: S)) Φ) : own_Go p e below T (mkF m pc L (.int x :: S)) Φ := own_by (fun t k => XS.i2b h hx rfl hd rfl k) G
theorem own_s_i2s {p : Program} {e : Env} {below : List Frame} {T : State} {m : MethodId} {c : Code} {Φ : Outcome → State → Prop} {pc : Nat} {L : Array Slot} {S : List Value} (h : At T m c below) (hx : p.tables.exec = Jvm.exec) {x : Int32} (hd : decode c.code pc = .ok (.i2s, 1)) (G : own_Go p e below T (mkF m (pc + 1) L (.int (x.toInt16.toInt32) :: S)) Φ) : own_Go p e below T (mkF m pc L (.int x :: S)) Φ := own_by (fun t k => XS.i2s h hx rfl hd rfl k) G
theorem own_s_i2c {p : Program} {e : Env} {below : List Frame} {T : State} {m : MethodId} {c : Code} {Φ : Outcome → State → Prop} {pc : Nat} {L : Array Slot} {S : List Value} (h : At T m c below) (hx : p.tables.exec = Jvm.exec) {x : Int32} (hd : decode c.code pc = .ok (.i2c, 1)) (G : own_Go p e below T (mkF m (pc + 1) L (.int (x.toUInt32.toUInt16.toUInt32.toInt32) :: S)) Φ) : own_Go p e below T (mkF m pc L (.int x :: S)) Φ := own_by (fun t k => XS.i2c h hx rfl hd rfl k) G
theorem own_s_iloadN {p : Program} {e : Env} {below : List Frame} {T : State} {m : MethodId} {c : Code} {Φ : Outcome → State → Prop} {pc : Nat} {L : Array Slot} {S : List Value} (h : At T m c below) (hx : p.tables.exec = Jvm.exec) {i : Fin 4} {v : Int32} (hd : decode c.code pc = .ok (.iload_n i, 1)) (hl : L[i.val]? = some (.val (.int v))) (G : own_Go p e below T (mkF m (pc + 1) L (.int v :: S)) Φ) : own_Go p e below T (mkF m pc L S) Φ := own_by (fun t k => XS.iloadN h hx rfl hd hl k) G
theorem own_s_iload {p : Program} {e : Env} {below : List Frame} {T : State} {m : MethodId} {c : Code} {Φ : Outcome → State → Prop} {pc : Nat} {L : Array Slot} {S : List Value} (h : At T m c below) (hx : p.tables.exec = Jvm.exec) {i : Nat} {v : Int32} (hd : decode c.code pc = .ok (.iload i, 2)) (hl : L[i]? = some (.val (.int v))) (G : own_Go p e below T (mkF m (pc + 2) L (.int v :: S)) Φ) : own_Go p e below T (mkF m pc L S) Φ := own_by (fun t k => XS.iload h hx rfl hd hl k) G
theorem own_s_lloadN {p : Program} {e : Env} {below : List Frame} {T : State} {m : MethodId} {c : Code} {Φ : Outcome → State → Prop} {pc : Nat} {L : Array Slot} {S : List Value} (h : At T m c below) (hx : p.tables.exec = Jvm.exec) {i : Fin 4} {v : Int64} (hd : decode c.code pc = .ok (.lload_n i, 1)) (hl : L[i.val]? = some (.val (.long v))) (G : own_Go p e below T (mkF m (pc + 1) L (.long v :: S)) Φ) : own_Go p e below T (mkF m pc L S) Φ := own_by (fun t k => XS.lloadN h hx rfl hd hl k) G
theorem own_s_lload {p : Program} {e : Env} {below : List Frame} {T : State} {m : MethodId} {c : Code} {Φ : Outcome → State → Prop} {pc : Nat} {L : Array Slot} {S : List Value} (h : At T m c below) (hx : p.tables.exec = Jvm.exec) {i : Nat} {v : Int64} (hd : decode c.code pc = .ok (.lload i, 2)) (hl : L[i]? = some (.val (.long v))) (G : own_Go p e below T (mkF m (pc + 2) L (.long v :: S)) Φ) : own_Go p e below T (mkF m pc L S) Φ := own_by (fun t k => XS.lload h hx rfl hd hl k) G
theorem own_s_aloadN {p : Program} {e : Env} {below : List Frame} {T : State} {m : MethodId} {c : Code} {Φ : Outcome → State → Prop} {pc : Nat} {L : Array Slot} {S : List Value} (h : At T m c below) (hx : p.tables.exec = Jvm.exec) {i : Fin 4} {v : Value} (hd : decode c.code pc = .ok (.aload_n i, 1)) (hl : L[i.val]? = some (.val v)) (hv : v.isRef = true) (G : own_Go p e below T (mkF m (pc + 1) L (v :: S)) Φ) : own_Go p e below T (mkF m pc L S) Φ := own_by (fun t k => XS.aloadN h hx rfl hd hl hv k) G
theorem own_s_aload {p : Program} {e : Env} {below : List Frame} {T : State} {m : MethodId} {c : Code} {Φ : Outcome → State → Prop} {pc : Nat} {L : Array Slot} {S : List Value} (h : At T m c below) (hx : p.tables.exec = Jvm.exec) {i : Nat} {v : Value} (hd : decode c.code pc = .ok (.aload i, 2)) (hl : L[i]? = some (.val v)) (hv : v.isRef = true) (G : own_Go p e below T (mkF m (pc + 2) L (v :: S)) Φ) : own_Go p e below T (mkF m pc L S) Φ := own_by (fun t k => XS.aload h hx rfl hd hl hv k) G
theorem own_s_istoreN {p : Program} {e : Env} {below : List Frame} {T : State} {m : MethodId} {c : Code} {Φ : Outcome → State → Prop} {pc : Nat} {L : Array Slot} {S : List Value} (h : At T m c below) (hx : p.tables.exec = Jvm.exec) {i : Fin 4} {v : Int32} (L' : Array Slot) (hd : decode c.code pc = .ok (.istore_n i, 1)) (hl : storeLocals L i.val (.int v) = some L') (G : own_Go p e below T (mkF m (pc + 1) L' S) Φ) : own_Go p e below T (mkF m pc L (.int v :: S)) Φ := own_by (fun t k => XS.istoreN h hx rfl hd rfl hl k) G
theorem own_s_istore {p : Program} {e : Env} {below : List Frame} {T : State} {m : MethodId} {c : Code} {Φ : Outcome → State → Prop} {pc : Nat} {L : Array Slot} {S : List Value} (h : At T m c below) (hx : p.tables.exec = Jvm.exec) {i : Nat} {v : Int32} (L' : Array Slot) (hd : decode c.code pc = .ok (.istore i, 2)) (hl : storeLocals L i (.int v) = some L') (G : own_Go p e below T (mkF m (pc + 2) L' S) Φ) : own_Go p e below T (mkF m pc L (.int v :: S)) Φ := own_by (fun t k => XS.istore h hx rfl hd rfl hl k) G
theorem own_s_lstoreN {p : Program} {e : Env} {below : List Frame} {T : State} {m : MethodId} {c : Code} {Φ : Outcome → State → Prop} {pc : Nat} {L : Array Slot} {S : List Value} (h : At T m c below) (hx : p.tables.exec = Jvm.exec) {i : Fin 4} {v : Int64} (L' : Array Slot) (hd : decode c.code pc = .ok (.lstore_n i, 1)) (hl : storeLocals L i.val (.long v) = some L') (G : own_Go p e below T (mkF m (pc + 1) L' S) Φ) : own_Go p e below T (mkF m pc L (.long v :: S)) Φ := own_by (fun t k => XS.lstoreN h hx rfl hd rfl hl k) G
theorem own_s_lstore {p : Program} {e : Env} {below : List Frame} {T : State} {m : MethodId} {c : Code} {Φ : Outcome → State → Prop} {pc : Nat} {L : Array Slot} {S : List Value} (h : At T m c below) (hx : p.tables.exec = Jvm.exec) {i : Nat} {v : Int64} (L' : Array Slot) (hd : decode c.code pc = .ok (.lstore i, 2)) (hl : storeLocals L i (.long v) = some L') (G : own_Go p e below T (mkF m (pc + 2) L' S) Φ) : own_Go p e below T (mkF m pc L (.long v :: S)) Φ := own_by (fun t k => XS.lstore h hx rfl hd rfl hl k) G
theorem own_s_astoreN {p : Program} {e : Env} {below : List Frame} {T : State} {m : MethodId} {c : Code} {Φ : Outcome → State → Prop} {pc : Nat} {L : Array Slot} {S : List Value} (h : At T m c below) (hx : p.tables.exec = Jvm.exec) {i : Fin 4} {v : Value} (L' : Array Slot) (hd : decode c.code pc = .ok (.astore_n i, 1)) (hv : v.isRef = true) (hl : storeLocals L i.val v = some L') (G : own_Go p e below T (mkF m (pc + 1) L' S) Φ) : own_Go p e below T (mkF m pc L (v :: S)) Φ := own_by (fun t k => XS.astoreN h hx rfl hd rfl hv hl k) G
theorem own_s_astore {p : Program} {e : Env} {below : List Frame} {T : State} {m : MethodId} {c : Code} {Φ : Outcome → State → Prop} {pc : Nat} {L : Array Slot} {S : List Value} (h : At T m c below) (hx : p.tables.exec = Jvm.exec) {i : Nat} {v : Value} (L' : Array Slot) (hd : decode c.code pc = .ok (.astore i, 2)) (hv : v.isRef = true) (hl : storeLocals L i v = some L') (G : own_Go p e below T (mkF m (pc + 2) L' S) Φ) : own_Go p e below T (mkF m pc L (v :: S)) Φ := own_by (fun t k => XS.astore h hx rfl hd rfl hv hl k) G
theorem own_s_iconst {p : Program} {e : Env} {below : List Frame} {T : State} {m : MethodId} {c : Code} {Φ : Outcome → State → Prop} {pc : Nat} {L : Array Slot} {S : List Value} (h : At T m c below) (hx : p.tables.exec = Jvm.exec) {i : Int} (v : Int32) (hd : decode c.code pc = .ok (.iconst i, 1)) (hv : Int32.ofInt i = v) (G : own_Go p e below T (mkF m (pc + 1) L (.int v :: S)) Φ) : own_Go p e below T (mkF m pc L S) Φ := own_by (fun t k => XS.iconst h hx rfl hd (by rw [hv]; exact k)) G
theorem own_s_bipush {p : Program} {e : Env} {below : List Frame} {T : State} {m : MethodId} {c : Code} {Φ : Outcome → State → Prop} {pc : Nat} {L : Array Slot} {S : List Value} (h : At T m c below) (hx : p.tables.exec = Jvm.exec) {i : Int} (v : Int32) (hd : decode c.code pc = .ok (.bipush i, 2)) (hv : (Int8.ofInt i).toInt32 = v) (G : own_Go p e below T (mkF m (pc + 2) L (.int v :: S)) Φ) : own_Go p e below T (mkF m pc L S) Φ := own_by (fun t k => XS.bipush h hx rfl hd (by rw [hv]; exact k)) G
theorem own_s_sipush {p : Program} {e : Env} {below : List Frame} {T : State} {m : MethodId} {c : Code} {Φ : Outcome → State → Prop} {pc : Nat} {L : Array Slot} {S : List Value} (h : At T m c below) (hx : p.tables.exec = Jvm.exec) {i : Int} (v : Int32) (hd : decode c.code pc = .ok (.sipush i, 3)) (hv : (Int16.ofInt i).toInt32 = v) (G : own_Go p e below T (mkF m (pc + 3) L (.int v :: S)) Φ) : own_Go p e below T (mkF m pc L S) Φ := own_by (fun t k => XS.sipush h hx rfl hd (by rw [hv]; exact k)) G
theorem own_s_lconst {p : Program} {e : Env} {below : List Frame} {T : State} {m : MethodId} {c : Code} {Φ : Outcome → State → Prop} {pc : Nat} {L : Array Slot} {S : List Value} (h : At T m c below) (hx : p.tables.exec = Jvm.exec) {i : Fin 2} (v : Int64) (hd : decode c.code pc = .ok (.lconst i, 1)) (hv : Int64.ofNat i = v) (G : own_Go p e below T (mkF m (pc + 1) L (.long v :: S)) Φ) : own_Go p e below T (mkF m pc L S) Φ := own_by (fun t k => XS.lconst h hx rfl hd (by rw [hv]; exact k)) G
theorem own_s_goto {p : Program} {e : Env} {below : List Frame} {T : State} {m : MethodId} {c : Code} {Φ : Outcome → State → Prop} {pc : Nat} {L : Array Slot} {S : List Value} (h : At T m c below) (hx : p.tables.exec = Jvm.exec) {o : Int} (pc' : Nat) (hd : decode c.code pc = .ok (.goto o, 3)) (ho : 0 ≤ (pc : Int) + o) (hp : ((pc : Int) + o).toNat = pc') (G : own_Go p e below T (mkF m pc' L S) Φ) : own_Go p e below T (mkF m pc L S) Φ := own_by (fun t k => XS.goto h hx rfl rfl hd ho hp k) G
theorem own_s_ifYes {p : Program} {e : Env} {below : List Frame} {T : State} {m : MethodId} {c : Code} {Φ : Outcome → State → Prop} {pc : Nat} {L : Array Slot} {S : List Value} (h : At T m c below) (hx : p.tables.exec = Jvm.exec) {cd : ClassFile.Cond} {x : Int32} {o : Int} (pc' : Nat) (hd : decode c.code pc = .ok (.ifCond cd o, 3)) (hc : ifCond.holds cd x = true) (ho : 0 ≤ (pc : Int) + o) (hp : ((pc : Int) + o).toNat = pc') (G : own_Go p e below T (mkF m pc' L S) Φ) : own_Go p e below T (mkF m pc L (.int x :: S)) Φ := own_by (fun t k => XS.ifYes h hx rfl rfl hd rfl hc ho hp k) G
theorem own_s_ifNo {p : Program} {e : Env} {below : List Frame} {T : State} {m : MethodId} {c : Code} {Φ : Outcome → State → Prop} {pc : Nat} {L : Array Slot} {S : List Value} (h : At T m c below) (hx : p.tables.exec = Jvm.exec) {cd : ClassFile.Cond} {x : Int32} {o : Int} (hd : decode c.code pc = .ok (.ifCond cd o, 3)) (hc : ifCond.holds cd x = false) (G : own_Go p e below T (mkF m (pc + 3) L S) Φ) : own_Go p e below T (mkF m pc L (.int x :: S)) Φ := own_by (fun t k => XS.ifNo h hx rfl hd rfl hc k) G
theorem own_s_icmpYes {p : Program} {e : Env} {below : List Frame} {T : State} {m : MethodId} {c : Code} {Φ : Outcome → State → Prop} {pc : Nat} {L : Array Slot} {S : List Value} (h : At T m c below) (hx : p.tables.exec = Jvm.exec) {cd : ClassFile.Cond} {x y : Int32} {o : Int} (pc' : Nat) (hd : decode c.code pc = .ok (.if_icmp cd o, 3)) (hc : if_icmp.holds cd x y = true) (ho : 0 ≤ (pc : Int) + o) (hp : ((pc : Int) + o).toNat = pc') (G : own_Go p e below T (mkF m pc' L S) Φ) : own_Go p e below T (mkF m pc L (.int y :: .int x :: S)) Φ := own_by (fun t k => XS.icmpYes h hx rfl rfl hd rfl hc ho hp k) G
theorem own_s_icmpNo {p : Program} {e : Env} {below : List Frame} {T : State} {m : MethodId} {c : Code} {Φ : Outcome → State → Prop} {pc : Nat} {L : Array Slot} {S : List Value} (h : At T m c below) (hx : p.tables.exec = Jvm.exec) {cd : ClassFile.Cond} {x y : Int32} {o : Int} (hd : decode c.code pc = .ok (.if_icmp cd o, 3)) (hc : if_icmp.holds cd x y = false) (G : own_Go p e below T (mkF m (pc + 3) L S) Φ) : own_Go p e below T (mkF m pc L (.int y :: .int x :: S)) Φ := own_by (fun t k => XS.icmpNo h hx rfl hd rfl hc k) G
theorem own_s_lcmp {p : Program} {e : Env} {below : List Frame} {T : State} {m : MethodId} {c : Code} {Φ : Outcome → State → Prop} {pc : Nat} {L : Array Slot} {S : List Value} (h : At T m c below) (hx : p.tables.exec = Jvm.exec) {x y : Int64} (hd : decode c.code pc = .ok (.lcmp, 1)) (G : own_Go p e below T (mkF m (pc + 1) L (.int (Jvm.Free.XT.cmpL x y) :: S)) Φ) : own_Go p e below T (mkF m pc L (.long y :: .long x :: S)) Φ := own_by (fun t k => Jvm.Free.XT.lcmp h hx rfl hd rfl k) G
theorem own_s_dup {p : Program} {e : Env} {below : List Frame} {T : State} {m : MethodId} {c : Code} {Φ : Outcome → State → Prop} {pc : Nat} {L : Array Slot} {S : List Value} (h : At T m c below) (hx : p.tables.exec = Jvm.exec) {x : Value} (hd : decode c.code pc = .ok (.dup, 1)) (hc : x.category = 1) (G : own_Go p e below T (mkF m (pc + 1) L (x :: x :: S)) Φ) : own_Go p e below T (mkF m pc L (x :: S)) Φ := own_by (fun t k => XS.dup h hx rfl hd rfl hc k) G
theorem own_s_pop {p : Program} {e : Env} {below : List Frame} {T : State} {m : MethodId} {c : Code} {Φ : Outcome → State → Prop} {pc : Nat} {L : Array Slot} {S : List Value} (h : At T m c below) (hx : p.tables.exec = Jvm.exec) {x : Value} (hd : decode c.code pc = .ok (.pop, 1)) (hc : x.category = 1) (G : own_Go p e below T (mkF m (pc + 1) L S) Φ) : own_Go p e below T (mkF m pc L (x :: S)) Φ := own_by (fun t k => XS.pop h hx rfl hd rfl hc k) G

def own_f1 (u0 : Int32) (u1 : Int32) : Int32 := (if u1 < u0 then u1 else u0)
theorem own_d1_0 : decode jdk_29_method_69_code 0 = .ok (.iload_n 0, 1) := by decide +kernel
theorem own_d1_1 : decode jdk_29_method_69_code 1 = .ok (.iload_n 1, 1) := by decide +kernel
theorem own_d1_2 : decode jdk_29_method_69_code 2 = .ok (.if_icmp .gt 7, 3) := by decide +kernel
theorem own_d1_5 : decode jdk_29_method_69_code 5 = .ok (.iload_n 0, 1) := by decide +kernel
theorem own_d1_6 : decode jdk_29_method_69_code 6 = .ok (.goto 4, 3) := by decide +kernel
theorem own_d1_9 : decode jdk_29_method_69_code 9 = .ok (.iload_n 1, 1) := by decide +kernel
theorem own_d1_10 : decode jdk_29_method_69_code 10 = .ok (.ireturn, 1) := by decide +kernel
theorem own_ef1 (m : MethodId) (u0 : Int32) (u1 : Int32) : entryFrame m #[(.int u0), (.int u1)] 2 = mkF m 0 #[.val (.int u0), .val (.int u1)] [] := by first | (simp [entryFrame, mkF, argsToLocals, Value.category]; done) | rfl
def own_q_own_r1 (Z : State) (u0 : Int32) (u1 : Int32) (h0 : Heap) (n0 : Nat) (v : Option Value) (h : Heap) (L : List Loc) : Prop := v = some (.int (own_f1 u0 u1)) ∧ Fr n0 L ∧ h = h0
set_option maxRecDepth 65536 in
set_option maxHeartbeats 40000000 in
theorem own_r1 (l : Launch) (Z : State) (a0 : Array Value) (hw : ∀ d ∈ tables_1, d.before a0 Z = true) (ws : List Jvm.Cond) (u0 : Int32) (u1 : Int32) (h0 : Heap) (n0 : Nat) (Z0 : n0 ≤ h0.size) :
    MetFree l (⟨"java/lang/Math", "min", "(II)I"⟩ : MethodName) (head1 (Jvm.Cond.code (⟨"java/lang/Math", "min", "(II)I"⟩ : MethodName) jdk_29_method_69_code 2 (some .int) :: ws) ({ frames := 0, cells := 0, slots := 0, locals := 0 } : Room)) (fun aq Uq => aq = #[(.int u0), (.int u1)] ∧ Z.Warmed39 Uq.vm ∧ Uq.heap = h0) (fun _ _ _ _ _ => True) (fun _ Uq oq Uq' => ∃ vq Lq, oq = .returned vq ∧ own_q_own_r1 Z u0 u1 h0 n0 vq Uq'.heap Lq ∧ FrameEnd Uq oq Uq' Lq ({ frames := 0, cells := 0, slots := 0, locals := 0 } : Room).cells ({ frames := 0, cells := 0, slots := 0, locals := 0 } : Room).slots) := by
  refine MetFree.of_bodySF (Jvm.Free.JP.mathPlain rfl (by decide +kernel)) hisR ?_
  intro p e s m args below meth c T0 Bd hml0 hP hK
  obtain ⟨rfl, hZ, hh⟩ := hP
  have hx := Bd.exec
  have hby := Bd.bytes
  have hml : c.maxLocals = 2 := hml0
  have hown : s.vm.findClass "java/lang/Math" = some m.cls := findClass_of_methodNamed Bd.named
  have hnm := (name_of_methodNamed Bd.named Bd.method).1
  have hret : meth.sig.returnType = (some .int) := Bd.returns
  have hlk : meth.locks = false := BodyLoose.notSynchronized Bd
  have X0 : Stand p l e ({ frames := 0, cells := 0, slots := 0, locals := 0 } : Room) s m #[(.int u0), (.int u1)] below meth c T0 [] 0 0 := Stand.of_body Bd
  have e0 : T0.heap = h0 := by rw [← hh, Bd.state]; rfl
  have N0 := Fr.nil n0
  refine own_start (own_ef1 m u0 u1) (Q := fun (v : Option Value) (h : Heap) (L : List Loc) => v = some (.int (own_f1 u0 u1)) ∧ Fr n0 L ∧ h = h0) (k := 0) (j := 0) ?_
  show own_Go p e below T0 (mkF m 0 #[.val (.int u0), .val (.int u1)] []) _
  refine own_s_iloadN X0.here hx (hb hby own_d1_0) rfl ?_
  refine own_s_iloadN X0.here hx (hb hby own_d1_1) rfl ?_
  by_cases hc2 : u1 < u0
  ·
    show own_Go p e below T0 (mkF m 2 #[.val (.int u0), .val (.int u1)] [(.int u1), (.int u0)]) _
    refine own_s_icmpYes X0.here hx 9 (hb hby own_d1_2) (Jvm.Free.XT.ii_gt_t hc2) (by decide) (by decide) ?_
    refine own_s_iloadN X0.here hx (hb hby own_d1_9) rfl ?_
    refine own_retI X0 hx hret hlk (hb hby own_d1_10) (by decide) (by decide) ?_
    exact ⟨by unfold own_f1; rw [if_pos hc2], N0, e0⟩
  ·
    refine own_s_icmpNo X0.here hx (hb hby own_d1_2) (Jvm.Free.XT.ii_gt_f hc2) ?_
    refine own_s_iloadN X0.here hx (hb hby own_d1_5) rfl ?_
    show own_Go p e below T0 (mkF m 6 #[.val (.int u0), .val (.int u1)] [(.int u0)]) _
    refine own_s_goto X0.here hx 10 (hb hby own_d1_6) (by decide) (by decide) ?_
    refine own_retI X0 hx hret hlk (hb hby own_d1_10) (by decide) (by decide) ?_
    exact ⟨by unfold own_f1; rw [if_neg hc2], N0, e0⟩
def own_f2 (u0 : Int64) (u1 : Int64) : Int64 := (if (u0 &&& (1 : Int64)) = (0 : Int64) then ((u0.toUInt64 >>> ((1 : Int32) &&& 0x3f).toInt64.toUInt64).toInt64) else (u1 + ((u0 >>> ((1 : Int32) &&& 0x3f).toInt64) % (2 : Int64))))
theorem own_d2_0 : decode method_3_code 0 = .ok (.lload_n 0, 1) := by decide +kernel
theorem own_d2_1 : decode method_3_code 1 = .ok (.lconst 1, 1) := by decide +kernel
theorem own_d2_2 : decode method_3_code 2 = .ok (.land, 1) := by decide +kernel
theorem own_d2_3 : decode method_3_code 3 = .ok (.lconst 0, 1) := by decide +kernel
theorem own_d2_4 : decode method_3_code 4 = .ok (.lcmp, 1) := by decide +kernel
theorem own_d2_5 : decode method_3_code 5 = .ok (.ifCond .ne 7, 3) := by decide +kernel
theorem own_d2_8 : decode method_3_code 8 = .ok (.lload_n 0, 1) := by decide +kernel
theorem own_d2_9 : decode method_3_code 9 = .ok (.iconst 1, 1) := by decide +kernel
theorem own_d2_10 : decode method_3_code 10 = .ok (.lushr, 1) := by decide +kernel
theorem own_d2_11 : decode method_3_code 11 = .ok (.lreturn, 1) := by decide +kernel
theorem own_d2_12 : decode method_3_code 12 = .ok (.lload_n 2, 1) := by decide +kernel
theorem own_d2_13 : decode method_3_code 13 = .ok (.lload_n 0, 1) := by decide +kernel
theorem own_d2_14 : decode method_3_code 14 = .ok (.iconst 1, 1) := by decide +kernel
theorem own_d2_15 : decode method_3_code 15 = .ok (.lshr, 1) := by decide +kernel
theorem own_d2_16 : decode method_3_code 16 = .ok (.ldc2_w 32, 3) := by decide +kernel
theorem own_d2_19 : decode method_3_code 19 = .ok (.lrem, 1) := by decide +kernel
theorem own_d2_20 : decode method_3_code 20 = .ok (.ladd, 1) := by decide +kernel
theorem own_d2_21 : decode method_3_code 21 = .ok (.lreturn, 1) := by decide +kernel
theorem own_pn_MarkingCodeFitsPinLaw : plainName "com/example/lapse/lapse/MarkingCodeFitsPinLaw" = true := by first | (simp [plainName, overriddenIn]; done) | decide +kernel
theorem own_ef2 (m : MethodId) (u0 : Int64) (u1 : Int64) : entryFrame m #[(.long u0), (.long u1)] 4 = mkF m 0 #[.val (.long u0), .second, .val (.long u1), .second] [] := by first | (simp [entryFrame, mkF, argsToLocals, Value.category]; done) | rfl
def own_q_own_r2 (Z : State) (u0 : Int64) (u1 : Int64) (h0 : Heap) (n0 : Nat) (v : Option Value) (h : Heap) (L : List Loc) : Prop := v = some (.long (own_f2 u0 u1)) ∧ Fr n0 L ∧ h = h0
set_option maxRecDepth 65536 in
set_option maxHeartbeats 40000000 in
theorem own_r2 (l : Launch) (Z : State) (a0 : Array Value) (hw : ∀ d ∈ tables_1, d.before a0 Z = true) (ws : List Jvm.Cond) (u0 : Int64) (u1 : Int64) (h0 : Heap) (n0 : Nat) (Z0 : n0 ≤ h0.size) :
    MetFree l (⟨"com/example/lapse/lapse/MarkingCodeFitsPinLaw", "draw", "(JJ)J"⟩ : MethodName) (head1 (Jvm.Cond.code (⟨"com/example/lapse/lapse/MarkingCodeFitsPinLaw", "draw", "(JJ)J"⟩ : MethodName) method_3_code 4 (some .long) :: ws) ({ frames := 0, cells := 0, slots := 0, locals := 0 } : Room)) (fun aq Uq => aq = #[(.long u0), (.long u1)] ∧ Z.Warmed39 Uq.vm ∧ Uq.heap = h0) (fun _ _ _ _ _ => True) (fun _ Uq oq Uq' => ∃ vq Lq, oq = .returned vq ∧ own_q_own_r2 Z u0 u1 h0 n0 vq Uq'.heap Lq ∧ FrameEnd Uq oq Uq' Lq ({ frames := 0, cells := 0, slots := 0, locals := 0 } : Room).cells ({ frames := 0, cells := 0, slots := 0, locals := 0 } : Room).slots) := by
  refine MetFree.of_bodySF (plainFor_of_name own_pn_MarkingCodeFitsPinLaw) hisR ?_
  intro p e s m args below meth c T0 Bd hml0 hP hK
  obtain ⟨rfl, hZ, hh⟩ := hP
  have hx := Bd.exec
  have hby := Bd.bytes
  have hml : c.maxLocals = 4 := hml0
  have hown : s.vm.findClass "com/example/lapse/lapse/MarkingCodeFitsPinLaw" = some m.cls := findClass_of_methodNamed Bd.named
  have hnm := (name_of_methodNamed Bd.named Bd.method).1
  have hret : meth.sig.returnType = (some .long) := Bd.returns
  have hlk : meth.locks = false := BodyLoose.notSynchronized Bd
  have X0 : Stand p l e ({ frames := 0, cells := 0, slots := 0, locals := 0 } : Room) s m #[(.long u0), (.long u1)] below meth c T0 [] 0 0 := Stand.of_body Bd
  have e0 : T0.heap = h0 := by rw [← hh, Bd.state]; rfl
  have N0 := Fr.nil n0
  refine own_start (own_ef2 m u0 u1) (Q := fun (v : Option Value) (h : Heap) (L : List Loc) => v = some (.long (own_f2 u0 u1)) ∧ Fr n0 L ∧ h = h0) (k := 0) (j := 0) ?_
  show own_Go p e below T0 (mkF m 0 #[.val (.long u0), .second, .val (.long u1), .second] []) _
  refine own_s_lloadN X0.here hx (hb hby own_d2_0) rfl ?_
  refine own_s_lconst X0.here hx (1 : Int64) (hb hby own_d2_1) rfl ?_
  refine own_s_land X0.here hx (hb hby own_d2_2) ?_
  refine own_s_lconst X0.here hx (0 : Int64) (hb hby own_d2_3) rfl ?_
  refine own_s_lcmp X0.here hx (hb hby own_d2_4) ?_
  by_cases hc5 : (u0 &&& (1 : Int64)) = (0 : Int64)
  ·
    refine own_s_ifNo X0.here hx (hb hby own_d2_5) (Jvm.Free.XT.ll_ne_f hc5) ?_
    refine own_s_lloadN X0.here hx (hb hby own_d2_8) rfl ?_
    refine own_s_iconst X0.here hx (1 : Int32) (hb hby own_d2_9) rfl ?_
    refine own_s_lushr X0.here hx (hb hby own_d2_10) ?_
    refine own_retJ X0 hx hret hlk (hb hby own_d2_11) (by decide) (by decide) ?_
    exact ⟨by unfold own_f2; rw [if_pos hc5], N0, e0⟩
  ·
    show own_Go p e below T0 (mkF m 5 #[.val (.long u0), .second, .val (.long u1), .second] [(.int (Jvm.Free.XT.cmpL (u0 &&& (1 : Int64)) (0 : Int64)))]) _
    refine own_s_ifYes X0.here hx 12 (hb hby own_d2_5) (Jvm.Free.XT.ll_ne_t hc5) (by decide) (by decide) ?_
    refine own_s_lloadN X0.here hx (hb hby own_d2_12) rfl ?_
    refine own_s_lloadN X0.here hx (hb hby own_d2_13) rfl ?_
    refine own_s_iconst X0.here hx (1 : Int32) (hb hby own_d2_14) rfl ?_
    refine own_s_lshr X0.here hx (hb hby own_d2_15) ?_
    refine own_by (fun tq_ kq_ => X0.ldc2Long hx hown (mvT hZ (hw _ (List.mem_of_getElem? (i := 9) rfl))) (g := (mkF m 16 #[.val (.long u0), .second, .val (.long u1), .second] [(.long (u0 >>> ((1 : Int32) &&& 0x3f).toInt64)), (.long u1)])) rfl (hb hby own_d2_16) tq_ kq_) ?_
    show own_Go p e below T0 (mkF m 19 #[.val (.long u0), .second, .val (.long u1), .second] [(.long (2 : Int64)), (.long (u0 >>> ((1 : Int32) &&& 0x3f).toInt64)), (.long u1)]) _
    refine own_by (fun tq_ kq_ => own_lrem X0 hx rfl (hb hby own_d2_19) rfl (by decide) kq_) ?_
    show own_Go p e below T0 (mkF m 20 #[.val (.long u0), .second, .val (.long u1), .second] [(.long ((u0 >>> ((1 : Int32) &&& 0x3f).toInt64) % (2 : Int64))), (.long u1)]) _
    refine own_s_ladd X0.here hx (hb hby own_d2_20) ?_
    refine own_retJ X0 hx hret hlk (hb hby own_d2_21) (by decide) (by decide) ?_
    exact ⟨by unfold own_f2; rw [if_neg hc5], N0, e0⟩
def own_z5 (x n : Int32) : Int32 := (n - ((x.toUInt32 >>> ((1 : Int32) &&& 31).toUInt32).toInt32))
theorem own_d10_0 : decode jdk_33_method_47_code 0 = .ok (.iload_n 0, 1) := by decide +kernel
theorem own_d10_1 : decode jdk_33_method_47_code 1 = .ok (.ifCond .gt 14, 3) := by decide +kernel
theorem own_d10_4 : decode jdk_33_method_47_code 4 = .ok (.iload_n 0, 1) := by decide +kernel
theorem own_d10_5 : decode jdk_33_method_47_code 5 = .ok (.ifCond .ne 8, 3) := by decide +kernel
theorem own_d10_8 : decode jdk_33_method_47_code 8 = .ok (.bipush 32, 2) := by decide +kernel
theorem own_d10_10 : decode jdk_33_method_47_code 10 = .ok (.goto 4, 3) := by decide +kernel
theorem own_d10_13 : decode jdk_33_method_47_code 13 = .ok (.iconst 0, 1) := by decide +kernel
theorem own_d10_14 : decode jdk_33_method_47_code 14 = .ok (.ireturn, 1) := by decide +kernel
theorem own_d10_15 : decode jdk_33_method_47_code 15 = .ok (.bipush 31, 2) := by decide +kernel
theorem own_d10_17 : decode jdk_33_method_47_code 17 = .ok (.istore_n 1, 1) := by decide +kernel
theorem own_d10_18 : decode jdk_33_method_47_code 18 = .ok (.iload_n 0, 1) := by decide +kernel
theorem own_d10_19 : decode jdk_33_method_47_code 19 = .ok (.ldc_w 264, 3) := by decide +kernel
theorem own_d10_22 : decode jdk_33_method_47_code 22 = .ok (.if_icmp .lt 11, 3) := by decide +kernel
theorem own_d10_25 : decode jdk_33_method_47_code 25 = .ok (.iinc 1 (-16), 3) := by decide +kernel
theorem own_d10_28 : decode jdk_33_method_47_code 28 = .ok (.iload_n 0, 1) := by decide +kernel
theorem own_d10_29 : decode jdk_33_method_47_code 29 = .ok (.bipush 16, 2) := by decide +kernel
theorem own_d10_31 : decode jdk_33_method_47_code 31 = .ok (.iushr, 1) := by decide +kernel
theorem own_d10_32 : decode jdk_33_method_47_code 32 = .ok (.istore_n 0, 1) := by decide +kernel
theorem own_d10_33 : decode jdk_33_method_47_code 33 = .ok (.iload_n 0, 1) := by decide +kernel
theorem own_d10_34 : decode jdk_33_method_47_code 34 = .ok (.sipush 256, 3) := by decide +kernel
theorem own_d10_37 : decode jdk_33_method_47_code 37 = .ok (.if_icmp .lt 11, 3) := by decide +kernel
theorem own_d10_40 : decode jdk_33_method_47_code 40 = .ok (.iinc 1 (-8), 3) := by decide +kernel
theorem own_d10_43 : decode jdk_33_method_47_code 43 = .ok (.iload_n 0, 1) := by decide +kernel
theorem own_d10_44 : decode jdk_33_method_47_code 44 = .ok (.bipush 8, 2) := by decide +kernel
theorem own_d10_46 : decode jdk_33_method_47_code 46 = .ok (.iushr, 1) := by decide +kernel
theorem own_d10_47 : decode jdk_33_method_47_code 47 = .ok (.istore_n 0, 1) := by decide +kernel
theorem own_d10_48 : decode jdk_33_method_47_code 48 = .ok (.iload_n 0, 1) := by decide +kernel
theorem own_d10_49 : decode jdk_33_method_47_code 49 = .ok (.bipush 16, 2) := by decide +kernel
theorem own_d10_51 : decode jdk_33_method_47_code 51 = .ok (.if_icmp .lt 10, 3) := by decide +kernel
theorem own_d10_54 : decode jdk_33_method_47_code 54 = .ok (.iinc 1 (-4), 3) := by decide +kernel
theorem own_d10_57 : decode jdk_33_method_47_code 57 = .ok (.iload_n 0, 1) := by decide +kernel
theorem own_d10_58 : decode jdk_33_method_47_code 58 = .ok (.iconst 4, 1) := by decide +kernel
theorem own_d10_59 : decode jdk_33_method_47_code 59 = .ok (.iushr, 1) := by decide +kernel
theorem own_d10_60 : decode jdk_33_method_47_code 60 = .ok (.istore_n 0, 1) := by decide +kernel
theorem own_d10_61 : decode jdk_33_method_47_code 61 = .ok (.iload_n 0, 1) := by decide +kernel
theorem own_d10_62 : decode jdk_33_method_47_code 62 = .ok (.iconst 4, 1) := by decide +kernel
theorem own_d10_63 : decode jdk_33_method_47_code 63 = .ok (.if_icmp .lt 10, 3) := by decide +kernel
theorem own_d10_66 : decode jdk_33_method_47_code 66 = .ok (.iinc 1 (-2), 3) := by decide +kernel
theorem own_d10_69 : decode jdk_33_method_47_code 69 = .ok (.iload_n 0, 1) := by decide +kernel
theorem own_d10_70 : decode jdk_33_method_47_code 70 = .ok (.iconst 2, 1) := by decide +kernel
theorem own_d10_71 : decode jdk_33_method_47_code 71 = .ok (.iushr, 1) := by decide +kernel
theorem own_d10_72 : decode jdk_33_method_47_code 72 = .ok (.istore_n 0, 1) := by decide +kernel
theorem own_d10_73 : decode jdk_33_method_47_code 73 = .ok (.iload_n 1, 1) := by decide +kernel
theorem own_d10_74 : decode jdk_33_method_47_code 74 = .ok (.iload_n 0, 1) := by decide +kernel
theorem own_d10_75 : decode jdk_33_method_47_code 75 = .ok (.iconst 1, 1) := by decide +kernel
theorem own_d10_76 : decode jdk_33_method_47_code 76 = .ok (.iushr, 1) := by decide +kernel
theorem own_d10_77 : decode jdk_33_method_47_code 77 = .ok (.isub, 1) := by decide +kernel
theorem own_d10_78 : decode jdk_33_method_47_code 78 = .ok (.ireturn, 1) := by decide +kernel
theorem own_pn_Integer : plainName "java/lang/Integer" = true := by first | (simp [plainName, overriddenIn]; done) | decide +kernel
set_option maxRecDepth 65536 in
set_option maxHeartbeats 40000000 in
theorem own_pz5 {p : Program} {l : Launch} {e : Env} {s : State} {m : MethodId} {args : Array Value} {below : List Frame} {meth : Method} {c : Code} {Z : State} {a0 : Array Value} {n0 : Nat} (hx : p.tables.exec = Jvm.exec) (hZ : Z.Warmed39 s.vm) (hw : ∀ d ∈ tables_1, d.before a0 Z = true) (hby : c.code = jdk_33_method_47_code) (hml : c.maxLocals = 2) (hown : s.vm.findClass "java/lang/Integer" = some m.cls) (hnm : meth.name = "numberOfLeadingZeros") (hret : meth.sig.returnType = (some .int)) (hlk : meth.locks = false) (x n : Int32) {T0 : State} {locs : List Loc} {h0 : Heap} (X0 : Stand p l e ({ frames := 0, cells := 0, slots := 0, locals := 0 } : Room) s m args below meth c T0 locs 0 0) (e0 : T0.heap = h0) (N0 : Fr n0 locs) (Z0 : n0 ≤ h0.size) :
    own_Go p e below T0 (mkF m 73 #[.val (.int x), .val (.int n)] []) (own_Fin s (fun (v : Option Value) (h : Heap) (L : List Loc) => v = some (.int (own_z5 x n)) ∧ Fr n0 L ∧ h = h0) 0 0) := by
  show own_Go p e below T0 (mkF m 73 #[.val (.int x), .val (.int n)] []) _
  refine own_s_iloadN X0.here hx (hb hby own_d10_73) rfl ?_
  refine own_s_iloadN X0.here hx (hb hby own_d10_74) rfl ?_
  refine own_s_iconst X0.here hx (1 : Int32) (hb hby own_d10_75) rfl ?_
  refine own_s_iushr X0.here hx (hb hby own_d10_76) ?_
  refine own_s_isub X0.here hx (hb hby own_d10_77) ?_
  refine own_retI X0 hx hret hlk (hb hby own_d10_78) (by decide) (by decide) ?_
  exact ⟨rfl, N0, e0⟩
def own_z4 (x n : Int32) : Int32 := (if x < (4 : Int32) then own_z5 x n else own_z5 ((x.toUInt32 >>> ((2 : Int32) &&& 31).toUInt32).toInt32) (n + (-2 : Int32)))
set_option maxRecDepth 65536 in
set_option maxHeartbeats 40000000 in
theorem own_pz4 {p : Program} {l : Launch} {e : Env} {s : State} {m : MethodId} {args : Array Value} {below : List Frame} {meth : Method} {c : Code} {Z : State} {a0 : Array Value} {n0 : Nat} (hx : p.tables.exec = Jvm.exec) (hZ : Z.Warmed39 s.vm) (hw : ∀ d ∈ tables_1, d.before a0 Z = true) (hby : c.code = jdk_33_method_47_code) (hml : c.maxLocals = 2) (hown : s.vm.findClass "java/lang/Integer" = some m.cls) (hnm : meth.name = "numberOfLeadingZeros") (hret : meth.sig.returnType = (some .int)) (hlk : meth.locks = false) (x n : Int32) {T0 : State} {locs : List Loc} {h0 : Heap} (X0 : Stand p l e ({ frames := 0, cells := 0, slots := 0, locals := 0 } : Room) s m args below meth c T0 locs 0 0) (e0 : T0.heap = h0) (N0 : Fr n0 locs) (Z0 : n0 ≤ h0.size) :
    own_Go p e below T0 (mkF m 61 #[.val (.int x), .val (.int n)] []) (own_Fin s (fun (v : Option Value) (h : Heap) (L : List Loc) => v = some (.int (own_z4 x n)) ∧ Fr n0 L ∧ h = h0) 0 0) := by
  show own_Go p e below T0 (mkF m 61 #[.val (.int x), .val (.int n)] []) _
  refine own_s_iloadN X0.here hx (hb hby own_d10_61) rfl ?_
  refine own_s_iconst X0.here hx (4 : Int32) (hb hby own_d10_62) rfl ?_
  by_cases hc63 : x < (4 : Int32)
  ·
    show own_Go p e below T0 (mkF m 63 #[.val (.int x), .val (.int n)] [(.int (4 : Int32)), (.int x)]) _
    refine own_s_icmpYes X0.here hx 73 (hb hby own_d10_63) (Jvm.Free.XT.ii_lt_t hc63) (by decide) (by decide) ?_
    have own_e : own_z4 x n = own_z5 x n := by unfold own_z4; rw [if_pos hc63]
    rw [own_e]
    exact own_pz5 hx hZ hw hby hml hown hnm hret hlk  x n X0 e0 N0 Z0 
  ·
    refine own_s_icmpNo X0.here hx (hb hby own_d10_63) (Jvm.Free.XT.ii_lt_f hc63) ?_
    refine own_by (fun tq_ kq_ => XS.iinc X0.here hx rfl (hb hby own_d10_66) rfl (l' := #[.val (.int x), .val (.int (n + (-2 : Int32)))]) rfl kq_) ?_
    show own_Go p e below T0 (mkF m 69 #[.val (.int x), .val (.int (n + (-2 : Int32)))] []) _
    refine own_s_iloadN X0.here hx (hb hby own_d10_69) rfl ?_
    refine own_s_iconst X0.here hx (2 : Int32) (hb hby own_d10_70) rfl ?_
    refine own_s_iushr X0.here hx (hb hby own_d10_71) ?_
    refine own_s_istoreN X0.here hx #[.val (.int ((x.toUInt32 >>> ((2 : Int32) &&& 31).toUInt32).toInt32)), .val (.int (n + (-2 : Int32)))] (hb hby own_d10_72) rfl ?_
    have own_e : own_z4 x n = own_z5 ((x.toUInt32 >>> ((2 : Int32) &&& 31).toUInt32).toInt32) (n + (-2 : Int32)) := by unfold own_z4; rw [if_neg hc63]
    rw [own_e]
    exact own_pz5 hx hZ hw hby hml hown hnm hret hlk  ((x.toUInt32 >>> ((2 : Int32) &&& 31).toUInt32).toInt32) (n + (-2 : Int32)) X0 e0 N0 Z0 
def own_z3 (x n : Int32) : Int32 := (if x < (16 : Int32) then own_z4 x n else own_z4 ((x.toUInt32 >>> ((4 : Int32) &&& 31).toUInt32).toInt32) (n + (-4 : Int32)))
set_option maxRecDepth 65536 in
set_option maxHeartbeats 40000000 in
theorem own_pz3 {p : Program} {l : Launch} {e : Env} {s : State} {m : MethodId} {args : Array Value} {below : List Frame} {meth : Method} {c : Code} {Z : State} {a0 : Array Value} {n0 : Nat} (hx : p.tables.exec = Jvm.exec) (hZ : Z.Warmed39 s.vm) (hw : ∀ d ∈ tables_1, d.before a0 Z = true) (hby : c.code = jdk_33_method_47_code) (hml : c.maxLocals = 2) (hown : s.vm.findClass "java/lang/Integer" = some m.cls) (hnm : meth.name = "numberOfLeadingZeros") (hret : meth.sig.returnType = (some .int)) (hlk : meth.locks = false) (x n : Int32) {T0 : State} {locs : List Loc} {h0 : Heap} (X0 : Stand p l e ({ frames := 0, cells := 0, slots := 0, locals := 0 } : Room) s m args below meth c T0 locs 0 0) (e0 : T0.heap = h0) (N0 : Fr n0 locs) (Z0 : n0 ≤ h0.size) :
    own_Go p e below T0 (mkF m 48 #[.val (.int x), .val (.int n)] []) (own_Fin s (fun (v : Option Value) (h : Heap) (L : List Loc) => v = some (.int (own_z3 x n)) ∧ Fr n0 L ∧ h = h0) 0 0) := by
  show own_Go p e below T0 (mkF m 48 #[.val (.int x), .val (.int n)] []) _
  refine own_s_iloadN X0.here hx (hb hby own_d10_48) rfl ?_
  refine own_s_bipush X0.here hx (16 : Int32) (hb hby own_d10_49) rfl ?_
  by_cases hc51 : x < (16 : Int32)
  ·
    show own_Go p e below T0 (mkF m 51 #[.val (.int x), .val (.int n)] [(.int (16 : Int32)), (.int x)]) _
    refine own_s_icmpYes X0.here hx 61 (hb hby own_d10_51) (Jvm.Free.XT.ii_lt_t hc51) (by decide) (by decide) ?_
    have own_e : own_z3 x n = own_z4 x n := by unfold own_z3; rw [if_pos hc51]
    rw [own_e]
    exact own_pz4 hx hZ hw hby hml hown hnm hret hlk  x n X0 e0 N0 Z0 
  ·
    refine own_s_icmpNo X0.here hx (hb hby own_d10_51) (Jvm.Free.XT.ii_lt_f hc51) ?_
    refine own_by (fun tq_ kq_ => XS.iinc X0.here hx rfl (hb hby own_d10_54) rfl (l' := #[.val (.int x), .val (.int (n + (-4 : Int32)))]) rfl kq_) ?_
    show own_Go p e below T0 (mkF m 57 #[.val (.int x), .val (.int (n + (-4 : Int32)))] []) _
    refine own_s_iloadN X0.here hx (hb hby own_d10_57) rfl ?_
    refine own_s_iconst X0.here hx (4 : Int32) (hb hby own_d10_58) rfl ?_
    refine own_s_iushr X0.here hx (hb hby own_d10_59) ?_
    refine own_s_istoreN X0.here hx #[.val (.int ((x.toUInt32 >>> ((4 : Int32) &&& 31).toUInt32).toInt32)), .val (.int (n + (-4 : Int32)))] (hb hby own_d10_60) rfl ?_
    have own_e : own_z3 x n = own_z4 ((x.toUInt32 >>> ((4 : Int32) &&& 31).toUInt32).toInt32) (n + (-4 : Int32)) := by unfold own_z3; rw [if_neg hc51]
    rw [own_e]
    exact own_pz4 hx hZ hw hby hml hown hnm hret hlk  ((x.toUInt32 >>> ((4 : Int32) &&& 31).toUInt32).toInt32) (n + (-4 : Int32)) X0 e0 N0 Z0 
def own_z2 (x n : Int32) : Int32 := (if x < (256 : Int32) then own_z3 x n else own_z3 ((x.toUInt32 >>> ((8 : Int32) &&& 31).toUInt32).toInt32) (n + (-8 : Int32)))
set_option maxRecDepth 65536 in
set_option maxHeartbeats 40000000 in
theorem own_pz2 {p : Program} {l : Launch} {e : Env} {s : State} {m : MethodId} {args : Array Value} {below : List Frame} {meth : Method} {c : Code} {Z : State} {a0 : Array Value} {n0 : Nat} (hx : p.tables.exec = Jvm.exec) (hZ : Z.Warmed39 s.vm) (hw : ∀ d ∈ tables_1, d.before a0 Z = true) (hby : c.code = jdk_33_method_47_code) (hml : c.maxLocals = 2) (hown : s.vm.findClass "java/lang/Integer" = some m.cls) (hnm : meth.name = "numberOfLeadingZeros") (hret : meth.sig.returnType = (some .int)) (hlk : meth.locks = false) (x n : Int32) {T0 : State} {locs : List Loc} {h0 : Heap} (X0 : Stand p l e ({ frames := 0, cells := 0, slots := 0, locals := 0 } : Room) s m args below meth c T0 locs 0 0) (e0 : T0.heap = h0) (N0 : Fr n0 locs) (Z0 : n0 ≤ h0.size) :
    own_Go p e below T0 (mkF m 33 #[.val (.int x), .val (.int n)] []) (own_Fin s (fun (v : Option Value) (h : Heap) (L : List Loc) => v = some (.int (own_z2 x n)) ∧ Fr n0 L ∧ h = h0) 0 0) := by
  show own_Go p e below T0 (mkF m 33 #[.val (.int x), .val (.int n)] []) _
  refine own_s_iloadN X0.here hx (hb hby own_d10_33) rfl ?_
  refine own_s_sipush X0.here hx (256 : Int32) (hb hby own_d10_34) rfl ?_
  by_cases hc37 : x < (256 : Int32)
  ·
    show own_Go p e below T0 (mkF m 37 #[.val (.int x), .val (.int n)] [(.int (256 : Int32)), (.int x)]) _
    refine own_s_icmpYes X0.here hx 48 (hb hby own_d10_37) (Jvm.Free.XT.ii_lt_t hc37) (by decide) (by decide) ?_
    have own_e : own_z2 x n = own_z3 x n := by unfold own_z2; rw [if_pos hc37]
    rw [own_e]
    exact own_pz3 hx hZ hw hby hml hown hnm hret hlk  x n X0 e0 N0 Z0 
  ·
    refine own_s_icmpNo X0.here hx (hb hby own_d10_37) (Jvm.Free.XT.ii_lt_f hc37) ?_
    refine own_by (fun tq_ kq_ => XS.iinc X0.here hx rfl (hb hby own_d10_40) rfl (l' := #[.val (.int x), .val (.int (n + (-8 : Int32)))]) rfl kq_) ?_
    show own_Go p e below T0 (mkF m 43 #[.val (.int x), .val (.int (n + (-8 : Int32)))] []) _
    refine own_s_iloadN X0.here hx (hb hby own_d10_43) rfl ?_
    refine own_s_bipush X0.here hx (8 : Int32) (hb hby own_d10_44) rfl ?_
    refine own_s_iushr X0.here hx (hb hby own_d10_46) ?_
    refine own_s_istoreN X0.here hx #[.val (.int ((x.toUInt32 >>> ((8 : Int32) &&& 31).toUInt32).toInt32)), .val (.int (n + (-8 : Int32)))] (hb hby own_d10_47) rfl ?_
    have own_e : own_z2 x n = own_z3 ((x.toUInt32 >>> ((8 : Int32) &&& 31).toUInt32).toInt32) (n + (-8 : Int32)) := by unfold own_z2; rw [if_neg hc37]
    rw [own_e]
    exact own_pz3 hx hZ hw hby hml hown hnm hret hlk  ((x.toUInt32 >>> ((8 : Int32) &&& 31).toUInt32).toInt32) (n + (-8 : Int32)) X0 e0 N0 Z0 
def own_z1 (x n : Int32) : Int32 := (if x < (65536 : Int32) then own_z2 x n else own_z2 ((x.toUInt32 >>> ((16 : Int32) &&& 31).toUInt32).toInt32) (n + (-16 : Int32)))
set_option maxRecDepth 65536 in
set_option maxHeartbeats 40000000 in
theorem own_pz1 {p : Program} {l : Launch} {e : Env} {s : State} {m : MethodId} {args : Array Value} {below : List Frame} {meth : Method} {c : Code} {Z : State} {a0 : Array Value} {n0 : Nat} (hx : p.tables.exec = Jvm.exec) (hZ : Z.Warmed39 s.vm) (hw : ∀ d ∈ tables_1, d.before a0 Z = true) (hby : c.code = jdk_33_method_47_code) (hml : c.maxLocals = 2) (hown : s.vm.findClass "java/lang/Integer" = some m.cls) (hnm : meth.name = "numberOfLeadingZeros") (hret : meth.sig.returnType = (some .int)) (hlk : meth.locks = false) (x n : Int32) {T0 : State} {locs : List Loc} {h0 : Heap} (X0 : Stand p l e ({ frames := 0, cells := 0, slots := 0, locals := 0 } : Room) s m args below meth c T0 locs 0 0) (e0 : T0.heap = h0) (N0 : Fr n0 locs) (Z0 : n0 ≤ h0.size) :
    own_Go p e below T0 (mkF m 18 #[.val (.int x), .val (.int n)] []) (own_Fin s (fun (v : Option Value) (h : Heap) (L : List Loc) => v = some (.int (own_z1 x n)) ∧ Fr n0 L ∧ h = h0) 0 0) := by
  show own_Go p e below T0 (mkF m 18 #[.val (.int x), .val (.int n)] []) _
  refine own_s_iloadN X0.here hx (hb hby own_d10_18) rfl ?_
  refine own_by (fun tq_ kq_ => X0.ldcwInt hx hown (mvT hZ (hw _ (List.mem_of_getElem? (i := 53) rfl))) (g := (mkF m 19 #[.val (.int x), .val (.int n)] [(.int x)])) rfl (hb hby own_d10_19) tq_ kq_) ?_
  show own_Go p e below T0 (mkF m 22 #[.val (.int x), .val (.int n)] [(.int (65536 : Int32)), (.int x)]) _
  by_cases hc22 : x < (65536 : Int32)
  ·
    refine own_s_icmpYes X0.here hx 33 (hb hby own_d10_22) (Jvm.Free.XT.ii_lt_t hc22) (by decide) (by decide) ?_
    have own_e : own_z1 x n = own_z2 x n := by unfold own_z1; rw [if_pos hc22]
    rw [own_e]
    exact own_pz2 hx hZ hw hby hml hown hnm hret hlk  x n X0 e0 N0 Z0 
  ·
    refine own_s_icmpNo X0.here hx (hb hby own_d10_22) (Jvm.Free.XT.ii_lt_f hc22) ?_
    refine own_by (fun tq_ kq_ => XS.iinc X0.here hx rfl (hb hby own_d10_25) rfl (l' := #[.val (.int x), .val (.int (n + (-16 : Int32)))]) rfl kq_) ?_
    show own_Go p e below T0 (mkF m 28 #[.val (.int x), .val (.int (n + (-16 : Int32)))] []) _
    refine own_s_iloadN X0.here hx (hb hby own_d10_28) rfl ?_
    refine own_s_bipush X0.here hx (16 : Int32) (hb hby own_d10_29) rfl ?_
    refine own_s_iushr X0.here hx (hb hby own_d10_31) ?_
    refine own_s_istoreN X0.here hx #[.val (.int ((x.toUInt32 >>> ((16 : Int32) &&& 31).toUInt32).toInt32)), .val (.int (n + (-16 : Int32)))] (hb hby own_d10_32) rfl ?_
    have own_e : own_z1 x n = own_z2 ((x.toUInt32 >>> ((16 : Int32) &&& 31).toUInt32).toInt32) (n + (-16 : Int32)) := by unfold own_z1; rw [if_neg hc22]
    rw [own_e]
    exact own_pz2 hx hZ hw hby hml hown hnm hret hlk  ((x.toUInt32 >>> ((16 : Int32) &&& 31).toUInt32).toInt32) (n + (-16 : Int32)) X0 e0 N0 Z0 
def own_f10 (x : Int32) : Int32 := (if 0 < x then own_z1 x (31 : Int32) else (if x = 0 then (32 : Int32) else (0 : Int32)))
theorem own_ef10 (m : MethodId) (x_ : Int32) : entryFrame m #[(.int x_)] 2 = mkF m 0 #[.val (.int x_), .unset] [] := by first | (simp [entryFrame, mkF, argsToLocals, Value.category]; done) | rfl
def own_q_own_r10 (Z : State) (x_ : Int32) (h0 : Heap) (n0 : Nat) (v : Option Value) (h : Heap) (L : List Loc) : Prop := v = some (.int (own_f10 x_)) ∧ Fr n0 L ∧ h = h0
set_option maxRecDepth 65536 in
set_option maxHeartbeats 40000000 in
theorem own_r10 (l : Launch) (Z : State) (a0 : Array Value) (hw : ∀ d ∈ tables_1, d.before a0 Z = true) (ws : List Jvm.Cond) (x_ : Int32) (h0 : Heap) (n0 : Nat) (Z0 : n0 ≤ h0.size) :
    MetFree l (⟨"java/lang/Integer", "numberOfLeadingZeros", "(I)I"⟩ : MethodName) (head1 (Jvm.Cond.code (⟨"java/lang/Integer", "numberOfLeadingZeros", "(I)I"⟩ : MethodName) jdk_33_method_47_code 2 (some .int) :: ws) ({ frames := 0, cells := 0, slots := 0, locals := 0 } : Room)) (fun aq Uq => aq = #[(.int x_)] ∧ Z.Warmed39 Uq.vm ∧ Uq.heap = h0) (fun _ _ _ _ _ => True) (fun _ Uq oq Uq' => ∃ vq Lq, oq = .returned vq ∧ own_q_own_r10 Z x_ h0 n0 vq Uq'.heap Lq ∧ FrameEnd Uq oq Uq' Lq ({ frames := 0, cells := 0, slots := 0, locals := 0 } : Room).cells ({ frames := 0, cells := 0, slots := 0, locals := 0 } : Room).slots) := by
  refine MetFree.of_bodySF (plainFor_of_name own_pn_Integer) hisR ?_
  intro p e s m args below meth c T0 Bd hml0 hP hK
  obtain ⟨rfl, hZ, hh⟩ := hP
  have hx := Bd.exec
  have hby := Bd.bytes
  have hml : c.maxLocals = 2 := hml0
  have hown : s.vm.findClass "java/lang/Integer" = some m.cls := findClass_of_methodNamed Bd.named
  have hnm := (name_of_methodNamed Bd.named Bd.method).1
  have hret : meth.sig.returnType = (some .int) := Bd.returns
  have hlk : meth.locks = false := BodyLoose.notSynchronized Bd
  have X0 : Stand p l e ({ frames := 0, cells := 0, slots := 0, locals := 0 } : Room) s m #[(.int x_)] below meth c T0 [] 0 0 := Stand.of_body Bd
  have e0 : T0.heap = h0 := by rw [← hh, Bd.state]; rfl
  have N0 := Fr.nil n0
  refine own_start (own_ef10 m x_) (Q := fun (v : Option Value) (h : Heap) (L : List Loc) => v = some (.int (own_f10 x_)) ∧ Fr n0 L ∧ h = h0) (k := 0) (j := 0) ?_
  show own_Go p e below T0 (mkF m 0 #[.val (.int x_), .unset] []) _
  refine own_s_iloadN X0.here hx (hb hby own_d10_0) rfl ?_
  by_cases hc1 : 0 < x_
  ·
    show own_Go p e below T0 (mkF m 1 #[.val (.int x_), .unset] [(.int x_)]) _
    refine own_s_ifYes X0.here hx 15 (hb hby own_d10_1) (Jvm.Free.XT.i0_gt_t hc1) (by decide) (by decide) ?_
    refine own_s_bipush X0.here hx (31 : Int32) (hb hby own_d10_15) rfl ?_
    refine own_s_istoreN X0.here hx #[.val (.int x_), .val (.int (31 : Int32))] (hb hby own_d10_17) rfl ?_
    have own_e : own_f10 x_ = own_z1 x_ (31 : Int32) := by unfold own_f10; rw [if_pos hc1]
    rw [own_e]
    exact own_pz1 hx hZ hw hby hml hown hnm hret hlk  x_ (31 : Int32) X0 e0 N0 Z0 
  ·
    refine own_s_ifNo X0.here hx (hb hby own_d10_1) (Jvm.Free.XT.i0_gt_f hc1) ?_
    refine own_s_iloadN X0.here hx (hb hby own_d10_4) rfl ?_
    by_cases hc5 : x_ = 0
    ·
      refine own_s_ifNo X0.here hx (hb hby own_d10_5) (Jvm.Free.XT.i0_ne_f hc5) ?_
      refine own_s_bipush X0.here hx (32 : Int32) (hb hby own_d10_8) rfl ?_
      show own_Go p e below T0 (mkF m 10 #[.val (.int x_), .unset] [(.int (32 : Int32))]) _
      refine own_s_goto X0.here hx 14 (hb hby own_d10_10) (by decide) (by decide) ?_
      refine own_retI X0 hx hret hlk (hb hby own_d10_14) (by decide) (by decide) ?_
      exact ⟨by unfold own_f10; rw [if_neg hc1, if_pos hc5], N0, e0⟩
    ·
      show own_Go p e below T0 (mkF m 5 #[.val (.int x_), .unset] [(.int x_)]) _
      refine own_s_ifYes X0.here hx 13 (hb hby own_d10_5) (Jvm.Free.XT.i0_ne_t hc5) (by decide) (by decide) ?_
      refine own_s_iconst X0.here hx (0 : Int32) (hb hby own_d10_13) rfl ?_
      refine own_retI X0 hx hret hlk (hb hby own_d10_14) (by decide) (by decide) ?_
      exact ⟨by unfold own_f10; rw [if_neg hc1, if_neg hc5], N0, e0⟩
def own_f11 (u0 : Int64) : Int32 := (if (((u0.toUInt64 >>> ((32 : Int32) &&& 0x3f).toInt64.toUInt64).toInt64).toInt32) = 0 then ((32 : Int32) + (own_f10 (u0.toInt32))) else (own_f10 (((u0.toUInt64 >>> ((32 : Int32) &&& 0x3f).toInt64.toUInt64).toInt64).toInt32)))
theorem own_d11_0 : decode jdk_35_method_48_code 0 = .ok (.lload_n 0, 1) := by decide +kernel
theorem own_d11_1 : decode jdk_35_method_48_code 1 = .ok (.bipush 32, 2) := by decide +kernel
theorem own_d11_3 : decode jdk_35_method_48_code 3 = .ok (.lushr, 1) := by decide +kernel
theorem own_d11_4 : decode jdk_35_method_48_code 4 = .ok (.l2i, 1) := by decide +kernel
theorem own_d11_5 : decode jdk_35_method_48_code 5 = .ok (.istore_n 2, 1) := by decide +kernel
theorem own_d11_6 : decode jdk_35_method_48_code 6 = .ok (.iload_n 2, 1) := by decide +kernel
theorem own_d11_7 : decode jdk_35_method_48_code 7 = .ok (.ifCond .ne 14, 3) := by decide +kernel
theorem own_d11_10 : decode jdk_35_method_48_code 10 = .ok (.bipush 32, 2) := by decide +kernel
theorem own_d11_12 : decode jdk_35_method_48_code 12 = .ok (.lload_n 0, 1) := by decide +kernel
theorem own_d11_13 : decode jdk_35_method_48_code 13 = .ok (.l2i, 1) := by decide +kernel
theorem own_d11_14 : decode jdk_35_method_48_code 14 = .ok (.invokestatic 308, 3) := by decide +kernel
theorem own_d11_17 : decode jdk_35_method_48_code 17 = .ok (.iadd, 1) := by decide +kernel
theorem own_d11_18 : decode jdk_35_method_48_code 18 = .ok (.goto 7, 3) := by decide +kernel
theorem own_d11_21 : decode jdk_35_method_48_code 21 = .ok (.iload_n 2, 1) := by decide +kernel
theorem own_d11_22 : decode jdk_35_method_48_code 22 = .ok (.invokestatic 308, 3) := by decide +kernel
theorem own_d11_25 : decode jdk_35_method_48_code 25 = .ok (.ireturn, 1) := by decide +kernel
theorem own_pn_Long : plainName "java/lang/Long" = true := by first | (simp [plainName, overriddenIn]; done) | decide +kernel
theorem own_ef11 (m : MethodId) (u0 : Int64) : entryFrame m #[(.long u0)] 3 = mkF m 0 #[.val (.long u0), .second, .unset] [] := by first | (simp [entryFrame, mkF, argsToLocals, Value.category]; done) | rfl
theorem own_pd_9 : parseMethodDescriptor "(I)I" = some ⟨[.int], some .int⟩ := by decide +kernel
def own_q_own_r11 (Z : State) (u0 : Int64) (h0 : Heap) (n0 : Nat) (v : Option Value) (h : Heap) (L : List Loc) : Prop := v = some (.int (own_f11 u0)) ∧ Fr n0 L ∧ h = h0
set_option maxRecDepth 65536 in
set_option maxHeartbeats 40000000 in
theorem own_r11 (l : Launch) (Z : State) (a0 : Array Value) (hw : ∀ d ∈ tables_1, d.before a0 Z = true) (ws : List Jvm.Cond) (u0 : Int64) (h0 : Heap) (n0 : Nat) (Z0 : n0 ≤ h0.size) :
    MetFree l (⟨"java/lang/Long", "numberOfLeadingZeros", "(J)I"⟩ : MethodName) (head1 (Jvm.Cond.code (⟨"java/lang/Long", "numberOfLeadingZeros", "(J)I"⟩ : MethodName) jdk_35_method_48_code 3 (some .int) :: ws) ({ frames := 1, cells := 0, slots := 0, locals := 14 } : Room)) (fun aq Uq => aq = #[(.long u0)] ∧ Z.Warmed39 Uq.vm ∧ Uq.heap = h0) (fun _ _ _ _ _ => True) (fun _ Uq oq Uq' => ∃ vq Lq, oq = .returned vq ∧ own_q_own_r11 Z u0 h0 n0 vq Uq'.heap Lq ∧ FrameEnd Uq oq Uq' Lq ({ frames := 1, cells := 0, slots := 0, locals := 14 } : Room).cells ({ frames := 1, cells := 0, slots := 0, locals := 14 } : Room).slots) := by
  refine MetFree.of_bodySF (plainFor_of_name own_pn_Long) hisR ?_
  intro p e s m args below meth c T0 Bd hml0 hP hK
  obtain ⟨rfl, hZ, hh⟩ := hP
  have hx := Bd.exec
  have hby := Bd.bytes
  have hml : c.maxLocals = 3 := hml0
  have hown : s.vm.findClass "java/lang/Long" = some m.cls := findClass_of_methodNamed Bd.named
  have hnm := (name_of_methodNamed Bd.named Bd.method).1
  have hret : meth.sig.returnType = (some .int) := Bd.returns
  have hlk : meth.locks = false := BodyLoose.notSynchronized Bd
  have X0 : Stand p l e ({ frames := 1, cells := 0, slots := 0, locals := 14 } : Room) s m #[(.long u0)] below meth c T0 [] 0 0 := Stand.of_body Bd
  have e0 : T0.heap = h0 := by rw [← hh, Bd.state]; rfl
  have N0 := Fr.nil n0
  refine own_start (own_ef11 m u0) (Q := fun (v : Option Value) (h : Heap) (L : List Loc) => v = some (.int (own_f11 u0)) ∧ Fr n0 L ∧ h = h0) (k := 0) (j := 0) ?_
  show own_Go p e below T0 (mkF m 0 #[.val (.long u0), .second, .unset] []) _
  refine own_s_lloadN X0.here hx (hb hby own_d11_0) rfl ?_
  refine own_s_bipush X0.here hx (32 : Int32) (hb hby own_d11_1) rfl ?_
  refine own_s_lushr X0.here hx (hb hby own_d11_3) ?_
  refine own_s_l2i X0.here hx (hb hby own_d11_4) ?_
  refine own_s_istoreN X0.here hx #[.val (.long u0), .second, .val (.int (((u0.toUInt64 >>> ((32 : Int32) &&& 0x3f).toInt64.toUInt64).toInt64).toInt32))] (hb hby own_d11_5) rfl ?_
  refine own_s_iloadN X0.here hx (hb hby own_d11_6) rfl ?_
  by_cases hc7 : (((u0.toUInt64 >>> ((32 : Int32) &&& 0x3f).toInt64.toUInt64).toInt64).toInt32) = 0
  ·
    refine own_s_ifNo X0.here hx (hb hby own_d11_7) (Jvm.Free.XT.i0_ne_f hc7) ?_
    refine own_s_bipush X0.here hx (32 : Int32) (hb hby own_d11_10) rfl ?_
    refine own_s_lloadN X0.here hx (hb hby own_d11_12) rfl ?_
    refine own_s_l2i X0.here hx (hb hby own_d11_13) ?_
    obtain ⟨_, _, ⟨T1, L1, k1, n1⟩, -, X1, ⟨Lc1, hQ1, l1, y1, z1⟩, st1⟩ := Jvm.LawKit.callS X0 hx (y := (⟨"java/lang/Integer", "numberOfLeadingZeros", "(I)I"⟩ : MethodName)) hown (mvT hZ (hw _ (List.mem_of_getElem? (i := 58) rfl))) (mvT hZ (hw _ (List.mem_of_getElem? (i := 50) rfl))) (mvT hZ (hw _ (List.mem_of_getElem? (i := 51) rfl))) (mvT hZ (hw _ (List.mem_of_getElem? (i := 52) rfl))) (by decide) (backOf (W := 1) (own_r10 l Z a0 hw [] (u0.toInt32)  h0 n0 Z0 ) hZ (hw _ (List.mem_of_getElem? (i := 52) rfl)) (hw _ (List.mem_of_getElem? (i := 51) rfl)) (by decide) (by decide)) (g := (mkF m 14 #[.val (.long u0), .second, .val (.int (((u0.toUInt64 >>> ((32 : Int32) &&& 0x3f).toInt64.toUInt64).toInt64).toInt32))] [(.int (u0.toInt32)), (.int (32 : Int32))])) rfl (by rw [hml]; rfl) (argsL := [(.int (u0.toInt32))]) (rest := [(.int (32 : Int32))]) (lenOf own_pd_9 rfl) rfl (by show 2 * 0 + _ ≤ _; exact Nat.le_of_eq rfl) (hb hby own_d11_14) (fun _ _ => ⟨rfl, e0, (by decide : 0 + 0 ≤ _), (by decide : 0 + 0 ≤ _)⟩)
    dsimp only [Pt.U, Pt.locs, Pt.cells, Pt.slots] at X1 l1 y1 z1 st1 hQ1
    subst l1 y1 z1
    obtain ⟨rfl, N1q, e1⟩ := hQ1
    have N1 := Fr.app N0 N1q
    refine own_by st1 ?_
    show own_Go p e below T1 (mkF m 17 #[.val (.long u0), .second, .val (.int (((u0.toUInt64 >>> ((32 : Int32) &&& 0x3f).toInt64.toUInt64).toInt64).toInt32))] [(.int (own_f10 (u0.toInt32))), (.int (32 : Int32))]) _
    refine own_s_iadd X1.here hx (hb hby own_d11_17) ?_
    show own_Go p e below T1 (mkF m 18 #[.val (.long u0), .second, .val (.int (((u0.toUInt64 >>> ((32 : Int32) &&& 0x3f).toInt64.toUInt64).toInt64).toInt32))] [(.int ((32 : Int32) + (own_f10 (u0.toInt32))))]) _
    refine own_s_goto X1.here hx 25 (hb hby own_d11_18) (by decide) (by decide) ?_
    refine own_retI X1 hx hret hlk (hb hby own_d11_25) (by decide) (by decide) ?_
    exact ⟨by unfold own_f11; rw [if_pos hc7], N1, e1⟩
  ·
    show own_Go p e below T0 (mkF m 7 #[.val (.long u0), .second, .val (.int (((u0.toUInt64 >>> ((32 : Int32) &&& 0x3f).toInt64.toUInt64).toInt64).toInt32))] [(.int (((u0.toUInt64 >>> ((32 : Int32) &&& 0x3f).toInt64.toUInt64).toInt64).toInt32))]) _
    refine own_s_ifYes X0.here hx 21 (hb hby own_d11_7) (Jvm.Free.XT.i0_ne_t hc7) (by decide) (by decide) ?_
    refine own_s_iloadN X0.here hx (hb hby own_d11_21) rfl ?_
    obtain ⟨_, _, ⟨T2, L2, k2, n2⟩, -, X2, ⟨Lc2, hQ2, l2, y2, z2⟩, st2⟩ := Jvm.LawKit.callS X0 hx (y := (⟨"java/lang/Integer", "numberOfLeadingZeros", "(I)I"⟩ : MethodName)) hown (mvT hZ (hw _ (List.mem_of_getElem? (i := 58) rfl))) (mvT hZ (hw _ (List.mem_of_getElem? (i := 50) rfl))) (mvT hZ (hw _ (List.mem_of_getElem? (i := 51) rfl))) (mvT hZ (hw _ (List.mem_of_getElem? (i := 52) rfl))) (by decide) (backOf (W := 0) (own_r10 l Z a0 hw [] (((u0.toUInt64 >>> ((32 : Int32) &&& 0x3f).toInt64.toUInt64).toInt64).toInt32)  h0 n0 Z0 ) hZ (hw _ (List.mem_of_getElem? (i := 52) rfl)) (hw _ (List.mem_of_getElem? (i := 51) rfl)) (by decide) (by decide)) (g := (mkF m 22 #[.val (.long u0), .second, .val (.int (((u0.toUInt64 >>> ((32 : Int32) &&& 0x3f).toInt64.toUInt64).toInt64).toInt32))] [(.int (((u0.toUInt64 >>> ((32 : Int32) &&& 0x3f).toInt64.toUInt64).toInt64).toInt32))])) rfl (by rw [hml]; rfl) (argsL := [(.int (((u0.toUInt64 >>> ((32 : Int32) &&& 0x3f).toInt64.toUInt64).toInt64).toInt32))]) (rest := []) (lenOf own_pd_9 rfl) rfl (by show 2 * 0 + _ ≤ _; exact Nat.le_of_eq rfl) (hb hby own_d11_22) (fun _ _ => ⟨rfl, e0, (by decide : 0 + 0 ≤ _), (by decide : 0 + 0 ≤ _)⟩)
    dsimp only [Pt.U, Pt.locs, Pt.cells, Pt.slots] at X2 l2 y2 z2 st2 hQ2
    subst l2 y2 z2
    obtain ⟨rfl, N2q, e2⟩ := hQ2
    have N2 := Fr.app N0 N2q
    refine own_by st2 ?_
    show own_Go p e below T2 (mkF m 25 #[.val (.long u0), .second, .val (.int (((u0.toUInt64 >>> ((32 : Int32) &&& 0x3f).toInt64.toUInt64).toInt64).toInt32))] [(.int (own_f10 (((u0.toUInt64 >>> ((32 : Int32) &&& 0x3f).toInt64.toUInt64).toInt64).toInt32)))]) _
    refine own_retI X2 hx hret hlk (hb hby own_d11_25) (by decide) (by decide) ?_
    exact ⟨by unfold own_f11; rw [if_neg hc7], N2, e2⟩
theorem own_d5_0 : decode jdk_65_method_103_code 0 = .ok (.iconst 0, 1) := by decide +kernel
theorem own_d5_1 : decode jdk_65_method_103_code 1 = .ok (.istore_n 2, 1) := by decide +kernel
theorem own_d5_2 : decode jdk_65_method_103_code 2 = .ok (.aload_n 0, 1) := by decide +kernel
theorem own_d5_3 : decode jdk_65_method_103_code 3 = .ok (.arraylength, 1) := by decide +kernel
theorem own_d5_4 : decode jdk_65_method_103_code 4 = .ok (.istore_n 3, 1) := by decide +kernel
theorem own_d5_5 : decode jdk_65_method_103_code 5 = .ok (.iload_n 2, 1) := by decide +kernel
theorem own_d5_6 : decode jdk_65_method_103_code 6 = .ok (.iload_n 3, 1) := by decide +kernel
theorem own_d5_7 : decode jdk_65_method_103_code 7 = .ok (.if_icmp .ge 13, 3) := by decide +kernel
theorem own_d5_10 : decode jdk_65_method_103_code 10 = .ok (.aload_n 0, 1) := by decide +kernel
theorem own_d5_11 : decode jdk_65_method_103_code 11 = .ok (.iload_n 2, 1) := by decide +kernel
theorem own_d5_12 : decode jdk_65_method_103_code 12 = .ok (.iload_n 1, 1) := by decide +kernel
theorem own_d5_13 : decode jdk_65_method_103_code 13 = .ok (.iastore, 1) := by decide +kernel
theorem own_d5_14 : decode jdk_65_method_103_code 14 = .ok (.iinc 2 1, 3) := by decide +kernel
theorem own_d5_17 : decode jdk_65_method_103_code 17 = .ok (.goto (-12), 3) := by decide +kernel
theorem own_d5_20 : decode jdk_65_method_103_code 20 = .ok (.return_, 1) := by decide +kernel
theorem own_pn_Arrays : plainName "java/util/Arrays" = true := by first | (simp [plainName, overriddenIn]; done) | decide +kernel
set_option maxRecDepth 65536 in
set_option maxHeartbeats 40000000 in
theorem own_fil_x {p : Program} {l : Launch} {e : Env} {s : State} {m : MethodId} {args : Array Value} {below : List Frame} {meth : Method} {c : Code} {Z : State} {a0 : Array Value} {n0 : Nat} (hx : p.tables.exec = Jvm.exec) (hZ : Z.Warmed39 s.vm) (hw : ∀ d ∈ tables_1, d.before a0 Z = true) (hby : c.code = jdk_65_method_103_code) (hml : c.maxLocals = 4) (hown : s.vm.findClass "java/util/Arrays" = some m.cls) (hnm : meth.name = "fill") (hret : meth.sig.returnType = none) (hlk : meth.locks = false) (hs : Heap) (i : Nat) (a_ : Addr) (v_ : Int32) (n : Nat) (g_ : Nat → Value) {T0 : State} {locs : List Loc} {h0 : Heap} (X0 : Stand p l e ({ frames := 0, cells := 0, slots := 0, locals := 0 } : Room) s m args below meth c T0 locs 0 0) (e0 : T0.heap = h0) (N0 : Fr n0 locs) (Z0 : n0 ≤ h0.size) (hn : n < 2147483648) (ge_a : n0 ≤ a_) (hin : i = n) (F0 : own_Av Z h0 a_ .int n (own_fl (fun _ => v_) i g_)) (F1 : Keep hs h0 [a_]) :
    own_Go p e below T0 (mkF m 5 #[.val (.ref a_), .val (.int v_), .val (.int (Int32.ofNat i)), .val (.int (Int32.ofNat n))] []) (own_Fin s (fun (v : Option Value) (h : Heap) (L : List Loc) => v = none ∧ Fr n0 L ∧ Keep hs h [a_] ∧ own_Av Z h a_ .int n (fun _ => .int v_)) 0 0) := by
  show own_Go p e below T0 (mkF m 5 #[.val (.ref a_), .val (.int v_), .val (.int (Int32.ofNat i)), .val (.int (Int32.ofNat n))] []) _
  refine own_s_iloadN X0.here hx (hb hby own_d5_5) rfl ?_
  refine own_s_iloadN X0.here hx (hb hby own_d5_6) rfl ?_
  show own_Go p e below T0 (mkF m 7 #[.val (.ref a_), .val (.int v_), .val (.int (Int32.ofNat i)), .val (.int (Int32.ofNat n))] [(.int (Int32.ofNat n)), (.int (Int32.ofNat i))]) _
  refine own_s_icmpYes X0.here hx 20 (hb hby own_d5_7) (Jvm.Free.XT.ii_ge_t ((fun q => absurd ((own_oflt (by omega) (by omega)).mp q) (by omega)))) (by decide) (by decide) ?_
  refine own_retV X0 hx hret hlk (hb hby own_d5_20) (by decide) (by decide) ?_
  rw [e0]
  exact ⟨rfl, N0, F1, F0.cong rfl (fun j hj => own_fl_in (by omega))⟩
set_option maxRecDepth 65536 in
set_option maxHeartbeats 40000000 in
theorem own_fil_t {p : Program} {l : Launch} {e : Env} {s : State} {m : MethodId} {args : Array Value} {below : List Frame} {meth : Method} {c : Code} {Z : State} {a0 : Array Value} {n0 : Nat} (hx : p.tables.exec = Jvm.exec) (hZ : Z.Warmed39 s.vm) (hw : ∀ d ∈ tables_1, d.before a0 Z = true) (hby : c.code = jdk_65_method_103_code) (hml : c.maxLocals = 4) (hown : s.vm.findClass "java/util/Arrays" = some m.cls) (hnm : meth.name = "fill") (hret : meth.sig.returnType = none) (hlk : meth.locks = false) (hs : Heap) (i : Nat) (a_ : Addr) (v_ : Int32) (n : Nat) (g_ : Nat → Value) {T0 : State} {locs : List Loc} {h0 : Heap} (X0 : Stand p l e ({ frames := 0, cells := 0, slots := 0, locals := 0 } : Room) s m args below meth c T0 locs 0 0) (e0 : T0.heap = h0) (N0 : Fr n0 locs) (Z0 : n0 ≤ h0.size) (hn : n < 2147483648) (ge_a : n0 ≤ a_) (hin : i < n) (F0 : own_Av Z h0 a_ .int n (own_fl (fun _ => v_) i g_)) (F1 : Keep hs h0 [a_]) (hnext : ∀ (T1 : State) (locs1 : List Loc) (h1 : Heap), Stand p l e ({ frames := 0, cells := 0, slots := 0, locals := 0 } : Room) s m args below meth c T1 locs1 0 0 → T1.heap = h1 → Fr n0 locs1 → n0 ≤ h1.size → own_Av Z h1 a_ .int n (own_fl (fun _ => v_) (i + 1) g_) → Keep hs h1 [a_] → own_Go p e below T1 (mkF m 5 #[.val (.ref a_), .val (.int v_), .val (.int (Int32.ofNat (i + 1))), .val (.int (Int32.ofNat n))] []) (own_Fin s (fun (v : Option Value) (h : Heap) (L : List Loc) => v = none ∧ Fr n0 L ∧ Keep hs h [a_] ∧ own_Av Z h a_ .int n (fun _ => .int v_)) 0 0)) :
    own_Go p e below T0 (mkF m 5 #[.val (.ref a_), .val (.int v_), .val (.int (Int32.ofNat i)), .val (.int (Int32.ofNat n))] []) (own_Fin s (fun (v : Option Value) (h : Heap) (L : List Loc) => v = none ∧ Fr n0 L ∧ Keep hs h [a_] ∧ own_Av Z h a_ .int n (fun _ => .int v_)) 0 0) := by
  show own_Go p e below T0 (mkF m 5 #[.val (.ref a_), .val (.int v_), .val (.int (Int32.ofNat i)), .val (.int (Int32.ofNat n))] []) _
  refine own_s_iloadN X0.here hx (hb hby own_d5_5) rfl ?_
  refine own_s_iloadN X0.here hx (hb hby own_d5_6) rfl ?_
  refine own_s_icmpNo X0.here hx (hb hby own_d5_7) (Jvm.Free.XT.ii_ge_f (((own_oflt (by omega) (by omega)).mpr hin))) ?_
  refine own_s_aloadN X0.here hx (hb hby own_d5_10) rfl rfl ?_
  refine own_s_iloadN X0.here hx (hb hby own_d5_11) rfl ?_
  refine own_s_iloadN X0.here hx (hb hby own_d5_12) rfl ?_
  obtain ⟨T3, h3, X3, e3, W3, fa3, st3⟩ := own_stI X0 hx hZ e0 F0 (k := i) (own_ix (by omega)) hin (g := (mkF m 13 #[.val (.ref a_), .val (.int v_), .val (.int (Int32.ofNat i)), .val (.int (Int32.ofNat n))] [(.int v_), (.int (Int32.ofNat i)), (.ref a_)])) rfl rfl (hb hby own_d5_13)
  have N3 := Fr.snoc X3 N0 ge_a
  have SZ3 : n0 ≤ h3.size := by rw [W3.size]; exact Z0
  have K3 := F1.wr W3 (Or.inl (List.mem_of_getElem? (i := 0) rfl))
  refine own_by st3 ?_
  show own_Go p e below T3 (mkF m 14 #[.val (.ref a_), .val (.int v_), .val (.int (Int32.ofNat i)), .val (.int (Int32.ofNat n))] []) _
  refine own_by (fun tq_ kq_ => XS.iinc X3.here hx rfl (hb hby own_d5_14) rfl (l' := #[.val (.ref a_), .val (.int v_), .val (.int ((Int32.ofNat i) + (1 : Int32))), .val (.int (Int32.ofNat n))]) rfl kq_) ?_
  show own_Go p e below T3 (mkF m 17 #[.val (.ref a_), .val (.int v_), .val (.int ((Int32.ofNat i) + (1 : Int32))), .val (.int (Int32.ofNat n))] []) _
  refine own_s_goto X3.here hx 5 (hb hby own_d5_17) (by decide) (by decide) ?_
  rw [own_ofs]
  exact hnext _ _ _ X3 e3 N3 SZ3 (fa3.cong rfl (fun j _ => own_fl_up (fun _ => v_) i g_ j)) K3
set_option maxRecDepth 65536 in
set_option maxHeartbeats 40000000 in
theorem own_fil {p : Program} {l : Launch} {e : Env} {s : State} {m : MethodId} {args : Array Value} {below : List Frame} {meth : Method} {c : Code} {Z : State} {a0 : Array Value} {n0 : Nat} (hx : p.tables.exec = Jvm.exec) (hZ : Z.Warmed39 s.vm) (hw : ∀ d ∈ tables_1, d.before a0 Z = true) (hby : c.code = jdk_65_method_103_code) (hml : c.maxLocals = 4) (hown : s.vm.findClass "java/util/Arrays" = some m.cls) (hnm : meth.name = "fill") (hret : meth.sig.returnType = none) (hlk : meth.locks = false) (hs : Heap) (a_ : Addr) (v_ : Int32) (n : Nat) (g_ : Nat → Value) (hn : n < 2147483648) (ge_a : n0 ≤ a_) : ∀ (r i : Nat) (hin : i + r = n) {T0 : State} {locs : List Loc} {h0 : Heap} (X0 : Stand p l e ({ frames := 0, cells := 0, slots := 0, locals := 0 } : Room) s m args below meth c T0 locs 0 0) (e0 : T0.heap = h0) (N0 : Fr n0 locs) (Z0 : n0 ≤ h0.size) (F0 : own_Av Z h0 a_ .int n (own_fl (fun _ => v_) i g_)) (F1 : Keep hs h0 [a_]),
    own_Go p e below T0 (mkF m 5 #[.val (.ref a_), .val (.int v_), .val (.int (Int32.ofNat i)), .val (.int (Int32.ofNat n))] []) (own_Fin s (fun (v : Option Value) (h : Heap) (L : List Loc) => v = none ∧ Fr n0 L ∧ Keep hs h [a_] ∧ own_Av Z h a_ .int n (fun _ => .int v_)) 0 0) := by
  intro r
  induction r with
  | zero =>
    intro i hin T0 locs h0 X0 e0 N0 Z0 F0 F1
    exact own_fil_x hx hZ hw hby hml hown hnm hret hlk hs i a_ v_ n g_ X0 e0 N0 Z0 hn ge_a (by omega) F0 F1
  | succ r ih =>
    intro i hin T0 locs h0 X0 e0 N0 Z0 F0 F1
    exact own_fil_t hx hZ hw hby hml hown hnm hret hlk hs i a_ v_ n g_ X0 e0 N0 Z0 hn ge_a (by omega) F0 F1 (fun T1 locs1 h1 X1 e1 N1 Z1 G0 G1 => ih (i + 1) (by omega) X1 e1 N1 Z1 G0 G1)
theorem own_ef5 (m : MethodId) (a_ : Addr) (v_ : Int32) : entryFrame m #[(.ref a_), (.int v_)] 4 = mkF m 0 #[.val (.ref a_), .val (.int v_), .unset, .unset] [] := by first | (simp [entryFrame, mkF, argsToLocals, Value.category]; done) | rfl
def own_q_own_r5 (Z : State) (a_ : Addr) (v_ : Int32) (n : Nat) (f : Nat → Value) (h0 : Heap) (n0 : Nat) (v : Option Value) (h : Heap) (L : List Loc) : Prop := v = none ∧ Fr n0 L ∧ Keep h0 h [a_] ∧ own_Av Z h a_ .int n (fun _ => .int v_)
set_option maxRecDepth 65536 in
set_option maxHeartbeats 40000000 in
theorem own_r5 (l : Launch) (Z : State) (a0 : Array Value) (hw : ∀ d ∈ tables_1, d.before a0 Z = true) (ws : List Jvm.Cond) (a_ : Addr) (v_ : Int32) (n : Nat) (f : Nat → Value) (h0 : Heap) (n0 : Nat) (Z0 : n0 ≤ h0.size) (hn : n < 2147483648) (A_a_ : own_Av Z h0 a_ .int n f) (ge_a_ : n0 ≤ a_) :
    MetFree l (⟨"java/util/Arrays", "fill", "([II)V"⟩ : MethodName) (head1 (Jvm.Cond.code (⟨"java/util/Arrays", "fill", "([II)V"⟩ : MethodName) jdk_65_method_103_code 4 none :: ws) ({ frames := 0, cells := 0, slots := 0, locals := 0 } : Room)) (fun aq Uq => aq = #[(.ref a_), (.int v_)] ∧ Z.Warmed39 Uq.vm ∧ Uq.heap = h0) (fun _ _ _ _ _ => True) (fun _ Uq oq Uq' => ∃ vq Lq, oq = .returned vq ∧ own_q_own_r5 Z a_ v_ n f h0 n0 vq Uq'.heap Lq ∧ FrameEnd Uq oq Uq' Lq ({ frames := 0, cells := 0, slots := 0, locals := 0 } : Room).cells ({ frames := 0, cells := 0, slots := 0, locals := 0 } : Room).slots) := by
  refine MetFree.of_bodySF (plainFor_of_name own_pn_Arrays) hisR ?_
  intro p e s m args below meth c T0 Bd hml0 hP hK
  obtain ⟨rfl, hZ, hh⟩ := hP
  have hx := Bd.exec
  have hby := Bd.bytes
  have hml : c.maxLocals = 4 := hml0
  have hown : s.vm.findClass "java/util/Arrays" = some m.cls := findClass_of_methodNamed Bd.named
  have hnm := (name_of_methodNamed Bd.named Bd.method).1
  have hret : meth.sig.returnType = none := Bd.returns
  have hlk : meth.locks = false := BodyLoose.notSynchronized Bd
  have X0 : Stand p l e ({ frames := 0, cells := 0, slots := 0, locals := 0 } : Room) s m #[(.ref a_), (.int v_)] below meth c T0 [] 0 0 := Stand.of_body Bd
  have e0 : T0.heap = h0 := by rw [← hh, Bd.state]; rfl
  have N0 := Fr.nil n0
  refine own_start (own_ef5 m a_ v_) (Q := fun (v : Option Value) (h : Heap) (L : List Loc) => v = none ∧ Fr n0 L ∧ Keep h0 h [a_] ∧ own_Av Z h a_ .int n (fun _ => .int v_)) (k := 0) (j := 0) ?_
  show own_Go p e below T0 (mkF m 0 #[.val (.ref a_), .val (.int v_), .unset, .unset] []) _
  have K0 := Keep.refl h0 [a_]
  refine own_s_iconst X0.here hx (0 : Int32) (hb hby own_d5_0) rfl ?_
  refine own_s_istoreN X0.here hx #[.val (.ref a_), .val (.int v_), .val (.int (0 : Int32)), .unset] (hb hby own_d5_1) rfl ?_
  refine own_s_aloadN X0.here hx (hb hby own_d5_2) rfl rfl ?_
  refine own_by (fun tq_ kq_ => own_len X0 hx hZ e0 A_a_ (z := (Int32.ofNat n)) rfl (g := (mkF m 3 #[.val (.ref a_), .val (.int v_), .val (.int (0 : Int32)), .unset] [(.ref a_)])) rfl rfl (hb hby own_d5_3) tq_ kq_) ?_
  show own_Go p e below T0 (mkF m 4 #[.val (.ref a_), .val (.int v_), .val (.int (0 : Int32)), .unset] [(.int (Int32.ofNat n))]) _
  refine own_s_istoreN X0.here hx #[.val (.ref a_), .val (.int v_), .val (.int (0 : Int32)), .val (.int (Int32.ofNat n))] (hb hby own_d5_4) rfl ?_
  show own_Go p e below T0 (mkF m 5 #[.val (.ref a_), .val (.int v_), .val (.int (Int32.ofNat 0)), .val (.int (Int32.ofNat n))] []) _
  exact own_fil hx hZ hw hby hml hown hnm hret hlk h0 a_ v_ n f hn ge_a_ n 0 (by omega) X0 e0 N0 Z0 (A_a_.cong rfl (fun j _ => own_fl0 (fun _ => v_) f j)) K0
theorem own_d4_0 : decode prog_21_method_10_code 0 = .ok (.iload_n 0, 1) := by decide +kernel
theorem own_d4_1 : decode prog_21_method_10_code 1 = .ok (.newarray .int, 2) := by decide +kernel
theorem own_d4_3 : decode prog_21_method_10_code 3 = .ok (.astore_n 1, 1) := by decide +kernel
theorem own_d4_4 : decode prog_21_method_10_code 4 = .ok (.aload_n 1, 1) := by decide +kernel
theorem own_d4_5 : decode prog_21_method_10_code 5 = .ok (.iconst 1, 1) := by decide +kernel
theorem own_d4_6 : decode prog_21_method_10_code 6 = .ok (.invokestatic 51, 3) := by decide +kernel
theorem own_d4_9 : decode prog_21_method_10_code 9 = .ok (.aload_n 1, 1) := by decide +kernel
theorem own_d4_10 : decode prog_21_method_10_code 10 = .ok (.areturn, 1) := by decide +kernel
theorem own_pn_MarkingCode : plainName "com/example/lapse/lapse/MarkingCode" = true := by first | (simp [plainName, overriddenIn]; done) | decide +kernel
theorem own_ef4 (m : MethodId) (z_ : Int32) : entryFrame m #[(.int z_)] 2 = mkF m 0 #[.val (.int z_), .unset] [] := by first | (simp [entryFrame, mkF, argsToLocals, Value.category]; done) | rfl
theorem own_pd_4 : parseMethodDescriptor "([II)V" = some ⟨[(.array .int), .int], none⟩ := by decide +kernel
def own_q_own_r4 (Z : State) (z_ : Int32) (n : Nat) (h0 : Heap) (n0 : Nat) (v : Option Value) (h : Heap) (L : List Loc) : Prop := ∃ b : Addr, v = some (.ref b) ∧ Fr n0 L ∧ n0 ≤ b ∧ h0.size ≤ b ∧ Keep h0 h [] ∧ own_Av Z h b .int n (fun _ => .int (1 : Int32))
set_option maxRecDepth 65536 in
set_option maxHeartbeats 40000000 in
theorem own_r4 (l : Launch) (Z : State) (a0 : Array Value) (hw : ∀ d ∈ tables_1, d.before a0 Z = true) (ws : List Jvm.Cond) (z_ : Int32) (n : Nat) (h0 : Heap) (n0 : Nat) (Z0 : n0 ≤ h0.size) (hz : z_.toNatClampNeg = n) (hneg : ¬ z_ < 0) (hle : n ≤ 3) :
    MetFree l (⟨"com/example/lapse/lapse/MarkingCode", "ones", "(I)[I"⟩ : MethodName) (head1 (Jvm.Cond.code (⟨"com/example/lapse/lapse/MarkingCode", "ones", "(I)[I"⟩ : MethodName) prog_21_method_10_code 2 (some (.array .int)) :: ws) ({ frames := 1, cells := 1, slots := 3, locals := 15 } : Room)) (fun aq Uq => aq = #[(.int z_)] ∧ Z.Warmed39 Uq.vm ∧ Uq.heap = h0) (fun _ _ _ _ _ => True) (fun _ Uq oq Uq' => ∃ vq Lq, oq = .returned vq ∧ own_q_own_r4 Z z_ n h0 n0 vq Uq'.heap Lq ∧ FrameEnd Uq oq Uq' Lq ({ frames := 1, cells := 1, slots := 3, locals := 15 } : Room).cells ({ frames := 1, cells := 1, slots := 3, locals := 15 } : Room).slots) := by
  refine MetFree.of_bodySF (plainFor_of_name own_pn_MarkingCode) hisR ?_
  intro p e s m args below meth c T0 Bd hml0 hP hK
  obtain ⟨rfl, hZ, hh⟩ := hP
  have hx := Bd.exec
  have hby := Bd.bytes
  have hml : c.maxLocals = 2 := hml0
  have hown : s.vm.findClass "com/example/lapse/lapse/MarkingCode" = some m.cls := findClass_of_methodNamed Bd.named
  have hnm := (name_of_methodNamed Bd.named Bd.method).1
  have hret : meth.sig.returnType = (some (.array .int)) := Bd.returns
  have hlk : meth.locks = false := BodyLoose.notSynchronized Bd
  have X0 : Stand p l e ({ frames := 1, cells := 1, slots := 3, locals := 15 } : Room) s m #[(.int z_)] below meth c T0 [] 0 0 := Stand.of_body Bd
  have e0 : T0.heap = h0 := by rw [← hh, Bd.state]; rfl
  have N0 := Fr.nil n0
  refine own_start (own_ef4 m z_) (Q := fun (v : Option Value) (h : Heap) (L : List Loc) => ∃ b : Addr, v = some (.ref b) ∧ Fr n0 L ∧ n0 ≤ b ∧ h0.size ≤ b ∧ Keep h0 h [] ∧ own_Av Z h b .int n (fun _ => .int (1 : Int32))) (k := 1) (j := 3) ?_
  show own_Go p e below T0 (mkF m 0 #[.val (.int z_), .unset] []) _
  have K0 := Keep.refl h0 []
  refine own_s_iloadN X0.here hx (hb hby own_d4_0) rfl ?_
  obtain ⟨T4, h4, k4, X4, e4, E4, A4, st4⟩ := newP X0 hx hZ (hw _ (List.mem_of_getElem? (i := 19) rfl)) e0 (g := (mkF m 1 #[.val (.int z_), .unset] [(.int z_)])) rfl (hb hby own_d4_1) rfl hneg (cap := 3) (by rw [hz]; exact hle) (by decide) (by decide) (by decide)
  obtain ⟨b4, g4⟩ : ∃ z, z = h0.size := ⟨_, rfl⟩
  rw [← g4] at A4 st4
  have ge_b4 : n0 ≤ b4 := Nat.le_trans Z0 (Nat.le_of_eq g4.symm)
  have sz_b4 : h0.size ≤ b4 := Nat.le_trans K0.1 (Nat.le_of_eq g4.symm)
  have SZ4 : n0 ≤ h4.size := Nat.le_trans Z0 E4.1
  have K4 := K0.ext E4
  have f5 : own_Av Z h4 b4 .int n (fun _ => (.int (0 : Int32))) := own_Av.ofnew A4 hz rfl
  refine own_by st4 ?_
  show own_Go p e below T4 (mkF m 3 #[.val (.int z_), .unset] [(.ref b4)]) _
  refine own_s_astoreN X4.here hx #[.val (.int z_), .val (.ref b4)] (hb hby own_d4_3) rfl rfl ?_
  refine own_s_aloadN X4.here hx (hb hby own_d4_4) rfl rfl ?_
  refine own_s_iconst X4.here hx (1 : Int32) (hb hby own_d4_5) rfl ?_
  obtain ⟨_, _, ⟨T6, L6, k6, n6⟩, -, X6, ⟨Lc6, hQ6, l6, y6, z6⟩, st6⟩ := Jvm.LawKit.callS X4 hx (y := (⟨"java/util/Arrays", "fill", "([II)V"⟩ : MethodName)) hown (mvT hZ (hw _ (List.mem_of_getElem? (i := 20) rfl))) (mvT hZ (hw _ (List.mem_of_getElem? (i := 21) rfl))) (mvT hZ (hw _ (List.mem_of_getElem? (i := 22) rfl))) (mvT hZ (hw _ (List.mem_of_getElem? (i := 23) rfl))) (by decide) (backOf (W := 0) (own_r5 l Z a0 hw [] b4 (1 : Int32) n (fun _ => (.int (0 : Int32))) h4 n0 SZ4 (by omega) f5 ge_b4) hZ (hw _ (List.mem_of_getElem? (i := 23) rfl)) (hw _ (List.mem_of_getElem? (i := 22) rfl)) (by decide) (by decide)) (g := (mkF m 6 #[.val (.int z_), .val (.ref b4)] [(.int (1 : Int32)), (.ref b4)])) rfl (by rw [hml]; rfl) (argsL := [(.ref b4), (.int (1 : Int32))]) (rest := []) (lenOf own_pd_4 rfl) rfl (by show 2 * 0 + _ ≤ _; exact Nat.le_of_eq rfl) (hb hby own_d4_6) (fun _ _ => ⟨rfl, e4, (by decide : 1 + 0 ≤ _), (by decide : 3 + 0 ≤ _)⟩)
  dsimp only [Pt.U, Pt.locs, Pt.cells, Pt.slots] at X6 l6 y6 z6 st6 hQ6
  subst l6 y6 z6
  obtain ⟨rfl, N6q, K6, fa6⟩ := hQ6
  have N6 := Fr.app N0 N6q
  have SZ6 : n0 ≤ T6.heap.size := Nat.le_trans SZ4 K6.1
  have KC6 := K4.trans K6 (allS (Or.inr sz_b4) all0)
  refine own_by st6 ?_
  show own_Go p e below T6 (mkF m 9 #[.val (.int z_), .val (.ref b4)] []) _
  refine own_s_aloadN X6.here hx (hb hby own_d4_9) rfl rfl ?_
  refine own_retA X6 hx hret hlk (hb hby own_d4_10) rfl rfl rfl (by decide) (by decide) ?_
  exact ⟨b4, rfl, N6, ge_b4, sz_b4, KC6, fa6⟩
def own_mo (x : Int32) : Int32 := ((((1 : Int64) <<< (x &&& 0x3f).toInt64) - (1 : Int64)).toInt32)
def own_U (wd : Nat → Int32) : Nat → Int32
  | 0 => 0
  | i + 1 => (if (64 : Int32) < (own_U wd i + wd i) then (0 : Int32) else own_U wd i) + wd i
def own_S (wd : Nat → Int32) (i : Nat) : Int32 := if (64 : Int32) < (own_U wd i + wd i) then (0 : Int32) else own_U wd i
def own_W (wd : Nat → Int32) : Nat → Int32
  | 0 => 0
  | i + 1 => if (64 : Int32) < (own_U wd i + wd i) then (own_W wd i + (1 : Int32)) else own_W wd i
theorem own_U1 (wd : Nat → Int32) (i : Nat) : own_U wd (i + 1) = own_S wd i + wd i := rfl
theorem own_d6_0 : decode prog_21_method_2_code 0 = .ok (.aload_n 0, 1) := by decide +kernel
theorem own_d6_1 : decode prog_21_method_2_code 1 = .ok (.invokespecial 11, 3) := by decide +kernel
theorem own_d6_4 : decode prog_21_method_2_code 4 = .ok (.aload_n 1, 1) := by decide +kernel
theorem own_d6_5 : decode prog_21_method_2_code 5 = .ok (.arraylength, 1) := by decide +kernel
theorem own_d6_6 : decode prog_21_method_2_code 6 = .ok (.istore_n 2, 1) := by decide +kernel
theorem own_d6_7 : decode prog_21_method_2_code 7 = .ok (.aload_n 0, 1) := by decide +kernel
theorem own_d6_8 : decode prog_21_method_2_code 8 = .ok (.iload_n 2, 1) := by decide +kernel
theorem own_d6_9 : decode prog_21_method_2_code 9 = .ok (.newarray .int, 2) := by decide +kernel
theorem own_d6_11 : decode prog_21_method_2_code 11 = .ok (.putfield 16, 3) := by decide +kernel
theorem own_d6_14 : decode prog_21_method_2_code 14 = .ok (.aload_n 0, 1) := by decide +kernel
theorem own_d6_15 : decode prog_21_method_2_code 15 = .ok (.iload_n 2, 1) := by decide +kernel
theorem own_d6_16 : decode prog_21_method_2_code 16 = .ok (.newarray .int, 2) := by decide +kernel
theorem own_d6_18 : decode prog_21_method_2_code 18 = .ok (.putfield 20, 3) := by decide +kernel
theorem own_d6_21 : decode prog_21_method_2_code 21 = .ok (.aload_n 0, 1) := by decide +kernel
theorem own_d6_22 : decode prog_21_method_2_code 22 = .ok (.iload_n 2, 1) := by decide +kernel
theorem own_d6_23 : decode prog_21_method_2_code 23 = .ok (.newarray .int, 2) := by decide +kernel
theorem own_d6_25 : decode prog_21_method_2_code 25 = .ok (.putfield 23, 3) := by decide +kernel
theorem own_d6_28 : decode prog_21_method_2_code 28 = .ok (.iconst 0, 1) := by decide +kernel
theorem own_d6_29 : decode prog_21_method_2_code 29 = .ok (.istore_n 3, 1) := by decide +kernel
theorem own_d6_30 : decode prog_21_method_2_code 30 = .ok (.iconst 0, 1) := by decide +kernel
theorem own_d6_31 : decode prog_21_method_2_code 31 = .ok (.istore 4, 2) := by decide +kernel
theorem own_d6_33 : decode prog_21_method_2_code 33 = .ok (.iconst 0, 1) := by decide +kernel
theorem own_d6_34 : decode prog_21_method_2_code 34 = .ok (.istore 5, 2) := by decide +kernel
theorem own_d6_36 : decode prog_21_method_2_code 36 = .ok (.iload 5, 2) := by decide +kernel
theorem own_d6_38 : decode prog_21_method_2_code 38 = .ok (.iload_n 2, 1) := by decide +kernel
theorem own_d6_39 : decode prog_21_method_2_code 39 = .ok (.if_icmp .ge 69, 3) := by decide +kernel
theorem own_d6_42 : decode prog_21_method_2_code 42 = .ok (.iload 4, 2) := by decide +kernel
theorem own_d6_44 : decode prog_21_method_2_code 44 = .ok (.aload_n 1, 1) := by decide +kernel
theorem own_d6_45 : decode prog_21_method_2_code 45 = .ok (.iload 5, 2) := by decide +kernel
theorem own_d6_47 : decode prog_21_method_2_code 47 = .ok (.iaload, 1) := by decide +kernel
theorem own_d6_48 : decode prog_21_method_2_code 48 = .ok (.iadd, 1) := by decide +kernel
theorem own_d6_49 : decode prog_21_method_2_code 49 = .ok (.bipush 64, 2) := by decide +kernel
theorem own_d6_51 : decode prog_21_method_2_code 51 = .ok (.if_icmp .le 9, 3) := by decide +kernel
theorem own_d6_54 : decode prog_21_method_2_code 54 = .ok (.iinc 3 1, 3) := by decide +kernel
theorem own_d6_57 : decode prog_21_method_2_code 57 = .ok (.iconst 0, 1) := by decide +kernel
theorem own_d6_58 : decode prog_21_method_2_code 58 = .ok (.istore 4, 2) := by decide +kernel
theorem own_d6_60 : decode prog_21_method_2_code 60 = .ok (.aload_n 0, 1) := by decide +kernel
theorem own_d6_61 : decode prog_21_method_2_code 61 = .ok (.getfield 16, 3) := by decide +kernel
theorem own_d6_64 : decode prog_21_method_2_code 64 = .ok (.iload 5, 2) := by decide +kernel
theorem own_d6_66 : decode prog_21_method_2_code 66 = .ok (.lconst 1, 1) := by decide +kernel
theorem own_d6_67 : decode prog_21_method_2_code 67 = .ok (.aload_n 1, 1) := by decide +kernel
theorem own_d6_68 : decode prog_21_method_2_code 68 = .ok (.iload 5, 2) := by decide +kernel
theorem own_d6_70 : decode prog_21_method_2_code 70 = .ok (.iaload, 1) := by decide +kernel
theorem own_d6_71 : decode prog_21_method_2_code 71 = .ok (.lshl, 1) := by decide +kernel
theorem own_d6_72 : decode prog_21_method_2_code 72 = .ok (.lconst 1, 1) := by decide +kernel
theorem own_d6_73 : decode prog_21_method_2_code 73 = .ok (.lsub, 1) := by decide +kernel
theorem own_d6_74 : decode prog_21_method_2_code 74 = .ok (.l2i, 1) := by decide +kernel
theorem own_d6_75 : decode prog_21_method_2_code 75 = .ok (.iastore, 1) := by decide +kernel
theorem own_d6_76 : decode prog_21_method_2_code 76 = .ok (.aload_n 0, 1) := by decide +kernel
theorem own_d6_77 : decode prog_21_method_2_code 77 = .ok (.getfield 20, 3) := by decide +kernel
theorem own_d6_80 : decode prog_21_method_2_code 80 = .ok (.iload 5, 2) := by decide +kernel
theorem own_d6_82 : decode prog_21_method_2_code 82 = .ok (.iload_n 3, 1) := by decide +kernel
theorem own_d6_83 : decode prog_21_method_2_code 83 = .ok (.iastore, 1) := by decide +kernel
theorem own_d6_84 : decode prog_21_method_2_code 84 = .ok (.aload_n 0, 1) := by decide +kernel
theorem own_d6_85 : decode prog_21_method_2_code 85 = .ok (.getfield 23, 3) := by decide +kernel
theorem own_d6_88 : decode prog_21_method_2_code 88 = .ok (.iload 5, 2) := by decide +kernel
theorem own_d6_90 : decode prog_21_method_2_code 90 = .ok (.iload 4, 2) := by decide +kernel
theorem own_d6_92 : decode prog_21_method_2_code 92 = .ok (.iastore, 1) := by decide +kernel
theorem own_d6_93 : decode prog_21_method_2_code 93 = .ok (.iload 4, 2) := by decide +kernel
theorem own_d6_95 : decode prog_21_method_2_code 95 = .ok (.aload_n 1, 1) := by decide +kernel
theorem own_d6_96 : decode prog_21_method_2_code 96 = .ok (.iload 5, 2) := by decide +kernel
theorem own_d6_98 : decode prog_21_method_2_code 98 = .ok (.iaload, 1) := by decide +kernel
theorem own_d6_99 : decode prog_21_method_2_code 99 = .ok (.iadd, 1) := by decide +kernel
theorem own_d6_100 : decode prog_21_method_2_code 100 = .ok (.istore 4, 2) := by decide +kernel
theorem own_d6_102 : decode prog_21_method_2_code 102 = .ok (.iinc 5 1, 3) := by decide +kernel
theorem own_d6_105 : decode prog_21_method_2_code 105 = .ok (.goto (-69), 3) := by decide +kernel
theorem own_d6_108 : decode prog_21_method_2_code 108 = .ok (.aload_n 0, 1) := by decide +kernel
theorem own_d6_109 : decode prog_21_method_2_code 109 = .ok (.iload_n 3, 1) := by decide +kernel
theorem own_d6_110 : decode prog_21_method_2_code 110 = .ok (.iconst 1, 1) := by decide +kernel
theorem own_d6_111 : decode prog_21_method_2_code 111 = .ok (.iadd, 1) := by decide +kernel
theorem own_d6_112 : decode prog_21_method_2_code 112 = .ok (.putfield 28, 3) := by decide +kernel
theorem own_d6_115 : decode prog_21_method_2_code 115 = .ok (.return_, 1) := by decide +kernel
set_option maxRecDepth 65536 in
set_option maxHeartbeats 40000000 in
theorem own_ini_x {p : Program} {l : Launch} {e : Env} {s : State} {m : MethodId} {args : Array Value} {below : List Frame} {meth : Method} {c : Code} {Z : State} {a0 : Array Value} {n0 : Nat} (hx : p.tables.exec = Jvm.exec) (hZ : Z.Warmed39 s.vm) (hw : ∀ d ∈ tables_1, d.before a0 Z = true) (hby : c.code = prog_21_method_2_code) (hml : c.maxLocals = 6) (hown : s.vm.findClass "com/example/lapse/lapse/MarkingCode" = some m.cls) (hnm : meth.name = "<init>") (hret : meth.sig.returnType = none) (hlk : meth.locks = false) (hs : Heap) (i : Nat) (this r1 am aw as : Addr) (n : Nat) (wd : Nat → Int32) {T0 : State} {locs : List Loc} {h0 : Heap} (X0 : Stand p l e ({ frames := 1, cells := 3, slots := 9, locals := 12 } : Room) s m args below meth c T0 locs 3 9) (e0 : T0.heap = h0) (N0 : Fr n0 locs) (Z0 : n0 ≤ h0.size) (hn : n ≤ 3) (ge_this : n0 ≤ this) (ge_am : n0 ≤ am) (ge_aw : n0 ≤ aw) (ge_as : n0 ≤ as) (sz_am : hs.size ≤ am) (sz_aw : hs.size ≤ aw) (sz_as : hs.size ≤ as) (ne_this_am : this ≠ am) (ne_this_aw : this ≠ aw) (ne_this_as : this ≠ as) (ne_r1_am : r1 ≠ am) (ne_r1_aw : r1 ≠ aw) (ne_r1_as : r1 ≠ as) (ne_am_aw : am ≠ aw) (ne_am_as : am ≠ as) (ne_aw_as : aw ≠ as) (ne_r1_this : r1 ≠ this) (hin : i = n) (F0 : Exa Z h0 this "com/example/lapse/lapse/MarkingCode") (F1 : Fld Z h0 this "com/example/lapse/lapse/MarkingCode" "most" "[I" (.ref am)) (F2 : Fld Z h0 this "com/example/lapse/lapse/MarkingCode" "words" "[I" (.ref aw)) (F3 : Fld Z h0 this "com/example/lapse/lapse/MarkingCode" "shifts" "[I" (.ref as)) (F4 : Fld Z h0 this "com/example/lapse/lapse/MarkingCode" "length" "I" (.int (0 : Int32))) (F5 : own_Av Z h0 r1 .int n (fun j => .int (wd j))) (F6 : own_Av Z h0 am .int n (own_fl (fun j => own_mo (wd j)) i (fun _ => (.int (0 : Int32))))) (F7 : own_Av Z h0 aw .int n (own_fl (fun j => own_W wd (j + 1)) i (fun _ => (.int (0 : Int32))))) (F8 : own_Av Z h0 as .int n (own_fl (own_S wd) i (fun _ => (.int (0 : Int32))))) (F9 : Keep hs h0 [this]) :
    own_Go p e below T0 (mkF m 36 #[.val (.ref this), .val (.ref r1), .val (.int (Int32.ofNat n)), .val (.int (own_W wd i)), .val (.int (own_U wd i)), .val (.int (Int32.ofNat i))] []) (own_Fin s (fun (v : Option Value) (h : Heap) (L : List Loc) => v = none ∧ Fr n0 L ∧ Keep hs h [this] ∧ ∃ am aw as : Addr, n0 ≤ am ∧ n0 ≤ aw ∧ n0 ≤ as ∧ hs.size ≤ am ∧ hs.size ≤ aw ∧ hs.size ≤ as ∧ am ≠ aw ∧ am ≠ as ∧ aw ≠ as ∧ Fld Z h this "com/example/lapse/lapse/MarkingCode" "most" "[I" (.ref am) ∧ own_Av Z h am .int n (fun j => .int ((fun j => own_mo (wd j)) j)) ∧ Fld Z h this "com/example/lapse/lapse/MarkingCode" "words" "[I" (.ref aw) ∧ own_Av Z h aw .int n (fun j => .int ((fun j => own_W wd (j + 1)) j)) ∧ Fld Z h this "com/example/lapse/lapse/MarkingCode" "shifts" "[I" (.ref as) ∧ own_Av Z h as .int n (fun j => .int ((own_S wd) j)) ∧ Fld Z h this "com/example/lapse/lapse/MarkingCode" "length" "I" (.int (own_W wd n + (1 : Int32)))) 3 9) := by
  show own_Go p e below T0 (mkF m 36 #[.val (.ref this), .val (.ref r1), .val (.int (Int32.ofNat n)), .val (.int (own_W wd i)), .val (.int (own_U wd i)), .val (.int (Int32.ofNat i))] []) _
  refine own_s_iload X0.here hx (hb hby own_d6_36) rfl ?_
  refine own_s_iloadN X0.here hx (hb hby own_d6_38) rfl ?_
  show own_Go p e below T0 (mkF m 39 #[.val (.ref this), .val (.ref r1), .val (.int (Int32.ofNat n)), .val (.int (own_W wd i)), .val (.int (own_U wd i)), .val (.int (Int32.ofNat i))] [(.int (Int32.ofNat n)), (.int (Int32.ofNat i))]) _
  refine own_s_icmpYes X0.here hx 108 (hb hby own_d6_39) (Jvm.Free.XT.ii_ge_t ((fun q => absurd ((own_oflt (by omega) (by omega)).mp q) (by omega)))) (by decide) (by decide) ?_
  refine own_s_aloadN X0.here hx (hb hby own_d6_108) rfl rfl ?_
  refine own_s_iloadN X0.here hx (hb hby own_d6_109) rfl ?_
  refine own_s_iconst X0.here hx (1 : Int32) (hb hby own_d6_110) rfl ?_
  refine own_s_iadd X0.here hx (hb hby own_d6_111) ?_
  obtain ⟨T7, h7, X7, e7, W7, st7⟩ := putF X0 hx hZ hown (host := "") (Or.inl (hw _ (List.mem_of_getElem? (i := 36) rfl))) Via.refl e0 F4 F0 (Or.inr ⟨(hw _ (List.mem_of_getElem? (i := 37) rfl)), rfl, hnm⟩) (hw _ (List.mem_of_getElem? (i := 11) rfl)) (ty := .int) (by decide) rfl rfl (g := (mkF m 112 #[.val (.ref this), .val (.ref r1), .val (.int (Int32.ofNat n)), .val (.int (own_W wd i)), .val (.int (own_U wd i)), .val (.int (Int32.ofNat i))] [(.int ((own_W wd i) + (1 : Int32))), (.ref this)])) rfl rfl (hb hby own_d6_112)
  have fw7 := F4.same W7
  have f8 := F0.wr W7
  have f9 := F1.other W7 (Or.inr (slot_ne (Or.inr (hw _ (List.mem_of_getElem? (i := 31) rfl))) (Or.inr (hw _ (List.mem_of_getElem? (i := 37) rfl))) (by decide) (t := (.array .int)) (t' := .int) (by decide) (by decide)))
  have f10 := F2.other W7 (Or.inr (slot_ne (Or.inr (hw _ (List.mem_of_getElem? (i := 33) rfl))) (Or.inr (hw _ (List.mem_of_getElem? (i := 37) rfl))) (by decide) (t := (.array .int)) (t' := .int) (by decide) (by decide)))
  have f11 := F3.other W7 (Or.inr (slot_ne (Or.inr (hw _ (List.mem_of_getElem? (i := 35) rfl))) (Or.inr (hw _ (List.mem_of_getElem? (i := 37) rfl))) (by decide) (t := (.array .int)) (t' := .int) (by decide) (by decide)))
  have f12 := F5.other W7 ne_r1_this
  have f13 := F6.other W7 (Ne.symm ne_this_am)
  have f14 := F7.other W7 (Ne.symm ne_this_aw)
  have f15 := F8.other W7 (Ne.symm ne_this_as)
  have N7 := Fr.snoc X7 N0 ge_this
  have SZ7 : n0 ≤ h7.size := by rw [W7.size]; exact Z0
  have K7 := F9.wr W7 (Or.inl (List.mem_of_getElem? (i := 0) rfl))
  refine own_by st7 ?_
  show own_Go p e below T7 (mkF m 115 #[.val (.ref this), .val (.ref r1), .val (.int (Int32.ofNat n)), .val (.int (own_W wd i)), .val (.int (own_U wd i)), .val (.int (Int32.ofNat i))] []) _
  refine own_retV X7 hx hret hlk (hb hby own_d6_115) (by decide) (by decide) ?_
  rw [e7]
  exact ⟨rfl, N7, K7, am, aw, as, ge_am, ge_aw, ge_as, sz_am, sz_aw, sz_as, ne_am_aw, ne_am_as, ne_aw_as, f9, f13.cong rfl (fun j hj => own_fl_in (by omega)), f10, f14.cong rfl (fun j hj => own_fl_in (by omega)), f11, f15.cong rfl (fun j hj => own_fl_in (by omega)), by rw [← hin]; exact fw7⟩
set_option maxRecDepth 65536 in
set_option maxHeartbeats 40000000 in
theorem own_ini_t {p : Program} {l : Launch} {e : Env} {s : State} {m : MethodId} {args : Array Value} {below : List Frame} {meth : Method} {c : Code} {Z : State} {a0 : Array Value} {n0 : Nat} (hx : p.tables.exec = Jvm.exec) (hZ : Z.Warmed39 s.vm) (hw : ∀ d ∈ tables_1, d.before a0 Z = true) (hby : c.code = prog_21_method_2_code) (hml : c.maxLocals = 6) (hown : s.vm.findClass "com/example/lapse/lapse/MarkingCode" = some m.cls) (hnm : meth.name = "<init>") (hret : meth.sig.returnType = none) (hlk : meth.locks = false) (hs : Heap) (i : Nat) (this r1 am aw as : Addr) (n : Nat) (wd : Nat → Int32) {T0 : State} {locs : List Loc} {h0 : Heap} (X0 : Stand p l e ({ frames := 1, cells := 3, slots := 9, locals := 12 } : Room) s m args below meth c T0 locs 3 9) (e0 : T0.heap = h0) (N0 : Fr n0 locs) (Z0 : n0 ≤ h0.size) (hn : n ≤ 3) (ge_this : n0 ≤ this) (ge_am : n0 ≤ am) (ge_aw : n0 ≤ aw) (ge_as : n0 ≤ as) (sz_am : hs.size ≤ am) (sz_aw : hs.size ≤ aw) (sz_as : hs.size ≤ as) (ne_this_am : this ≠ am) (ne_this_aw : this ≠ aw) (ne_this_as : this ≠ as) (ne_r1_am : r1 ≠ am) (ne_r1_aw : r1 ≠ aw) (ne_r1_as : r1 ≠ as) (ne_am_aw : am ≠ aw) (ne_am_as : am ≠ as) (ne_aw_as : aw ≠ as) (ne_r1_this : r1 ≠ this) (hin : i < n) (F0 : Exa Z h0 this "com/example/lapse/lapse/MarkingCode") (F1 : Fld Z h0 this "com/example/lapse/lapse/MarkingCode" "most" "[I" (.ref am)) (F2 : Fld Z h0 this "com/example/lapse/lapse/MarkingCode" "words" "[I" (.ref aw)) (F3 : Fld Z h0 this "com/example/lapse/lapse/MarkingCode" "shifts" "[I" (.ref as)) (F4 : Fld Z h0 this "com/example/lapse/lapse/MarkingCode" "length" "I" (.int (0 : Int32))) (F5 : own_Av Z h0 r1 .int n (fun j => .int (wd j))) (F6 : own_Av Z h0 am .int n (own_fl (fun j => own_mo (wd j)) i (fun _ => (.int (0 : Int32))))) (F7 : own_Av Z h0 aw .int n (own_fl (fun j => own_W wd (j + 1)) i (fun _ => (.int (0 : Int32))))) (F8 : own_Av Z h0 as .int n (own_fl (own_S wd) i (fun _ => (.int (0 : Int32))))) (F9 : Keep hs h0 [this]) (hnext : ∀ (T1 : State) (locs1 : List Loc) (h1 : Heap), Stand p l e ({ frames := 1, cells := 3, slots := 9, locals := 12 } : Room) s m args below meth c T1 locs1 3 9 → T1.heap = h1 → Fr n0 locs1 → n0 ≤ h1.size → Exa Z h1 this "com/example/lapse/lapse/MarkingCode" → Fld Z h1 this "com/example/lapse/lapse/MarkingCode" "most" "[I" (.ref am) → Fld Z h1 this "com/example/lapse/lapse/MarkingCode" "words" "[I" (.ref aw) → Fld Z h1 this "com/example/lapse/lapse/MarkingCode" "shifts" "[I" (.ref as) → Fld Z h1 this "com/example/lapse/lapse/MarkingCode" "length" "I" (.int (0 : Int32)) → own_Av Z h1 r1 .int n (fun j => .int (wd j)) → own_Av Z h1 am .int n (own_fl (fun j => own_mo (wd j)) (i + 1) (fun _ => (.int (0 : Int32)))) → own_Av Z h1 aw .int n (own_fl (fun j => own_W wd (j + 1)) (i + 1) (fun _ => (.int (0 : Int32)))) → own_Av Z h1 as .int n (own_fl (own_S wd) (i + 1) (fun _ => (.int (0 : Int32)))) → Keep hs h1 [this] → own_Go p e below T1 (mkF m 36 #[.val (.ref this), .val (.ref r1), .val (.int (Int32.ofNat n)), .val (.int (own_W wd (i + 1))), .val (.int (own_U wd (i + 1))), .val (.int (Int32.ofNat (i + 1)))] []) (own_Fin s (fun (v : Option Value) (h : Heap) (L : List Loc) => v = none ∧ Fr n0 L ∧ Keep hs h [this] ∧ ∃ am aw as : Addr, n0 ≤ am ∧ n0 ≤ aw ∧ n0 ≤ as ∧ hs.size ≤ am ∧ hs.size ≤ aw ∧ hs.size ≤ as ∧ am ≠ aw ∧ am ≠ as ∧ aw ≠ as ∧ Fld Z h this "com/example/lapse/lapse/MarkingCode" "most" "[I" (.ref am) ∧ own_Av Z h am .int n (fun j => .int ((fun j => own_mo (wd j)) j)) ∧ Fld Z h this "com/example/lapse/lapse/MarkingCode" "words" "[I" (.ref aw) ∧ own_Av Z h aw .int n (fun j => .int ((fun j => own_W wd (j + 1)) j)) ∧ Fld Z h this "com/example/lapse/lapse/MarkingCode" "shifts" "[I" (.ref as) ∧ own_Av Z h as .int n (fun j => .int ((own_S wd) j)) ∧ Fld Z h this "com/example/lapse/lapse/MarkingCode" "length" "I" (.int (own_W wd n + (1 : Int32)))) 3 9)) :
    own_Go p e below T0 (mkF m 36 #[.val (.ref this), .val (.ref r1), .val (.int (Int32.ofNat n)), .val (.int (own_W wd i)), .val (.int (own_U wd i)), .val (.int (Int32.ofNat i))] []) (own_Fin s (fun (v : Option Value) (h : Heap) (L : List Loc) => v = none ∧ Fr n0 L ∧ Keep hs h [this] ∧ ∃ am aw as : Addr, n0 ≤ am ∧ n0 ≤ aw ∧ n0 ≤ as ∧ hs.size ≤ am ∧ hs.size ≤ aw ∧ hs.size ≤ as ∧ am ≠ aw ∧ am ≠ as ∧ aw ≠ as ∧ Fld Z h this "com/example/lapse/lapse/MarkingCode" "most" "[I" (.ref am) ∧ own_Av Z h am .int n (fun j => .int ((fun j => own_mo (wd j)) j)) ∧ Fld Z h this "com/example/lapse/lapse/MarkingCode" "words" "[I" (.ref aw) ∧ own_Av Z h aw .int n (fun j => .int ((fun j => own_W wd (j + 1)) j)) ∧ Fld Z h this "com/example/lapse/lapse/MarkingCode" "shifts" "[I" (.ref as) ∧ own_Av Z h as .int n (fun j => .int ((own_S wd) j)) ∧ Fld Z h this "com/example/lapse/lapse/MarkingCode" "length" "I" (.int (own_W wd n + (1 : Int32)))) 3 9) := by
  show own_Go p e below T0 (mkF m 36 #[.val (.ref this), .val (.ref r1), .val (.int (Int32.ofNat n)), .val (.int (own_W wd i)), .val (.int (own_U wd i)), .val (.int (Int32.ofNat i))] []) _
  refine own_s_iload X0.here hx (hb hby own_d6_36) rfl ?_
  refine own_s_iloadN X0.here hx (hb hby own_d6_38) rfl ?_
  refine own_s_icmpNo X0.here hx (hb hby own_d6_39) (Jvm.Free.XT.ii_ge_f (((own_oflt (by omega) (by omega)).mpr hin))) ?_
  refine own_s_iload X0.here hx (hb hby own_d6_42) rfl ?_
  refine own_s_aloadN X0.here hx (hb hby own_d6_44) rfl rfl ?_
  refine own_s_iload X0.here hx (hb hby own_d6_45) rfl ?_
  refine own_by (fun tq_ kq_ => own_ldI X0 hx hZ e0 F5 (k := i) (v := (.int (wd i))) (own_ix (by omega)) hin rfl (g := (mkF m 47 #[.val (.ref this), .val (.ref r1), .val (.int (Int32.ofNat n)), .val (.int (own_W wd i)), .val (.int (own_U wd i)), .val (.int (Int32.ofNat i))] [(.int (Int32.ofNat i)), (.ref r1), (.int (own_U wd i))])) rfl rfl (hb hby own_d6_47) tq_ kq_) ?_
  show own_Go p e below T0 (mkF m 48 #[.val (.ref this), .val (.ref r1), .val (.int (Int32.ofNat n)), .val (.int (own_W wd i)), .val (.int (own_U wd i)), .val (.int (Int32.ofNat i))] [(.int (wd i)), (.int (own_U wd i))]) _
  refine own_s_iadd X0.here hx (hb hby own_d6_48) ?_
  refine own_s_bipush X0.here hx (64 : Int32) (hb hby own_d6_49) rfl ?_
  by_cases hc51 : (64 : Int32) < ((own_U wd i) + (wd i))
  ·
    refine own_s_icmpNo X0.here hx (hb hby own_d6_51) (Jvm.Free.XT.ii_le_f hc51) ?_
    refine own_by (fun tq_ kq_ => XS.iinc X0.here hx rfl (hb hby own_d6_54) rfl (l' := #[.val (.ref this), .val (.ref r1), .val (.int (Int32.ofNat n)), .val (.int ((own_W wd i) + (1 : Int32))), .val (.int (own_U wd i)), .val (.int (Int32.ofNat i))]) rfl kq_) ?_
    show own_Go p e below T0 (mkF m 57 #[.val (.ref this), .val (.ref r1), .val (.int (Int32.ofNat n)), .val (.int ((own_W wd i) + (1 : Int32))), .val (.int (own_U wd i)), .val (.int (Int32.ofNat i))] []) _
    refine own_s_iconst X0.here hx (0 : Int32) (hb hby own_d6_57) rfl ?_
    refine own_s_istore X0.here hx #[.val (.ref this), .val (.ref r1), .val (.int (Int32.ofNat n)), .val (.int ((own_W wd i) + (1 : Int32))), .val (.int (0 : Int32)), .val (.int (Int32.ofNat i))] (hb hby own_d6_58) rfl ?_
    have ew : own_W wd (i + 1) = ((own_W wd i) + (1 : Int32)) := if_pos hc51
    have eu : own_S wd i = (0 : Int32) := if_pos hc51
    rw [← ew, ← eu]
    show own_Go p e below T0 (mkF m 60 #[.val (.ref this), .val (.ref r1), .val (.int (Int32.ofNat n)), .val (.int (own_W wd (i + 1))), .val (.int (own_S wd i)), .val (.int (Int32.ofNat i))] []) _
    refine own_s_aloadN X0.here hx (hb hby own_d6_60) rfl rfl ?_
    obtain ⟨T16, X16, e16, st16⟩ := getF X0 hx hZ hown (host := "") (Or.inl (hw _ (List.mem_of_getElem? (i := 30) rfl))) Via.refl e0 F1 (g := (mkF m 61 #[.val (.ref this), .val (.ref r1), .val (.int (Int32.ofNat n)), .val (.int (own_W wd (i + 1))), .val (.int (own_S wd i)), .val (.int (Int32.ofNat i))] [(.ref this)])) rfl rfl (hb hby own_d6_61)
    refine own_by st16 ?_
    show own_Go p e below T16 (mkF m 64 #[.val (.ref this), .val (.ref r1), .val (.int (Int32.ofNat n)), .val (.int (own_W wd (i + 1))), .val (.int (own_S wd i)), .val (.int (Int32.ofNat i))] [(.ref am)]) _
    refine own_s_iload X16.here hx (hb hby own_d6_64) rfl ?_
    refine own_s_lconst X16.here hx (1 : Int64) (hb hby own_d6_66) rfl ?_
    refine own_s_aloadN X16.here hx (hb hby own_d6_67) rfl rfl ?_
    refine own_s_iload X16.here hx (hb hby own_d6_68) rfl ?_
    refine own_by (fun tq_ kq_ => own_ldI X16 hx hZ e16 F5 (k := i) (v := (.int (wd i))) (own_ix (by omega)) hin rfl (g := (mkF m 70 #[.val (.ref this), .val (.ref r1), .val (.int (Int32.ofNat n)), .val (.int (own_W wd (i + 1))), .val (.int (own_S wd i)), .val (.int (Int32.ofNat i))] [(.int (Int32.ofNat i)), (.ref r1), (.long (1 : Int64)), (.int (Int32.ofNat i)), (.ref am)])) rfl rfl (hb hby own_d6_70) tq_ kq_) ?_
    show own_Go p e below T16 (mkF m 71 #[.val (.ref this), .val (.ref r1), .val (.int (Int32.ofNat n)), .val (.int (own_W wd (i + 1))), .val (.int (own_S wd i)), .val (.int (Int32.ofNat i))] [(.int (wd i)), (.long (1 : Int64)), (.int (Int32.ofNat i)), (.ref am)]) _
    refine own_s_lshl X16.here hx (hb hby own_d6_71) ?_
    refine own_s_lconst X16.here hx (1 : Int64) (hb hby own_d6_72) rfl ?_
    refine own_s_lsub X16.here hx (hb hby own_d6_73) ?_
    refine own_s_l2i X16.here hx (hb hby own_d6_74) ?_
    show own_Go p e below T16 (mkF m 75 #[.val (.ref this), .val (.ref r1), .val (.int (Int32.ofNat n)), .val (.int (own_W wd (i + 1))), .val (.int (own_S wd i)), .val (.int (Int32.ofNat i))] [(.int (own_mo (wd i))), (.int (Int32.ofNat i)), (.ref am)]) _
    obtain ⟨T17, h17, X17, e17, W17, fa17, st17⟩ := own_stI X16 hx hZ e16 F6 (k := i) (own_ix (by omega)) hin (g := (mkF m 75 #[.val (.ref this), .val (.ref r1), .val (.int (Int32.ofNat n)), .val (.int (own_W wd (i + 1))), .val (.int (own_S wd i)), .val (.int (Int32.ofNat i))] [(.int (own_mo (wd i))), (.int (Int32.ofNat i)), (.ref am)])) rfl rfl (hb hby own_d6_75)
    have f18 := F0.wr W17
    have f19 := F1.other W17 (Or.inl ne_this_am)
    have f20 := F2.other W17 (Or.inl ne_this_am)
    have f21 := F3.other W17 (Or.inl ne_this_am)
    have f22 := F4.other W17 (Or.inl ne_this_am)
    have f23 := F5.other W17 ne_r1_am
    have f24 := F7.other W17 (Ne.symm ne_am_aw)
    have f25 := F8.other W17 (Ne.symm ne_am_as)
    have N17 := Fr.snoc X17 N0 ge_am
    have SZ17 : n0 ≤ h17.size := by rw [W17.size]; exact Z0
    have K17 := F9.wr W17 (Or.inr sz_am)
    refine own_by st17 ?_
    show own_Go p e below T17 (mkF m 76 #[.val (.ref this), .val (.ref r1), .val (.int (Int32.ofNat n)), .val (.int (own_W wd (i + 1))), .val (.int (own_S wd i)), .val (.int (Int32.ofNat i))] []) _
    refine own_s_aloadN X17.here hx (hb hby own_d6_76) rfl rfl ?_
    obtain ⟨T26, X26, e26, st26⟩ := getF X17 hx hZ hown (host := "") (Or.inl (hw _ (List.mem_of_getElem? (i := 32) rfl))) Via.refl e17 f20 (g := (mkF m 77 #[.val (.ref this), .val (.ref r1), .val (.int (Int32.ofNat n)), .val (.int (own_W wd (i + 1))), .val (.int (own_S wd i)), .val (.int (Int32.ofNat i))] [(.ref this)])) rfl rfl (hb hby own_d6_77)
    refine own_by st26 ?_
    show own_Go p e below T26 (mkF m 80 #[.val (.ref this), .val (.ref r1), .val (.int (Int32.ofNat n)), .val (.int (own_W wd (i + 1))), .val (.int (own_S wd i)), .val (.int (Int32.ofNat i))] [(.ref aw)]) _
    refine own_s_iload X26.here hx (hb hby own_d6_80) rfl ?_
    refine own_s_iloadN X26.here hx (hb hby own_d6_82) rfl ?_
    obtain ⟨T27, h27, X27, e27, W27, fa27, st27⟩ := own_stI X26 hx hZ e26 f24 (k := i) (own_ix (by omega)) hin (g := (mkF m 83 #[.val (.ref this), .val (.ref r1), .val (.int (Int32.ofNat n)), .val (.int (own_W wd (i + 1))), .val (.int (own_S wd i)), .val (.int (Int32.ofNat i))] [(.int (own_W wd (i + 1))), (.int (Int32.ofNat i)), (.ref aw)])) rfl rfl (hb hby own_d6_83)
    have f28 := f18.wr W27
    have f29 := f19.other W27 (Or.inl ne_this_aw)
    have f30 := f20.other W27 (Or.inl ne_this_aw)
    have f31 := f21.other W27 (Or.inl ne_this_aw)
    have f32 := f22.other W27 (Or.inl ne_this_aw)
    have f33 := f23.other W27 ne_r1_aw
    have f34 := fa17.other W27 ne_am_aw
    have f35 := f25.other W27 (Ne.symm ne_aw_as)
    have N27 := Fr.snoc X27 N17 ge_aw
    have SZ27 : n0 ≤ h27.size := by rw [W27.size]; exact SZ17
    have K27 := K17.wr W27 (Or.inr sz_aw)
    refine own_by st27 ?_
    show own_Go p e below T27 (mkF m 84 #[.val (.ref this), .val (.ref r1), .val (.int (Int32.ofNat n)), .val (.int (own_W wd (i + 1))), .val (.int (own_S wd i)), .val (.int (Int32.ofNat i))] []) _
    refine own_s_aloadN X27.here hx (hb hby own_d6_84) rfl rfl ?_
    obtain ⟨T36, X36, e36, st36⟩ := getF X27 hx hZ hown (host := "") (Or.inl (hw _ (List.mem_of_getElem? (i := 34) rfl))) Via.refl e27 f31 (g := (mkF m 85 #[.val (.ref this), .val (.ref r1), .val (.int (Int32.ofNat n)), .val (.int (own_W wd (i + 1))), .val (.int (own_S wd i)), .val (.int (Int32.ofNat i))] [(.ref this)])) rfl rfl (hb hby own_d6_85)
    refine own_by st36 ?_
    show own_Go p e below T36 (mkF m 88 #[.val (.ref this), .val (.ref r1), .val (.int (Int32.ofNat n)), .val (.int (own_W wd (i + 1))), .val (.int (own_S wd i)), .val (.int (Int32.ofNat i))] [(.ref as)]) _
    refine own_s_iload X36.here hx (hb hby own_d6_88) rfl ?_
    refine own_s_iload X36.here hx (hb hby own_d6_90) rfl ?_
    obtain ⟨T37, h37, X37, e37, W37, fa37, st37⟩ := own_stI X36 hx hZ e36 f35 (k := i) (own_ix (by omega)) hin (g := (mkF m 92 #[.val (.ref this), .val (.ref r1), .val (.int (Int32.ofNat n)), .val (.int (own_W wd (i + 1))), .val (.int (own_S wd i)), .val (.int (Int32.ofNat i))] [(.int (own_S wd i)), (.int (Int32.ofNat i)), (.ref as)])) rfl rfl (hb hby own_d6_92)
    have f38 := f28.wr W37
    have f39 := f29.other W37 (Or.inl ne_this_as)
    have f40 := f30.other W37 (Or.inl ne_this_as)
    have f41 := f31.other W37 (Or.inl ne_this_as)
    have f42 := f32.other W37 (Or.inl ne_this_as)
    have f43 := f33.other W37 ne_r1_as
    have f44 := f34.other W37 ne_am_as
    have f45 := fa27.other W37 ne_aw_as
    have N37 := Fr.snoc X37 N27 ge_as
    have SZ37 : n0 ≤ h37.size := by rw [W37.size]; exact SZ27
    have K37 := K27.wr W37 (Or.inr sz_as)
    refine own_by st37 ?_
    show own_Go p e below T37 (mkF m 93 #[.val (.ref this), .val (.ref r1), .val (.int (Int32.ofNat n)), .val (.int (own_W wd (i + 1))), .val (.int (own_S wd i)), .val (.int (Int32.ofNat i))] []) _
    refine own_s_iload X37.here hx (hb hby own_d6_93) rfl ?_
    refine own_s_aloadN X37.here hx (hb hby own_d6_95) rfl rfl ?_
    refine own_s_iload X37.here hx (hb hby own_d6_96) rfl ?_
    refine own_by (fun tq_ kq_ => own_ldI X37 hx hZ e37 f43 (k := i) (v := (.int (wd i))) (own_ix (by omega)) hin rfl (g := (mkF m 98 #[.val (.ref this), .val (.ref r1), .val (.int (Int32.ofNat n)), .val (.int (own_W wd (i + 1))), .val (.int (own_S wd i)), .val (.int (Int32.ofNat i))] [(.int (Int32.ofNat i)), (.ref r1), (.int (own_S wd i))])) rfl rfl (hb hby own_d6_98) tq_ kq_) ?_
    show own_Go p e below T37 (mkF m 99 #[.val (.ref this), .val (.ref r1), .val (.int (Int32.ofNat n)), .val (.int (own_W wd (i + 1))), .val (.int (own_S wd i)), .val (.int (Int32.ofNat i))] [(.int (wd i)), (.int (own_S wd i))]) _
    refine own_s_iadd X37.here hx (hb hby own_d6_99) ?_
    refine own_s_istore X37.here hx #[.val (.ref this), .val (.ref r1), .val (.int (Int32.ofNat n)), .val (.int (own_W wd (i + 1))), .val (.int ((own_S wd i) + (wd i))), .val (.int (Int32.ofNat i))] (hb hby own_d6_100) rfl ?_
    show own_Go p e below T37 (mkF m 102 #[.val (.ref this), .val (.ref r1), .val (.int (Int32.ofNat n)), .val (.int (own_W wd (i + 1))), .val (.int (own_U wd (i + 1))), .val (.int (Int32.ofNat i))] []) _
    refine own_by (fun tq_ kq_ => XS.iinc X37.here hx rfl (hb hby own_d6_102) rfl (l' := #[.val (.ref this), .val (.ref r1), .val (.int (Int32.ofNat n)), .val (.int (own_W wd (i + 1))), .val (.int (own_U wd (i + 1))), .val (.int ((Int32.ofNat i) + (1 : Int32)))]) rfl kq_) ?_
    show own_Go p e below T37 (mkF m 105 #[.val (.ref this), .val (.ref r1), .val (.int (Int32.ofNat n)), .val (.int (own_W wd (i + 1))), .val (.int (own_U wd (i + 1))), .val (.int ((Int32.ofNat i) + (1 : Int32)))] []) _
    refine own_s_goto X37.here hx 36 (hb hby own_d6_105) (by decide) (by decide) ?_
    rw [own_ofs]
    exact hnext _ _ _ X37 e37 N37 SZ37 f38 f39 f40 f41 f42 f43 (f44.cong rfl (fun j _ => own_fl_up (fun j => own_mo (wd j)) i (fun _ => (.int (0 : Int32))) j)) (f45.cong rfl (fun j _ => own_fl_up (fun j => own_W wd (j + 1)) i (fun _ => (.int (0 : Int32))) j)) (fa37.cong rfl (fun j _ => own_fl_up (own_S wd) i (fun _ => (.int (0 : Int32))) j)) K37
  ·
    show own_Go p e below T0 (mkF m 51 #[.val (.ref this), .val (.ref r1), .val (.int (Int32.ofNat n)), .val (.int (own_W wd i)), .val (.int (own_U wd i)), .val (.int (Int32.ofNat i))] [(.int (64 : Int32)), (.int ((own_U wd i) + (wd i)))]) _
    refine own_s_icmpYes X0.here hx 60 (hb hby own_d6_51) (Jvm.Free.XT.ii_le_t hc51) (by decide) (by decide) ?_
    have ew : own_W wd (i + 1) = (own_W wd i) := if_neg hc51
    have eu : own_S wd i = (own_U wd i) := if_neg hc51
    rw [← ew, ← eu]
    show own_Go p e below T0 (mkF m 60 #[.val (.ref this), .val (.ref r1), .val (.int (Int32.ofNat n)), .val (.int (own_W wd (i + 1))), .val (.int (own_S wd i)), .val (.int (Int32.ofNat i))] []) _
    refine own_s_aloadN X0.here hx (hb hby own_d6_60) rfl rfl ?_
    obtain ⟨T46, X46, e46, st46⟩ := getF X0 hx hZ hown (host := "") (Or.inl (hw _ (List.mem_of_getElem? (i := 30) rfl))) Via.refl e0 F1 (g := (mkF m 61 #[.val (.ref this), .val (.ref r1), .val (.int (Int32.ofNat n)), .val (.int (own_W wd (i + 1))), .val (.int (own_S wd i)), .val (.int (Int32.ofNat i))] [(.ref this)])) rfl rfl (hb hby own_d6_61)
    refine own_by st46 ?_
    show own_Go p e below T46 (mkF m 64 #[.val (.ref this), .val (.ref r1), .val (.int (Int32.ofNat n)), .val (.int (own_W wd (i + 1))), .val (.int (own_S wd i)), .val (.int (Int32.ofNat i))] [(.ref am)]) _
    refine own_s_iload X46.here hx (hb hby own_d6_64) rfl ?_
    refine own_s_lconst X46.here hx (1 : Int64) (hb hby own_d6_66) rfl ?_
    refine own_s_aloadN X46.here hx (hb hby own_d6_67) rfl rfl ?_
    refine own_s_iload X46.here hx (hb hby own_d6_68) rfl ?_
    refine own_by (fun tq_ kq_ => own_ldI X46 hx hZ e46 F5 (k := i) (v := (.int (wd i))) (own_ix (by omega)) hin rfl (g := (mkF m 70 #[.val (.ref this), .val (.ref r1), .val (.int (Int32.ofNat n)), .val (.int (own_W wd (i + 1))), .val (.int (own_S wd i)), .val (.int (Int32.ofNat i))] [(.int (Int32.ofNat i)), (.ref r1), (.long (1 : Int64)), (.int (Int32.ofNat i)), (.ref am)])) rfl rfl (hb hby own_d6_70) tq_ kq_) ?_
    show own_Go p e below T46 (mkF m 71 #[.val (.ref this), .val (.ref r1), .val (.int (Int32.ofNat n)), .val (.int (own_W wd (i + 1))), .val (.int (own_S wd i)), .val (.int (Int32.ofNat i))] [(.int (wd i)), (.long (1 : Int64)), (.int (Int32.ofNat i)), (.ref am)]) _
    refine own_s_lshl X46.here hx (hb hby own_d6_71) ?_
    refine own_s_lconst X46.here hx (1 : Int64) (hb hby own_d6_72) rfl ?_
    refine own_s_lsub X46.here hx (hb hby own_d6_73) ?_
    refine own_s_l2i X46.here hx (hb hby own_d6_74) ?_
    show own_Go p e below T46 (mkF m 75 #[.val (.ref this), .val (.ref r1), .val (.int (Int32.ofNat n)), .val (.int (own_W wd (i + 1))), .val (.int (own_S wd i)), .val (.int (Int32.ofNat i))] [(.int (own_mo (wd i))), (.int (Int32.ofNat i)), (.ref am)]) _
    obtain ⟨T47, h47, X47, e47, W47, fa47, st47⟩ := own_stI X46 hx hZ e46 F6 (k := i) (own_ix (by omega)) hin (g := (mkF m 75 #[.val (.ref this), .val (.ref r1), .val (.int (Int32.ofNat n)), .val (.int (own_W wd (i + 1))), .val (.int (own_S wd i)), .val (.int (Int32.ofNat i))] [(.int (own_mo (wd i))), (.int (Int32.ofNat i)), (.ref am)])) rfl rfl (hb hby own_d6_75)
    have f48 := F0.wr W47
    have f49 := F1.other W47 (Or.inl ne_this_am)
    have f50 := F2.other W47 (Or.inl ne_this_am)
    have f51 := F3.other W47 (Or.inl ne_this_am)
    have f52 := F4.other W47 (Or.inl ne_this_am)
    have f53 := F5.other W47 ne_r1_am
    have f54 := F7.other W47 (Ne.symm ne_am_aw)
    have f55 := F8.other W47 (Ne.symm ne_am_as)
    have N47 := Fr.snoc X47 N0 ge_am
    have SZ47 : n0 ≤ h47.size := by rw [W47.size]; exact Z0
    have K47 := F9.wr W47 (Or.inr sz_am)
    refine own_by st47 ?_
    show own_Go p e below T47 (mkF m 76 #[.val (.ref this), .val (.ref r1), .val (.int (Int32.ofNat n)), .val (.int (own_W wd (i + 1))), .val (.int (own_S wd i)), .val (.int (Int32.ofNat i))] []) _
    refine own_s_aloadN X47.here hx (hb hby own_d6_76) rfl rfl ?_
    obtain ⟨T56, X56, e56, st56⟩ := getF X47 hx hZ hown (host := "") (Or.inl (hw _ (List.mem_of_getElem? (i := 32) rfl))) Via.refl e47 f50 (g := (mkF m 77 #[.val (.ref this), .val (.ref r1), .val (.int (Int32.ofNat n)), .val (.int (own_W wd (i + 1))), .val (.int (own_S wd i)), .val (.int (Int32.ofNat i))] [(.ref this)])) rfl rfl (hb hby own_d6_77)
    refine own_by st56 ?_
    show own_Go p e below T56 (mkF m 80 #[.val (.ref this), .val (.ref r1), .val (.int (Int32.ofNat n)), .val (.int (own_W wd (i + 1))), .val (.int (own_S wd i)), .val (.int (Int32.ofNat i))] [(.ref aw)]) _
    refine own_s_iload X56.here hx (hb hby own_d6_80) rfl ?_
    refine own_s_iloadN X56.here hx (hb hby own_d6_82) rfl ?_
    obtain ⟨T57, h57, X57, e57, W57, fa57, st57⟩ := own_stI X56 hx hZ e56 f54 (k := i) (own_ix (by omega)) hin (g := (mkF m 83 #[.val (.ref this), .val (.ref r1), .val (.int (Int32.ofNat n)), .val (.int (own_W wd (i + 1))), .val (.int (own_S wd i)), .val (.int (Int32.ofNat i))] [(.int (own_W wd (i + 1))), (.int (Int32.ofNat i)), (.ref aw)])) rfl rfl (hb hby own_d6_83)
    have f58 := f48.wr W57
    have f59 := f49.other W57 (Or.inl ne_this_aw)
    have f60 := f50.other W57 (Or.inl ne_this_aw)
    have f61 := f51.other W57 (Or.inl ne_this_aw)
    have f62 := f52.other W57 (Or.inl ne_this_aw)
    have f63 := f53.other W57 ne_r1_aw
    have f64 := fa47.other W57 ne_am_aw
    have f65 := f55.other W57 (Ne.symm ne_aw_as)
    have N57 := Fr.snoc X57 N47 ge_aw
    have SZ57 : n0 ≤ h57.size := by rw [W57.size]; exact SZ47
    have K57 := K47.wr W57 (Or.inr sz_aw)
    refine own_by st57 ?_
    show own_Go p e below T57 (mkF m 84 #[.val (.ref this), .val (.ref r1), .val (.int (Int32.ofNat n)), .val (.int (own_W wd (i + 1))), .val (.int (own_S wd i)), .val (.int (Int32.ofNat i))] []) _
    refine own_s_aloadN X57.here hx (hb hby own_d6_84) rfl rfl ?_
    obtain ⟨T66, X66, e66, st66⟩ := getF X57 hx hZ hown (host := "") (Or.inl (hw _ (List.mem_of_getElem? (i := 34) rfl))) Via.refl e57 f61 (g := (mkF m 85 #[.val (.ref this), .val (.ref r1), .val (.int (Int32.ofNat n)), .val (.int (own_W wd (i + 1))), .val (.int (own_S wd i)), .val (.int (Int32.ofNat i))] [(.ref this)])) rfl rfl (hb hby own_d6_85)
    refine own_by st66 ?_
    show own_Go p e below T66 (mkF m 88 #[.val (.ref this), .val (.ref r1), .val (.int (Int32.ofNat n)), .val (.int (own_W wd (i + 1))), .val (.int (own_S wd i)), .val (.int (Int32.ofNat i))] [(.ref as)]) _
    refine own_s_iload X66.here hx (hb hby own_d6_88) rfl ?_
    refine own_s_iload X66.here hx (hb hby own_d6_90) rfl ?_
    obtain ⟨T67, h67, X67, e67, W67, fa67, st67⟩ := own_stI X66 hx hZ e66 f65 (k := i) (own_ix (by omega)) hin (g := (mkF m 92 #[.val (.ref this), .val (.ref r1), .val (.int (Int32.ofNat n)), .val (.int (own_W wd (i + 1))), .val (.int (own_S wd i)), .val (.int (Int32.ofNat i))] [(.int (own_S wd i)), (.int (Int32.ofNat i)), (.ref as)])) rfl rfl (hb hby own_d6_92)
    have f68 := f58.wr W67
    have f69 := f59.other W67 (Or.inl ne_this_as)
    have f70 := f60.other W67 (Or.inl ne_this_as)
    have f71 := f61.other W67 (Or.inl ne_this_as)
    have f72 := f62.other W67 (Or.inl ne_this_as)
    have f73 := f63.other W67 ne_r1_as
    have f74 := f64.other W67 ne_am_as
    have f75 := fa57.other W67 ne_aw_as
    have N67 := Fr.snoc X67 N57 ge_as
    have SZ67 : n0 ≤ h67.size := by rw [W67.size]; exact SZ57
    have K67 := K57.wr W67 (Or.inr sz_as)
    refine own_by st67 ?_
    show own_Go p e below T67 (mkF m 93 #[.val (.ref this), .val (.ref r1), .val (.int (Int32.ofNat n)), .val (.int (own_W wd (i + 1))), .val (.int (own_S wd i)), .val (.int (Int32.ofNat i))] []) _
    refine own_s_iload X67.here hx (hb hby own_d6_93) rfl ?_
    refine own_s_aloadN X67.here hx (hb hby own_d6_95) rfl rfl ?_
    refine own_s_iload X67.here hx (hb hby own_d6_96) rfl ?_
    refine own_by (fun tq_ kq_ => own_ldI X67 hx hZ e67 f73 (k := i) (v := (.int (wd i))) (own_ix (by omega)) hin rfl (g := (mkF m 98 #[.val (.ref this), .val (.ref r1), .val (.int (Int32.ofNat n)), .val (.int (own_W wd (i + 1))), .val (.int (own_S wd i)), .val (.int (Int32.ofNat i))] [(.int (Int32.ofNat i)), (.ref r1), (.int (own_S wd i))])) rfl rfl (hb hby own_d6_98) tq_ kq_) ?_
    show own_Go p e below T67 (mkF m 99 #[.val (.ref this), .val (.ref r1), .val (.int (Int32.ofNat n)), .val (.int (own_W wd (i + 1))), .val (.int (own_S wd i)), .val (.int (Int32.ofNat i))] [(.int (wd i)), (.int (own_S wd i))]) _
    refine own_s_iadd X67.here hx (hb hby own_d6_99) ?_
    refine own_s_istore X67.here hx #[.val (.ref this), .val (.ref r1), .val (.int (Int32.ofNat n)), .val (.int (own_W wd (i + 1))), .val (.int ((own_S wd i) + (wd i))), .val (.int (Int32.ofNat i))] (hb hby own_d6_100) rfl ?_
    show own_Go p e below T67 (mkF m 102 #[.val (.ref this), .val (.ref r1), .val (.int (Int32.ofNat n)), .val (.int (own_W wd (i + 1))), .val (.int (own_U wd (i + 1))), .val (.int (Int32.ofNat i))] []) _
    refine own_by (fun tq_ kq_ => XS.iinc X67.here hx rfl (hb hby own_d6_102) rfl (l' := #[.val (.ref this), .val (.ref r1), .val (.int (Int32.ofNat n)), .val (.int (own_W wd (i + 1))), .val (.int (own_U wd (i + 1))), .val (.int ((Int32.ofNat i) + (1 : Int32)))]) rfl kq_) ?_
    show own_Go p e below T67 (mkF m 105 #[.val (.ref this), .val (.ref r1), .val (.int (Int32.ofNat n)), .val (.int (own_W wd (i + 1))), .val (.int (own_U wd (i + 1))), .val (.int ((Int32.ofNat i) + (1 : Int32)))] []) _
    refine own_s_goto X67.here hx 36 (hb hby own_d6_105) (by decide) (by decide) ?_
    rw [own_ofs]
    exact hnext _ _ _ X67 e67 N67 SZ67 f68 f69 f70 f71 f72 f73 (f74.cong rfl (fun j _ => own_fl_up (fun j => own_mo (wd j)) i (fun _ => (.int (0 : Int32))) j)) (f75.cong rfl (fun j _ => own_fl_up (fun j => own_W wd (j + 1)) i (fun _ => (.int (0 : Int32))) j)) (fa67.cong rfl (fun j _ => own_fl_up (own_S wd) i (fun _ => (.int (0 : Int32))) j)) K67
set_option maxRecDepth 65536 in
set_option maxHeartbeats 40000000 in
theorem own_ini {p : Program} {l : Launch} {e : Env} {s : State} {m : MethodId} {args : Array Value} {below : List Frame} {meth : Method} {c : Code} {Z : State} {a0 : Array Value} {n0 : Nat} (hx : p.tables.exec = Jvm.exec) (hZ : Z.Warmed39 s.vm) (hw : ∀ d ∈ tables_1, d.before a0 Z = true) (hby : c.code = prog_21_method_2_code) (hml : c.maxLocals = 6) (hown : s.vm.findClass "com/example/lapse/lapse/MarkingCode" = some m.cls) (hnm : meth.name = "<init>") (hret : meth.sig.returnType = none) (hlk : meth.locks = false) (hs : Heap) (this r1 am aw as : Addr) (n : Nat) (wd : Nat → Int32) (hn : n ≤ 3) (ge_this : n0 ≤ this) (ge_am : n0 ≤ am) (ge_aw : n0 ≤ aw) (ge_as : n0 ≤ as) (sz_am : hs.size ≤ am) (sz_aw : hs.size ≤ aw) (sz_as : hs.size ≤ as) (ne_this_am : this ≠ am) (ne_this_aw : this ≠ aw) (ne_this_as : this ≠ as) (ne_r1_am : r1 ≠ am) (ne_r1_aw : r1 ≠ aw) (ne_r1_as : r1 ≠ as) (ne_am_aw : am ≠ aw) (ne_am_as : am ≠ as) (ne_aw_as : aw ≠ as) (ne_r1_this : r1 ≠ this) : ∀ (r i : Nat) (hin : i + r = n) {T0 : State} {locs : List Loc} {h0 : Heap} (X0 : Stand p l e ({ frames := 1, cells := 3, slots := 9, locals := 12 } : Room) s m args below meth c T0 locs 3 9) (e0 : T0.heap = h0) (N0 : Fr n0 locs) (Z0 : n0 ≤ h0.size) (F0 : Exa Z h0 this "com/example/lapse/lapse/MarkingCode") (F1 : Fld Z h0 this "com/example/lapse/lapse/MarkingCode" "most" "[I" (.ref am)) (F2 : Fld Z h0 this "com/example/lapse/lapse/MarkingCode" "words" "[I" (.ref aw)) (F3 : Fld Z h0 this "com/example/lapse/lapse/MarkingCode" "shifts" "[I" (.ref as)) (F4 : Fld Z h0 this "com/example/lapse/lapse/MarkingCode" "length" "I" (.int (0 : Int32))) (F5 : own_Av Z h0 r1 .int n (fun j => .int (wd j))) (F6 : own_Av Z h0 am .int n (own_fl (fun j => own_mo (wd j)) i (fun _ => (.int (0 : Int32))))) (F7 : own_Av Z h0 aw .int n (own_fl (fun j => own_W wd (j + 1)) i (fun _ => (.int (0 : Int32))))) (F8 : own_Av Z h0 as .int n (own_fl (own_S wd) i (fun _ => (.int (0 : Int32))))) (F9 : Keep hs h0 [this]),
    own_Go p e below T0 (mkF m 36 #[.val (.ref this), .val (.ref r1), .val (.int (Int32.ofNat n)), .val (.int (own_W wd i)), .val (.int (own_U wd i)), .val (.int (Int32.ofNat i))] []) (own_Fin s (fun (v : Option Value) (h : Heap) (L : List Loc) => v = none ∧ Fr n0 L ∧ Keep hs h [this] ∧ ∃ am aw as : Addr, n0 ≤ am ∧ n0 ≤ aw ∧ n0 ≤ as ∧ hs.size ≤ am ∧ hs.size ≤ aw ∧ hs.size ≤ as ∧ am ≠ aw ∧ am ≠ as ∧ aw ≠ as ∧ Fld Z h this "com/example/lapse/lapse/MarkingCode" "most" "[I" (.ref am) ∧ own_Av Z h am .int n (fun j => .int ((fun j => own_mo (wd j)) j)) ∧ Fld Z h this "com/example/lapse/lapse/MarkingCode" "words" "[I" (.ref aw) ∧ own_Av Z h aw .int n (fun j => .int ((fun j => own_W wd (j + 1)) j)) ∧ Fld Z h this "com/example/lapse/lapse/MarkingCode" "shifts" "[I" (.ref as) ∧ own_Av Z h as .int n (fun j => .int ((own_S wd) j)) ∧ Fld Z h this "com/example/lapse/lapse/MarkingCode" "length" "I" (.int (own_W wd n + (1 : Int32)))) 3 9) := by
  intro r
  induction r with
  | zero =>
    intro i hin T0 locs h0 X0 e0 N0 Z0 F0 F1 F2 F3 F4 F5 F6 F7 F8 F9
    exact own_ini_x hx hZ hw hby hml hown hnm hret hlk hs i this r1 am aw as n wd X0 e0 N0 Z0 hn ge_this ge_am ge_aw ge_as sz_am sz_aw sz_as ne_this_am ne_this_aw ne_this_as ne_r1_am ne_r1_aw ne_r1_as ne_am_aw ne_am_as ne_aw_as ne_r1_this (by omega) F0 F1 F2 F3 F4 F5 F6 F7 F8 F9
  | succ r ih =>
    intro i hin T0 locs h0 X0 e0 N0 Z0 F0 F1 F2 F3 F4 F5 F6 F7 F8 F9
    exact own_ini_t hx hZ hw hby hml hown hnm hret hlk hs i this r1 am aw as n wd X0 e0 N0 Z0 hn ge_this ge_am ge_aw ge_as sz_am sz_aw sz_as ne_this_am ne_this_aw ne_this_as ne_r1_am ne_r1_aw ne_r1_as ne_am_aw ne_am_as ne_aw_as ne_r1_this (by omega) F0 F1 F2 F3 F4 F5 F6 F7 F8 F9 (fun T1 locs1 h1 X1 e1 N1 Z1 G0 G1 G2 G3 G4 G5 G6 G7 G8 G9 => ih (i + 1) (by omega) X1 e1 N1 Z1 G0 G1 G2 G3 G4 G5 G6 G7 G8 G9)
theorem own_ef6 (m : MethodId) (this : Addr) (r1 : Addr) : entryFrame m #[(.ref this), (.ref r1)] 6 = mkF m 0 #[.val (.ref this), .val (.ref r1), .unset, .unset, .unset, .unset] [] := by first | (simp [entryFrame, mkF, argsToLocals, Value.category]; done) | rfl
def own_q_own_r6 (Z : State) (this : Addr) (r1 : Addr) (n : Nat) (wd : Nat → Int32) (h0 : Heap) (n0 : Nat) (v : Option Value) (h : Heap) (L : List Loc) : Prop := v = none ∧ Fr n0 L ∧ Keep h0 h [this] ∧ ∃ am aw as : Addr, n0 ≤ am ∧ n0 ≤ aw ∧ n0 ≤ as ∧ h0.size ≤ am ∧ h0.size ≤ aw ∧ h0.size ≤ as ∧ am ≠ aw ∧ am ≠ as ∧ aw ≠ as ∧ Fld Z h this "com/example/lapse/lapse/MarkingCode" "most" "[I" (.ref am) ∧ own_Av Z h am .int n (fun j => .int ((fun j => own_mo (wd j)) j)) ∧ Fld Z h this "com/example/lapse/lapse/MarkingCode" "words" "[I" (.ref aw) ∧ own_Av Z h aw .int n (fun j => .int ((fun j => own_W wd (j + 1)) j)) ∧ Fld Z h this "com/example/lapse/lapse/MarkingCode" "shifts" "[I" (.ref as) ∧ own_Av Z h as .int n (fun j => .int ((own_S wd) j)) ∧ Fld Z h this "com/example/lapse/lapse/MarkingCode" "length" "I" (.int (own_W wd n + (1 : Int32)))
set_option maxRecDepth 65536 in
set_option maxHeartbeats 40000000 in
theorem own_r6 (l : Launch) (Z : State) (a0 : Array Value) (hw : ∀ d ∈ tables_1, d.before a0 Z = true) (ws : List Jvm.Cond) (this : Addr) (r1 : Addr) (n : Nat) (wd : Nat → Int32) (h0 : Heap) (n0 : Nat) (Z0 : n0 ≤ h0.size) (hn : n ≤ 3) (E_this : Exa Z h0 this "com/example/lapse/lapse/MarkingCode") (F_this_most : Fld Z h0 this "com/example/lapse/lapse/MarkingCode" "most" "[I" .null) (F_this_words : Fld Z h0 this "com/example/lapse/lapse/MarkingCode" "words" "[I" .null) (F_this_shifts : Fld Z h0 this "com/example/lapse/lapse/MarkingCode" "shifts" "[I" .null) (F_this_length : Fld Z h0 this "com/example/lapse/lapse/MarkingCode" "length" "I" (.int (0 : Int32))) (ge_this : n0 ≤ this) (A_r1 : own_Av Z h0 r1 .int n (fun j => .int (wd j))) (ne_r1_this : r1 ≠ this) :
    MetFree l (⟨"com/example/lapse/lapse/MarkingCode", "<init>", "([I)V"⟩ : MethodName) (head1 (Jvm.Cond.code (⟨"com/example/lapse/lapse/MarkingCode", "<init>", "([I)V"⟩ : MethodName) prog_21_method_2_code 6 none :: ws) ({ frames := 1, cells := 3, slots := 9, locals := 12 } : Room)) (fun aq Uq => aq = #[(.ref this), (.ref r1)] ∧ Z.Warmed39 Uq.vm ∧ Uq.heap = h0) (fun _ _ _ _ _ => True) (fun _ Uq oq Uq' => ∃ vq Lq, oq = .returned vq ∧ own_q_own_r6 Z this r1 n wd h0 n0 vq Uq'.heap Lq ∧ FrameEnd Uq oq Uq' Lq ({ frames := 1, cells := 3, slots := 9, locals := 12 } : Room).cells ({ frames := 1, cells := 3, slots := 9, locals := 12 } : Room).slots) := by
  refine MetFree.of_bodySF (plainFor_of_name own_pn_MarkingCode) hisR ?_
  intro p e s m args below meth c T0 Bd hml0 hP hK
  obtain ⟨rfl, hZ, hh⟩ := hP
  have hx := Bd.exec
  have hby := Bd.bytes
  have hml : c.maxLocals = 6 := hml0
  have hown : s.vm.findClass "com/example/lapse/lapse/MarkingCode" = some m.cls := findClass_of_methodNamed Bd.named
  have hnm := (name_of_methodNamed Bd.named Bd.method).1
  have hret : meth.sig.returnType = none := Bd.returns
  have hlk : meth.locks = false := BodyLoose.notSynchronized Bd
  have X0 : Stand p l e ({ frames := 1, cells := 3, slots := 9, locals := 12 } : Room) s m #[(.ref this), (.ref r1)] below meth c T0 [] 0 0 := Stand.of_body Bd
  have e0 : T0.heap = h0 := by rw [← hh, Bd.state]; rfl
  have N0 := Fr.nil n0
  refine own_start (own_ef6 m this r1) (Q := fun (v : Option Value) (h : Heap) (L : List Loc) => v = none ∧ Fr n0 L ∧ Keep h0 h [this] ∧ ∃ am aw as : Addr, n0 ≤ am ∧ n0 ≤ aw ∧ n0 ≤ as ∧ h0.size ≤ am ∧ h0.size ≤ aw ∧ h0.size ≤ as ∧ am ≠ aw ∧ am ≠ as ∧ aw ≠ as ∧ Fld Z h this "com/example/lapse/lapse/MarkingCode" "most" "[I" (.ref am) ∧ own_Av Z h am .int n (fun j => .int ((fun j => own_mo (wd j)) j)) ∧ Fld Z h this "com/example/lapse/lapse/MarkingCode" "words" "[I" (.ref aw) ∧ own_Av Z h aw .int n (fun j => .int ((fun j => own_W wd (j + 1)) j)) ∧ Fld Z h this "com/example/lapse/lapse/MarkingCode" "shifts" "[I" (.ref as) ∧ own_Av Z h as .int n (fun j => .int ((own_S wd) j)) ∧ Fld Z h this "com/example/lapse/lapse/MarkingCode" "length" "I" (.int (own_W wd n + (1 : Int32)))) (k := 3) (j := 9) ?_
  show own_Go p e below T0 (mkF m 0 #[.val (.ref this), .val (.ref r1), .unset, .unset, .unset, .unset] []) _
  have K0 := Keep.refl h0 [this]
  refine own_s_aloadN X0.here hx (hb hby own_d6_0) rfl rfl ?_
  obtain ⟨T76, X76, e76, st76⟩ := initO X0 hx hZ hown (hw _ (List.mem_of_getElem? (i := 27) rfl)) (hw _ (List.mem_of_getElem? (i := 28) rfl)) (hw _ (List.mem_of_getElem? (i := 29) rfl)) e0 (g := (mkF m 1 #[.val (.ref this), .val (.ref r1), .unset, .unset, .unset, .unset] [(.ref this)])) rfl (by rw [hml]; rfl) rfl (hb hby own_d6_1) (by decide) (W := 0) (by show 2 * 0 + _ ≤ _; exact Nat.le_of_eq rfl) (by decide)
  refine own_by st76 ?_
  show own_Go p e below T76 (mkF m 4 #[.val (.ref this), .val (.ref r1), .unset, .unset, .unset, .unset] []) _
  refine own_s_aloadN X76.here hx (hb hby own_d6_4) rfl rfl ?_
  refine own_by (fun tq_ kq_ => own_len X76 hx hZ e76 A_r1 (z := (Int32.ofNat n)) rfl (g := (mkF m 5 #[.val (.ref this), .val (.ref r1), .unset, .unset, .unset, .unset] [(.ref r1)])) rfl rfl (hb hby own_d6_5) tq_ kq_) ?_
  show own_Go p e below T76 (mkF m 6 #[.val (.ref this), .val (.ref r1), .unset, .unset, .unset, .unset] [(.int (Int32.ofNat n))]) _
  refine own_s_istoreN X76.here hx #[.val (.ref this), .val (.ref r1), .val (.int (Int32.ofNat n)), .unset, .unset, .unset] (hb hby own_d6_6) rfl ?_
  refine own_s_aloadN X76.here hx (hb hby own_d6_7) rfl rfl ?_
  refine own_s_iloadN X76.here hx (hb hby own_d6_8) rfl ?_
  obtain ⟨T77, h77, k77, X77, e77, E77, A77, st77⟩ := newP X76 hx hZ (hw _ (List.mem_of_getElem? (i := 19) rfl)) e76 (g := (mkF m 9 #[.val (.ref this), .val (.ref r1), .val (.int (Int32.ofNat n)), .unset, .unset, .unset] [(.int (Int32.ofNat n)), (.ref this)])) rfl (hb hby own_d6_9) rfl ((own_ix (by omega)).1) (cap := 3) (by rw [(own_ix (by omega)).2]; exact hn) (by decide) (by decide) (by decide)
  obtain ⟨b77, g77⟩ : ∃ z, z = h0.size := ⟨_, rfl⟩
  rw [← g77] at A77 st77
  have ge_b77 : n0 ≤ b77 := Nat.le_trans Z0 (Nat.le_of_eq g77.symm)
  have sz_b77 : h0.size ≤ b77 := Nat.le_trans K0.1 (Nat.le_of_eq g77.symm)
  have ne_this_b77 : this ≠ b77 := Nat.ne_of_lt (Nat.lt_of_lt_of_le E_this.lt (Nat.le_of_eq g77.symm))
  have ne_r1_b77 : r1 ≠ b77 := Nat.ne_of_lt (Nat.lt_of_lt_of_le A_r1.lt (Nat.le_of_eq g77.symm))
  have f78 := E_this.ext E77
  have f79 := F_this_most.ext E77
  have f80 := F_this_words.ext E77
  have f81 := F_this_shifts.ext E77
  have f82 := F_this_length.ext E77
  have f83 := A_r1.ext E77
  have SZ77 : n0 ≤ h77.size := Nat.le_trans Z0 E77.1
  have K77 := K0.ext E77
  have f84 : own_Av Z h77 b77 .int n (fun _ => (.int (0 : Int32))) := own_Av.ofnew A77 ((own_ix (by omega)).2) rfl
  refine own_by st77 ?_
  show own_Go p e below T77 (mkF m 11 #[.val (.ref this), .val (.ref r1), .val (.int (Int32.ofNat n)), .unset, .unset, .unset] [(.ref b77), (.ref this)]) _
  obtain ⟨T85, h85, X85, e85, W85, st85⟩ := putF X77 hx hZ hown (host := "") (Or.inl (hw _ (List.mem_of_getElem? (i := 30) rfl))) Via.refl e77 f79 f78 (Or.inr ⟨(hw _ (List.mem_of_getElem? (i := 31) rfl)), rfl, hnm⟩) (hw _ (List.mem_of_getElem? (i := 11) rfl)) (ty := (.array .int)) (by decide) rfl rfl (g := (mkF m 11 #[.val (.ref this), .val (.ref r1), .val (.int (Int32.ofNat n)), .unset, .unset, .unset] [(.ref b77), (.ref this)])) rfl rfl (hb hby own_d6_11)
  have fw85 := f79.same W85
  have f86 := f78.wr W85
  have f87 := f80.other W85 (Or.inr (slot_ne (Or.inr (hw _ (List.mem_of_getElem? (i := 33) rfl))) (Or.inr (hw _ (List.mem_of_getElem? (i := 31) rfl))) (by decide) (t := (.array .int)) (t' := (.array .int)) (by decide) (by decide)))
  have f88 := f81.other W85 (Or.inr (slot_ne (Or.inr (hw _ (List.mem_of_getElem? (i := 35) rfl))) (Or.inr (hw _ (List.mem_of_getElem? (i := 31) rfl))) (by decide) (t := (.array .int)) (t' := (.array .int)) (by decide) (by decide)))
  have f89 := f82.other W85 (Or.inr (slot_ne (Or.inr (hw _ (List.mem_of_getElem? (i := 37) rfl))) (Or.inr (hw _ (List.mem_of_getElem? (i := 31) rfl))) (by decide) (t := .int) (t' := (.array .int)) (by decide) (by decide)))
  have f90 := f83.other W85 ne_r1_this
  have f91 := f84.other W85 (Ne.symm ne_this_b77)
  have N85 := Fr.snoc X85 N0 ge_this
  have SZ85 : n0 ≤ h85.size := by rw [W85.size]; exact SZ77
  have K85 := K77.wr W85 (Or.inl (List.mem_of_getElem? (i := 0) rfl))
  refine own_by st85 ?_
  show own_Go p e below T85 (mkF m 14 #[.val (.ref this), .val (.ref r1), .val (.int (Int32.ofNat n)), .unset, .unset, .unset] []) _
  refine own_s_aloadN X85.here hx (hb hby own_d6_14) rfl rfl ?_
  refine own_s_iloadN X85.here hx (hb hby own_d6_15) rfl ?_
  obtain ⟨T92, h92, k92, X92, e92, E92, A92, st92⟩ := newP X85 hx hZ (hw _ (List.mem_of_getElem? (i := 19) rfl)) e85 (g := (mkF m 16 #[.val (.ref this), .val (.ref r1), .val (.int (Int32.ofNat n)), .unset, .unset, .unset] [(.int (Int32.ofNat n)), (.ref this)])) rfl (hb hby own_d6_16) rfl ((own_ix (by omega)).1) (cap := 3) (by rw [(own_ix (by omega)).2]; exact hn) (by decide) (by decide) (by decide)
  obtain ⟨b92, g92⟩ : ∃ z, z = h85.size := ⟨_, rfl⟩
  rw [← g92] at A92 st92
  have ge_b92 : n0 ≤ b92 := Nat.le_trans SZ85 (Nat.le_of_eq g92.symm)
  have sz_b92 : h0.size ≤ b92 := Nat.le_trans K85.1 (Nat.le_of_eq g92.symm)
  have ne_this_b92 : this ≠ b92 := Nat.ne_of_lt (Nat.lt_of_lt_of_le f86.lt (Nat.le_of_eq g92.symm))
  have ne_r1_b92 : r1 ≠ b92 := Nat.ne_of_lt (Nat.lt_of_lt_of_le f90.lt (Nat.le_of_eq g92.symm))
  have ne_b77_b92 : b77 ≠ b92 := Nat.ne_of_lt (Nat.lt_of_lt_of_le f91.lt (Nat.le_of_eq g92.symm))
  have f93 := f86.ext E92
  have f94 := fw85.ext E92
  have f95 := f87.ext E92
  have f96 := f88.ext E92
  have f97 := f89.ext E92
  have f98 := f90.ext E92
  have f99 := f91.ext E92
  have SZ92 : n0 ≤ h92.size := Nat.le_trans SZ85 E92.1
  have K92 := K85.ext E92
  have f100 : own_Av Z h92 b92 .int n (fun _ => (.int (0 : Int32))) := own_Av.ofnew A92 ((own_ix (by omega)).2) rfl
  refine own_by st92 ?_
  show own_Go p e below T92 (mkF m 18 #[.val (.ref this), .val (.ref r1), .val (.int (Int32.ofNat n)), .unset, .unset, .unset] [(.ref b92), (.ref this)]) _
  obtain ⟨T101, h101, X101, e101, W101, st101⟩ := putF X92 hx hZ hown (host := "") (Or.inl (hw _ (List.mem_of_getElem? (i := 32) rfl))) Via.refl e92 f95 f93 (Or.inr ⟨(hw _ (List.mem_of_getElem? (i := 33) rfl)), rfl, hnm⟩) (hw _ (List.mem_of_getElem? (i := 11) rfl)) (ty := (.array .int)) (by decide) rfl rfl (g := (mkF m 18 #[.val (.ref this), .val (.ref r1), .val (.int (Int32.ofNat n)), .unset, .unset, .unset] [(.ref b92), (.ref this)])) rfl rfl (hb hby own_d6_18)
  have fw101 := f95.same W101
  have f102 := f93.wr W101
  have f103 := f94.other W101 (Or.inr (slot_ne (Or.inr (hw _ (List.mem_of_getElem? (i := 31) rfl))) (Or.inr (hw _ (List.mem_of_getElem? (i := 33) rfl))) (by decide) (t := (.array .int)) (t' := (.array .int)) (by decide) (by decide)))
  have f104 := f96.other W101 (Or.inr (slot_ne (Or.inr (hw _ (List.mem_of_getElem? (i := 35) rfl))) (Or.inr (hw _ (List.mem_of_getElem? (i := 33) rfl))) (by decide) (t := (.array .int)) (t' := (.array .int)) (by decide) (by decide)))
  have f105 := f97.other W101 (Or.inr (slot_ne (Or.inr (hw _ (List.mem_of_getElem? (i := 37) rfl))) (Or.inr (hw _ (List.mem_of_getElem? (i := 33) rfl))) (by decide) (t := .int) (t' := (.array .int)) (by decide) (by decide)))
  have f106 := f98.other W101 ne_r1_this
  have f107 := f99.other W101 (Ne.symm ne_this_b77)
  have f108 := f100.other W101 (Ne.symm ne_this_b92)
  have N101 := Fr.snoc X101 N85 ge_this
  have SZ101 : n0 ≤ h101.size := by rw [W101.size]; exact SZ92
  have K101 := K92.wr W101 (Or.inl (List.mem_of_getElem? (i := 0) rfl))
  refine own_by st101 ?_
  show own_Go p e below T101 (mkF m 21 #[.val (.ref this), .val (.ref r1), .val (.int (Int32.ofNat n)), .unset, .unset, .unset] []) _
  refine own_s_aloadN X101.here hx (hb hby own_d6_21) rfl rfl ?_
  refine own_s_iloadN X101.here hx (hb hby own_d6_22) rfl ?_
  obtain ⟨T109, h109, k109, X109, e109, E109, A109, st109⟩ := newP X101 hx hZ (hw _ (List.mem_of_getElem? (i := 19) rfl)) e101 (g := (mkF m 23 #[.val (.ref this), .val (.ref r1), .val (.int (Int32.ofNat n)), .unset, .unset, .unset] [(.int (Int32.ofNat n)), (.ref this)])) rfl (hb hby own_d6_23) rfl ((own_ix (by omega)).1) (cap := 3) (by rw [(own_ix (by omega)).2]; exact hn) (by decide) (by decide) (by decide)
  obtain ⟨b109, g109⟩ : ∃ z, z = h101.size := ⟨_, rfl⟩
  rw [← g109] at A109 st109
  have ge_b109 : n0 ≤ b109 := Nat.le_trans SZ101 (Nat.le_of_eq g109.symm)
  have sz_b109 : h0.size ≤ b109 := Nat.le_trans K101.1 (Nat.le_of_eq g109.symm)
  have ne_this_b109 : this ≠ b109 := Nat.ne_of_lt (Nat.lt_of_lt_of_le f102.lt (Nat.le_of_eq g109.symm))
  have ne_r1_b109 : r1 ≠ b109 := Nat.ne_of_lt (Nat.lt_of_lt_of_le f106.lt (Nat.le_of_eq g109.symm))
  have ne_b77_b109 : b77 ≠ b109 := Nat.ne_of_lt (Nat.lt_of_lt_of_le f107.lt (Nat.le_of_eq g109.symm))
  have ne_b92_b109 : b92 ≠ b109 := Nat.ne_of_lt (Nat.lt_of_lt_of_le f108.lt (Nat.le_of_eq g109.symm))
  have f110 := f102.ext E109
  have f111 := f103.ext E109
  have f112 := fw101.ext E109
  have f113 := f104.ext E109
  have f114 := f105.ext E109
  have f115 := f106.ext E109
  have f116 := f107.ext E109
  have f117 := f108.ext E109
  have SZ109 : n0 ≤ h109.size := Nat.le_trans SZ101 E109.1
  have K109 := K101.ext E109
  have f118 : own_Av Z h109 b109 .int n (fun _ => (.int (0 : Int32))) := own_Av.ofnew A109 ((own_ix (by omega)).2) rfl
  refine own_by st109 ?_
  show own_Go p e below T109 (mkF m 25 #[.val (.ref this), .val (.ref r1), .val (.int (Int32.ofNat n)), .unset, .unset, .unset] [(.ref b109), (.ref this)]) _
  obtain ⟨T119, h119, X119, e119, W119, st119⟩ := putF X109 hx hZ hown (host := "") (Or.inl (hw _ (List.mem_of_getElem? (i := 34) rfl))) Via.refl e109 f113 f110 (Or.inr ⟨(hw _ (List.mem_of_getElem? (i := 35) rfl)), rfl, hnm⟩) (hw _ (List.mem_of_getElem? (i := 11) rfl)) (ty := (.array .int)) (by decide) rfl rfl (g := (mkF m 25 #[.val (.ref this), .val (.ref r1), .val (.int (Int32.ofNat n)), .unset, .unset, .unset] [(.ref b109), (.ref this)])) rfl rfl (hb hby own_d6_25)
  have fw119 := f113.same W119
  have f120 := f110.wr W119
  have f121 := f111.other W119 (Or.inr (slot_ne (Or.inr (hw _ (List.mem_of_getElem? (i := 31) rfl))) (Or.inr (hw _ (List.mem_of_getElem? (i := 35) rfl))) (by decide) (t := (.array .int)) (t' := (.array .int)) (by decide) (by decide)))
  have f122 := f112.other W119 (Or.inr (slot_ne (Or.inr (hw _ (List.mem_of_getElem? (i := 33) rfl))) (Or.inr (hw _ (List.mem_of_getElem? (i := 35) rfl))) (by decide) (t := (.array .int)) (t' := (.array .int)) (by decide) (by decide)))
  have f123 := f114.other W119 (Or.inr (slot_ne (Or.inr (hw _ (List.mem_of_getElem? (i := 37) rfl))) (Or.inr (hw _ (List.mem_of_getElem? (i := 35) rfl))) (by decide) (t := .int) (t' := (.array .int)) (by decide) (by decide)))
  have f124 := f115.other W119 ne_r1_this
  have f125 := f116.other W119 (Ne.symm ne_this_b77)
  have f126 := f117.other W119 (Ne.symm ne_this_b92)
  have f127 := f118.other W119 (Ne.symm ne_this_b109)
  have N119 := Fr.snoc X119 N101 ge_this
  have SZ119 : n0 ≤ h119.size := by rw [W119.size]; exact SZ109
  have K119 := K109.wr W119 (Or.inl (List.mem_of_getElem? (i := 0) rfl))
  refine own_by st119 ?_
  show own_Go p e below T119 (mkF m 28 #[.val (.ref this), .val (.ref r1), .val (.int (Int32.ofNat n)), .unset, .unset, .unset] []) _
  refine own_s_iconst X119.here hx (0 : Int32) (hb hby own_d6_28) rfl ?_
  refine own_s_istoreN X119.here hx #[.val (.ref this), .val (.ref r1), .val (.int (Int32.ofNat n)), .val (.int (0 : Int32)), .unset, .unset] (hb hby own_d6_29) rfl ?_
  refine own_s_iconst X119.here hx (0 : Int32) (hb hby own_d6_30) rfl ?_
  refine own_s_istore X119.here hx #[.val (.ref this), .val (.ref r1), .val (.int (Int32.ofNat n)), .val (.int (0 : Int32)), .val (.int (0 : Int32)), .unset] (hb hby own_d6_31) rfl ?_
  refine own_s_iconst X119.here hx (0 : Int32) (hb hby own_d6_33) rfl ?_
  refine own_s_istore X119.here hx #[.val (.ref this), .val (.ref r1), .val (.int (Int32.ofNat n)), .val (.int (0 : Int32)), .val (.int (0 : Int32)), .val (.int (0 : Int32))] (hb hby own_d6_34) rfl ?_
  show own_Go p e below T119 (mkF m 36 #[.val (.ref this), .val (.ref r1), .val (.int (Int32.ofNat n)), .val (.int (own_W wd 0)), .val (.int (own_U wd 0)), .val (.int (Int32.ofNat 0))] []) _
  exact own_ini hx hZ hw hby hml hown hnm hret hlk h0 this r1 b77 b92 b109 n wd hn ge_this ge_b77 ge_b92 ge_b109 sz_b77 sz_b92 sz_b109 ne_this_b77 ne_this_b92 ne_this_b109 ne_r1_b77 ne_r1_b92 ne_r1_b109 ne_b77_b92 ne_b77_b109 ne_b92_b109 ne_r1_this n 0 (by omega) X119 e119 N119 SZ119 f120 f121 f122 fw119 f123 f124 (f125.cong rfl (fun j _ => own_fl0 (fun j => own_mo (wd j)) (fun _ => (.int (0 : Int32))) j)) (f126.cong rfl (fun j _ => own_fl0 (fun j => own_W wd (j + 1)) (fun _ => (.int (0 : Int32))) j)) (f127.cong rfl (fun j _ => own_fl0 (own_S wd) (fun _ => (.int (0 : Int32))) j)) K119
theorem own_d3_0 : decode prog_21_method_1_code 0 = .ok (.aload_n 0, 1) := by decide +kernel
theorem own_d3_1 : decode prog_21_method_1_code 1 = .ok (.iload_n 1, 1) := by decide +kernel
theorem own_d3_2 : decode prog_21_method_1_code 2 = .ok (.invokestatic 1, 3) := by decide +kernel
theorem own_d3_5 : decode prog_21_method_1_code 5 = .ok (.invokespecial 7, 3) := by decide +kernel
theorem own_d3_8 : decode prog_21_method_1_code 8 = .ok (.return_, 1) := by decide +kernel
theorem own_ef3 (m : MethodId) (this : Addr) (z_ : Int32) : entryFrame m #[(.ref this), (.int z_)] 2 = mkF m 0 #[.val (.ref this), .val (.int z_)] [] := by first | (simp [entryFrame, mkF, argsToLocals, Value.category]; done) | rfl
theorem own_pd_3 : parseMethodDescriptor "(I)[I" = some ⟨[.int], some (.array .int)⟩ := by decide +kernel
theorem own_pd_5 : parseMethodDescriptor "([I)V" = some ⟨[(.array .int)], none⟩ := by decide +kernel
def own_q_own_r3 (Z : State) (this : Addr) (z_ : Int32) (n : Nat) (h0 : Heap) (n0 : Nat) (v : Option Value) (h : Heap) (L : List Loc) : Prop := v = none ∧ Fr n0 L ∧ Keep h0 h [this] ∧ ∃ am aw as : Addr, n0 ≤ am ∧ n0 ≤ aw ∧ n0 ≤ as ∧ h0.size ≤ am ∧ h0.size ≤ aw ∧ h0.size ≤ as ∧ am ≠ aw ∧ am ≠ as ∧ aw ≠ as ∧ Fld Z h this "com/example/lapse/lapse/MarkingCode" "most" "[I" (.ref am) ∧ own_Av Z h am .int n (fun j => .int ((fun j => own_mo ((fun _ => (1 : Int32)) j)) j)) ∧ Fld Z h this "com/example/lapse/lapse/MarkingCode" "words" "[I" (.ref aw) ∧ own_Av Z h aw .int n (fun j => .int ((fun j => own_W (fun _ => (1 : Int32)) (j + 1)) j)) ∧ Fld Z h this "com/example/lapse/lapse/MarkingCode" "shifts" "[I" (.ref as) ∧ own_Av Z h as .int n (fun j => .int ((own_S (fun _ => (1 : Int32))) j)) ∧ Fld Z h this "com/example/lapse/lapse/MarkingCode" "length" "I" (.int (own_W (fun _ => (1 : Int32)) n + (1 : Int32)))
set_option maxRecDepth 65536 in
set_option maxHeartbeats 40000000 in
theorem own_r3 (l : Launch) (Z : State) (a0 : Array Value) (hw : ∀ d ∈ tables_1, d.before a0 Z = true) (ws : List Jvm.Cond) (this : Addr) (z_ : Int32) (n : Nat) (h0 : Heap) (n0 : Nat) (Z0 : n0 ≤ h0.size) (hz : z_.toNatClampNeg = n) (hneg : ¬ z_ < 0) (hle : n ≤ 3) (E_this : Exa Z h0 this "com/example/lapse/lapse/MarkingCode") (F_this_most : Fld Z h0 this "com/example/lapse/lapse/MarkingCode" "most" "[I" .null) (F_this_words : Fld Z h0 this "com/example/lapse/lapse/MarkingCode" "words" "[I" .null) (F_this_shifts : Fld Z h0 this "com/example/lapse/lapse/MarkingCode" "shifts" "[I" .null) (F_this_length : Fld Z h0 this "com/example/lapse/lapse/MarkingCode" "length" "I" (.int (0 : Int32))) (ge_this : n0 ≤ this) :
    MetFree l (⟨"com/example/lapse/lapse/MarkingCode", "<init>", "(I)V"⟩ : MethodName) (head1 (Jvm.Cond.code (⟨"com/example/lapse/lapse/MarkingCode", "<init>", "(I)V"⟩ : MethodName) prog_21_method_1_code 2 none :: ws) ({ frames := 2, cells := 4, slots := 12, locals := 29 } : Room)) (fun aq Uq => aq = #[(.ref this), (.int z_)] ∧ Z.Warmed39 Uq.vm ∧ Uq.heap = h0) (fun _ _ _ _ _ => True) (fun _ Uq oq Uq' => ∃ vq Lq, oq = .returned vq ∧ own_q_own_r3 Z this z_ n h0 n0 vq Uq'.heap Lq ∧ FrameEnd Uq oq Uq' Lq ({ frames := 2, cells := 4, slots := 12, locals := 29 } : Room).cells ({ frames := 2, cells := 4, slots := 12, locals := 29 } : Room).slots) := by
  refine MetFree.of_bodySF (plainFor_of_name own_pn_MarkingCode) hisR ?_
  intro p e s m args below meth c T0 Bd hml0 hP hK
  obtain ⟨rfl, hZ, hh⟩ := hP
  have hx := Bd.exec
  have hby := Bd.bytes
  have hml : c.maxLocals = 2 := hml0
  have hown : s.vm.findClass "com/example/lapse/lapse/MarkingCode" = some m.cls := findClass_of_methodNamed Bd.named
  have hnm := (name_of_methodNamed Bd.named Bd.method).1
  have hret : meth.sig.returnType = none := Bd.returns
  have hlk : meth.locks = false := BodyLoose.notSynchronized Bd
  have X0 : Stand p l e ({ frames := 2, cells := 4, slots := 12, locals := 29 } : Room) s m #[(.ref this), (.int z_)] below meth c T0 [] 0 0 := Stand.of_body Bd
  have e0 : T0.heap = h0 := by rw [← hh, Bd.state]; rfl
  have N0 := Fr.nil n0
  refine own_start (own_ef3 m this z_) (Q := fun (v : Option Value) (h : Heap) (L : List Loc) => v = none ∧ Fr n0 L ∧ Keep h0 h [this] ∧ ∃ am aw as : Addr, n0 ≤ am ∧ n0 ≤ aw ∧ n0 ≤ as ∧ h0.size ≤ am ∧ h0.size ≤ aw ∧ h0.size ≤ as ∧ am ≠ aw ∧ am ≠ as ∧ aw ≠ as ∧ Fld Z h this "com/example/lapse/lapse/MarkingCode" "most" "[I" (.ref am) ∧ own_Av Z h am .int n (fun j => .int ((fun j => own_mo ((fun _ => (1 : Int32)) j)) j)) ∧ Fld Z h this "com/example/lapse/lapse/MarkingCode" "words" "[I" (.ref aw) ∧ own_Av Z h aw .int n (fun j => .int ((fun j => own_W (fun _ => (1 : Int32)) (j + 1)) j)) ∧ Fld Z h this "com/example/lapse/lapse/MarkingCode" "shifts" "[I" (.ref as) ∧ own_Av Z h as .int n (fun j => .int ((own_S (fun _ => (1 : Int32))) j)) ∧ Fld Z h this "com/example/lapse/lapse/MarkingCode" "length" "I" (.int (own_W (fun _ => (1 : Int32)) n + (1 : Int32)))) (k := 4) (j := 12) ?_
  show own_Go p e below T0 (mkF m 0 #[.val (.ref this), .val (.int z_)] []) _
  have K0 := Keep.refl h0 [this]
  refine own_s_aloadN X0.here hx (hb hby own_d3_0) rfl rfl ?_
  refine own_s_iloadN X0.here hx (hb hby own_d3_1) rfl ?_
  obtain ⟨_, _, ⟨T128, L128, k128, n128⟩, -, X128, ⟨Lc128, hQ128, l128, y128, z128⟩, st128⟩ := Jvm.LawKit.callS X0 hx (y := (⟨"com/example/lapse/lapse/MarkingCode", "ones", "(I)[I"⟩ : MethodName)) hown (mvT hZ (hw _ (List.mem_of_getElem? (i := 16) rfl))) (mvT hZ (hw _ (List.mem_of_getElem? (i := 17) rfl))) (mvT hZ (hw _ (List.mem_of_getElem? (i := 12) rfl))) (mvT hZ (hw _ (List.mem_of_getElem? (i := 18) rfl))) (by decide) (backOf (W := 1) (own_r4 l Z a0 hw [] z_ n h0 n0 Z0 hz hneg hle) hZ (hw _ (List.mem_of_getElem? (i := 18) rfl)) (hw _ (List.mem_of_getElem? (i := 12) rfl)) (by decide) (by decide)) (g := (mkF m 2 #[.val (.ref this), .val (.int z_)] [(.int z_), (.ref this)])) rfl (by rw [hml]; rfl) (argsL := [(.int z_)]) (rest := [(.ref this)]) (lenOf own_pd_3 rfl) rfl (by show 2 * 0 + _ ≤ _; exact Nat.le_of_eq rfl) (hb hby own_d3_2) (fun _ _ => ⟨rfl, e0, (by decide : 0 + 1 ≤ _), (by decide : 0 + 3 ≤ _)⟩)
  dsimp only [Pt.U, Pt.locs, Pt.cells, Pt.slots] at X128 l128 y128 z128 st128 hQ128
  subst l128 y128 z128
  obtain ⟨bb128, rfl, N128q, gb128, zb128, K128, fa128⟩ := hQ128
  have N128 := Fr.app N0 N128q
  have f129 := E_this.keep K128
  have f130 := F_this_most.keep K128 nin0
  have f131 := F_this_words.keep K128 nin0
  have f132 := F_this_shifts.keep K128 nin0
  have f133 := F_this_length.keep K128 nin0
  have SZ128 : n0 ≤ T128.heap.size := Nat.le_trans Z0 K128.1
  have KC128 := K0.trans K128 all0
  refine own_by st128 ?_
  have sz_bb128 : h0.size ≤ bb128 := Nat.le_trans K0.1 zb128
  have ne_this_bb128 : this ≠ bb128 := Nat.ne_of_lt (Nat.lt_of_lt_of_le E_this.lt zb128)
  show own_Go p e below T128 (mkF m 5 #[.val (.ref this), .val (.int z_)] [(.ref bb128), (.ref this)]) _
  obtain ⟨_, _, ⟨T134, L134, k134, n134⟩, -, X134, ⟨Lc134, hQ134, l134, y134, z134⟩, st134⟩ := X128.specialBack hx (y := (⟨"com/example/lapse/lapse/MarkingCode", "<init>", "([I)V"⟩ : MethodName)) rfl hown (mvT hZ (hw _ (List.mem_of_getElem? (i := 24) rfl))) (mvT hZ (hw _ (List.mem_of_getElem? (i := 25) rfl))) (mvT hZ (hw _ (List.mem_of_getElem? (i := 26) rfl))) (by decide) (backOf (W := 0) (own_r6 l Z a0 hw [] this bb128 n (fun _ => (1 : Int32)) T128.heap n0 SZ128 hle f129 f130 f131 f132 f133 ge_this fa128 (Ne.symm ne_this_bb128)) hZ (hw _ (List.mem_of_getElem? (i := 26) rfl)) (hw _ (List.mem_of_getElem? (i := 12) rfl)) (by decide) (by decide)) (g := (mkF m 5 #[.val (.ref this), .val (.int z_)] [(.ref bb128), (.ref this)])) rfl (by rw [hml]; rfl) (Steps.refl _) (a := this) (argsL := [(.ref bb128)]) (rest := []) (lenOf own_pd_5 rfl) rfl (by show 2 * 0 + _ ≤ _; exact Nat.le_of_eq rfl) (hb hby own_d3_5) (fun _ _ => ⟨rfl, rfl, (by decide : 1 + 3 ≤ _), (by decide : 3 + 9 ≤ _)⟩)
  dsimp only [Pt.U, Pt.locs, Pt.cells, Pt.slots] at X134 l134 y134 z134 st134 hQ134
  subst l134 y134 z134
  obtain ⟨rfl, N134q, K134, am134, aw134, as134, gm134, gw134, gs134, zm134, zw134, zs134, nmw134, nms134, nws134, fm134, Am134, fw134, Aw134, fs134, As134, fl134⟩ := hQ134
  have N134 := Fr.app N128 N134q
  have f135 := f129.keep K134
  have f136 := fa128.keep K134 (ninS (Ne.symm ne_this_bb128) nin0)
  have SZ134 : n0 ≤ T134.heap.size := Nat.le_trans SZ128 K134.1
  have KC134 := KC128.trans K134 (allS (Or.inl (List.mem_of_getElem? (i := 0) rfl)) all0)
  refine own_by (fun t k => st134.trans k) ?_
  have sz_am134 : h0.size ≤ am134 := Nat.le_trans KC128.1 zm134
  have ne_this_am134 : this ≠ am134 := Nat.ne_of_lt (Nat.lt_of_lt_of_le f129.lt zm134)
  have ne_bb128_am134 : bb128 ≠ am134 := Nat.ne_of_lt (Nat.lt_of_lt_of_le fa128.lt zm134)
  have sz_aw134 : h0.size ≤ aw134 := Nat.le_trans KC128.1 zw134
  have ne_this_aw134 : this ≠ aw134 := Nat.ne_of_lt (Nat.lt_of_lt_of_le f129.lt zw134)
  have ne_bb128_aw134 : bb128 ≠ aw134 := Nat.ne_of_lt (Nat.lt_of_lt_of_le fa128.lt zw134)
  have sz_as134 : h0.size ≤ as134 := Nat.le_trans KC128.1 zs134
  have ne_this_as134 : this ≠ as134 := Nat.ne_of_lt (Nat.lt_of_lt_of_le f129.lt zs134)
  have ne_bb128_as134 : bb128 ≠ as134 := Nat.ne_of_lt (Nat.lt_of_lt_of_le fa128.lt zs134)
  show own_Go p e below T134 (mkF m 8 #[.val (.ref this), .val (.int z_)] []) _
  refine own_retV X134 hx hret hlk (hb hby own_d3_8) (by decide) (by decide) ?_
  exact ⟨rfl, N134, KC134, am134, aw134, as134, gm134, gw134, gs134, sz_am134, sz_aw134, sz_as134, nmw134, nms134, nws134, fm134, Am134, fw134, Aw134, fs134, As134, fl134⟩
def own_wdf (m : Int32) (j : Nat) : Int32 := if j = 0 then m else 1
theorem own_n1 : ((32 : Int32) - (own_f10 (1 : Int32))) = (1 : Int32) := by decide +kernel
theorem own_d8_0 : decode prog_21_method_5_code 0 = .ok (.aload_n 0, 1) := by decide +kernel
theorem own_d8_1 : decode prog_21_method_5_code 1 = .ok (.getfield 16, 3) := by decide +kernel
theorem own_d8_4 : decode prog_21_method_5_code 4 = .ok (.arraylength, 1) := by decide +kernel
theorem own_d8_5 : decode prog_21_method_5_code 5 = .ok (.newarray .int, 2) := by decide +kernel
theorem own_d8_7 : decode prog_21_method_5_code 7 = .ok (.astore_n 2, 1) := by decide +kernel
theorem own_d8_8 : decode prog_21_method_5_code 8 = .ok (.iconst 0, 1) := by decide +kernel
theorem own_d8_9 : decode prog_21_method_5_code 9 = .ok (.istore_n 3, 1) := by decide +kernel
theorem own_d8_10 : decode prog_21_method_5_code 10 = .ok (.iload_n 3, 1) := by decide +kernel
theorem own_d8_11 : decode prog_21_method_5_code 11 = .ok (.aload_n 0, 1) := by decide +kernel
theorem own_d8_12 : decode prog_21_method_5_code 12 = .ok (.getfield 16, 3) := by decide +kernel
theorem own_d8_15 : decode prog_21_method_5_code 15 = .ok (.arraylength, 1) := by decide +kernel
theorem own_d8_16 : decode prog_21_method_5_code 16 = .ok (.if_icmp .ge 61, 3) := by decide +kernel
theorem own_d8_19 : decode prog_21_method_5_code 19 = .ok (.aload_n 2, 1) := by decide +kernel
theorem own_d8_20 : decode prog_21_method_5_code 20 = .ok (.iload_n 3, 1) := by decide +kernel
theorem own_d8_21 : decode prog_21_method_5_code 21 = .ok (.bipush 32, 2) := by decide +kernel
theorem own_d8_23 : decode prog_21_method_5_code 23 = .ok (.aload_n 0, 1) := by decide +kernel
theorem own_d8_24 : decode prog_21_method_5_code 24 = .ok (.getfield 16, 3) := by decide +kernel
theorem own_d8_27 : decode prog_21_method_5_code 27 = .ok (.iload_n 3, 1) := by decide +kernel
theorem own_d8_28 : decode prog_21_method_5_code 28 = .ok (.iaload, 1) := by decide +kernel
theorem own_d8_29 : decode prog_21_method_5_code 29 = .ok (.invokestatic 34, 3) := by decide +kernel
theorem own_d8_32 : decode prog_21_method_5_code 32 = .ok (.isub, 1) := by decide +kernel
theorem own_d8_33 : decode prog_21_method_5_code 33 = .ok (.iastore, 1) := by decide +kernel
theorem own_d8_34 : decode prog_21_method_5_code 34 = .ok (.aload_n 1, 1) := by decide +kernel
theorem own_d8_35 : decode prog_21_method_5_code 35 = .ok (.iload_n 3, 1) := by decide +kernel
theorem own_d8_36 : decode prog_21_method_5_code 36 = .ok (.laload, 1) := by decide +kernel
theorem own_d8_37 : decode prog_21_method_5_code 37 = .ok (.aload_n 0, 1) := by decide +kernel
theorem own_d8_38 : decode prog_21_method_5_code 38 = .ok (.getfield 16, 3) := by decide +kernel
theorem own_d8_41 : decode prog_21_method_5_code 41 = .ok (.iload_n 3, 1) := by decide +kernel
theorem own_d8_42 : decode prog_21_method_5_code 42 = .ok (.iaload, 1) := by decide +kernel
theorem own_d8_43 : decode prog_21_method_5_code 43 = .ok (.i2l, 1) := by decide +kernel
theorem own_d8_44 : decode prog_21_method_5_code 44 = .ok (.lcmp, 1) := by decide +kernel
theorem own_d8_45 : decode prog_21_method_5_code 45 = .ok (.ifCond .le 26, 3) := by decide +kernel
theorem own_d8_48 : decode prog_21_method_5_code 48 = .ok (.bipush 64, 2) := by decide +kernel
theorem own_d8_50 : decode prog_21_method_5_code 50 = .ok (.aload_n 1, 1) := by decide +kernel
theorem own_d8_51 : decode prog_21_method_5_code 51 = .ok (.iload_n 3, 1) := by decide +kernel
theorem own_d8_52 : decode prog_21_method_5_code 52 = .ok (.laload, 1) := by decide +kernel
theorem own_d8_53 : decode prog_21_method_5_code 53 = .ok (.invokestatic 38, 3) := by decide +kernel
theorem own_d8_56 : decode prog_21_method_5_code 56 = .ok (.isub, 1) := by decide +kernel
theorem own_d8_57 : decode prog_21_method_5_code 57 = .ok (.istore 4, 2) := by decide +kernel
theorem own_d8_59 : decode prog_21_method_5_code 59 = .ok (.aload_n 2, 1) := by decide +kernel
theorem own_d8_60 : decode prog_21_method_5_code 60 = .ok (.iload_n 3, 1) := by decide +kernel
theorem own_d8_61 : decode prog_21_method_5_code 61 = .ok (.bipush 31, 2) := by decide +kernel
theorem own_d8_63 : decode prog_21_method_5_code 63 = .ok (.iload 4, 2) := by decide +kernel
theorem own_d8_65 : decode prog_21_method_5_code 65 = .ok (.iconst 1, 1) := by decide +kernel
theorem own_d8_66 : decode prog_21_method_5_code 66 = .ok (.iadd, 1) := by decide +kernel
theorem own_d8_67 : decode prog_21_method_5_code 67 = .ok (.invokestatic 41, 3) := by decide +kernel
theorem own_d8_70 : decode prog_21_method_5_code 70 = .ok (.iastore, 1) := by decide +kernel
theorem own_d8_71 : decode prog_21_method_5_code 71 = .ok (.iinc 3 1, 3) := by decide +kernel
theorem own_d8_74 : decode prog_21_method_5_code 74 = .ok (.goto (-64), 3) := by decide +kernel
theorem own_d8_77 : decode prog_21_method_5_code 77 = .ok (.new 2, 3) := by decide +kernel
theorem own_d8_80 : decode prog_21_method_5_code 80 = .ok (.dup, 1) := by decide +kernel
theorem own_d8_81 : decode prog_21_method_5_code 81 = .ok (.aload_n 2, 1) := by decide +kernel
theorem own_d8_82 : decode prog_21_method_5_code 82 = .ok (.invokespecial 7, 3) := by decide +kernel
theorem own_d8_85 : decode prog_21_method_5_code 85 = .ok (.areturn, 1) := by decide +kernel
theorem own_ef8 (m : MethodId) (this : Addr) (wn : Addr) : entryFrame m #[(.ref this), (.ref wn)] 5 = mkF m 0 #[.val (.ref this), .val (.ref wn), .unset, .unset, .unset] [] := by first | (simp [entryFrame, mkF, argsToLocals, Value.category]; done) | rfl
def own_q_own_wf0 (Z : State) (this : Addr) (wn : Addr) (am : Addr) (x_ : Int64) (h0 : Heap) (n0 : Nat) (v : Option Value) (h : Heap) (L : List Loc) : Prop := ∃ b : Addr, v = some (.ref b) ∧ Fr n0 L ∧ n0 ≤ b ∧ Keep h0 h [] ∧ Exa Z h b "com/example/lapse/lapse/MarkingCode" ∧ ∃ a : Addr, Fld Z h b "com/example/lapse/lapse/MarkingCode" "most" "[I" (.ref a) ∧ own_Av Z h a .int 0 (fun j => .int (own_mo (own_wdf (own_f1 (31 : Int32) (((64 : Int32) - (own_f11 x_)) + (1 : Int32))) j)))
set_option maxRecDepth 65536 in
set_option maxHeartbeats 40000000 in
theorem own_wf0 (l : Launch) (Z : State) (a0 : Array Value) (hw : ∀ d ∈ tables_1, d.before a0 Z = true) (ws : List Jvm.Cond) (this : Addr) (wn : Addr) (am : Addr) (x_ : Int64) (h0 : Heap) (n0 : Nat) (Z0 : n0 ≤ h0.size) (hx1 : ((1 : Int32).toInt64) < x_) (F_this_most : Fld Z h0 this "com/example/lapse/lapse/MarkingCode" "most" "[I" (.ref am)) (A_am : own_Av Z h0 am .int 0 (fun _ => .int (1 : Int32))) (A_wn : own_Av Z h0 wn .long 3 (own_upd (fun _ => (.long (0 : Int64))) 0 (.long x_))) :
    MetFree l (⟨"com/example/lapse/lapse/MarkingCode", "widenedFor", "([J)Lcom/example/lapse/lapse/MarkingCode;"⟩ : MethodName) (head1 (Jvm.Cond.code (⟨"com/example/lapse/lapse/MarkingCode", "widenedFor", "([J)Lcom/example/lapse/lapse/MarkingCode;"⟩ : MethodName) prog_21_method_5_code 5 (some (.object "com/example/lapse/lapse/MarkingCode")) :: ws) ({ frames := 2, cells := 5, slots := 13, locals := 30 } : Room)) (fun aq Uq => aq = #[(.ref this), (.ref wn)] ∧ Z.Warmed39 Uq.vm ∧ Uq.heap = h0) (fun _ _ _ _ _ => True) (fun _ Uq oq Uq' => ∃ vq Lq, oq = .returned vq ∧ own_q_own_wf0 Z this wn am x_ h0 n0 vq Uq'.heap Lq ∧ FrameEnd Uq oq Uq' Lq ({ frames := 2, cells := 5, slots := 13, locals := 30 } : Room).cells ({ frames := 2, cells := 5, slots := 13, locals := 30 } : Room).slots) := by
  refine MetFree.of_bodySF (plainFor_of_name own_pn_MarkingCode) hisR ?_
  intro p e s m args below meth c T0 Bd hml0 hP hK
  obtain ⟨rfl, hZ, hh⟩ := hP
  have hx := Bd.exec
  have hby := Bd.bytes
  have hml : c.maxLocals = 5 := hml0
  have hown : s.vm.findClass "com/example/lapse/lapse/MarkingCode" = some m.cls := findClass_of_methodNamed Bd.named
  have hnm := (name_of_methodNamed Bd.named Bd.method).1
  have hret : meth.sig.returnType = (some (.object "com/example/lapse/lapse/MarkingCode")) := Bd.returns
  have hlk : meth.locks = false := BodyLoose.notSynchronized Bd
  have X0 : Stand p l e ({ frames := 2, cells := 5, slots := 13, locals := 30 } : Room) s m #[(.ref this), (.ref wn)] below meth c T0 [] 0 0 := Stand.of_body Bd
  have e0 : T0.heap = h0 := by rw [← hh, Bd.state]; rfl
  have N0 := Fr.nil n0
  refine own_start (own_ef8 m this wn) (Q := fun (v : Option Value) (h : Heap) (L : List Loc) => ∃ b : Addr, v = some (.ref b) ∧ Fr n0 L ∧ n0 ≤ b ∧ Keep h0 h [] ∧ Exa Z h b "com/example/lapse/lapse/MarkingCode" ∧ ∃ a : Addr, Fld Z h b "com/example/lapse/lapse/MarkingCode" "most" "[I" (.ref a) ∧ own_Av Z h a .int 0 (fun j => .int (own_mo (own_wdf (own_f1 (31 : Int32) (((64 : Int32) - (own_f11 x_)) + (1 : Int32))) j)))) (k := 5) (j := 13) ?_
  show own_Go p e below T0 (mkF m 0 #[.val (.ref this), .val (.ref wn), .unset, .unset, .unset] []) _
  have K0 := Keep.refl h0 []
  refine own_s_aloadN X0.here hx (hb hby own_d8_0) rfl rfl ?_
  obtain ⟨T137, X137, e137, st137⟩ := getF X0 hx hZ hown (host := "") (Or.inl (hw _ (List.mem_of_getElem? (i := 30) rfl))) Via.refl e0 F_this_most (g := (mkF m 1 #[.val (.ref this), .val (.ref wn), .unset, .unset, .unset] [(.ref this)])) rfl rfl (hb hby own_d8_1)
  refine own_by st137 ?_
  show own_Go p e below T137 (mkF m 4 #[.val (.ref this), .val (.ref wn), .unset, .unset, .unset] [(.ref am)]) _
  refine own_by (fun tq_ kq_ => own_len X137 hx hZ e137 A_am (z := (0 : Int32)) rfl (g := (mkF m 4 #[.val (.ref this), .val (.ref wn), .unset, .unset, .unset] [(.ref am)])) rfl rfl (hb hby own_d8_4) tq_ kq_) ?_
  show own_Go p e below T137 (mkF m 5 #[.val (.ref this), .val (.ref wn), .unset, .unset, .unset] [(.int (0 : Int32))]) _
  obtain ⟨T138, h138, k138, X138, e138, E138, A138, st138⟩ := newP X137 hx hZ (hw _ (List.mem_of_getElem? (i := 19) rfl)) e137 (g := (mkF m 5 #[.val (.ref this), .val (.ref wn), .unset, .unset, .unset] [(.int (0 : Int32))])) rfl (hb hby own_d8_5) rfl (by decide) (cap := 0) (by decide) (by decide) (by decide) (by decide)
  obtain ⟨b138, g138⟩ : ∃ z, z = h0.size := ⟨_, rfl⟩
  rw [← g138] at A138 st138
  have ge_b138 : n0 ≤ b138 := Nat.le_trans Z0 (Nat.le_of_eq g138.symm)
  have sz_b138 : h0.size ≤ b138 := Nat.le_trans K0.1 (Nat.le_of_eq g138.symm)
  have ne_this_b138 : this ≠ b138 := Nat.ne_of_lt (Nat.lt_of_lt_of_le F_this_most.lt (Nat.le_of_eq g138.symm))
  have ne_am_b138 : am ≠ b138 := Nat.ne_of_lt (Nat.lt_of_lt_of_le A_am.lt (Nat.le_of_eq g138.symm))
  have ne_wn_b138 : wn ≠ b138 := Nat.ne_of_lt (Nat.lt_of_lt_of_le A_wn.lt (Nat.le_of_eq g138.symm))
  have f139 := F_this_most.ext E138
  have f140 := A_am.ext E138
  have f141 := A_wn.ext E138
  have SZ138 : n0 ≤ h138.size := Nat.le_trans Z0 E138.1
  have K138 := K0.ext E138
  have f142 : own_Av Z h138 b138 .int 0 (fun _ => (.int (0 : Int32))) := own_Av.ofnew A138 (by decide) rfl
  refine own_by st138 ?_
  show own_Go p e below T138 (mkF m 7 #[.val (.ref this), .val (.ref wn), .unset, .unset, .unset] [(.ref b138)]) _
  refine own_s_astoreN X138.here hx #[.val (.ref this), .val (.ref wn), .val (.ref b138), .unset, .unset] (hb hby own_d8_7) rfl rfl ?_
  refine own_s_iconst X138.here hx (0 : Int32) (hb hby own_d8_8) rfl ?_
  refine own_s_istoreN X138.here hx #[.val (.ref this), .val (.ref wn), .val (.ref b138), .val (.int (0 : Int32)), .unset] (hb hby own_d8_9) rfl ?_
  refine own_s_iloadN X138.here hx (hb hby own_d8_10) rfl ?_
  refine own_s_aloadN X138.here hx (hb hby own_d8_11) rfl rfl ?_
  obtain ⟨T143, X143, e143, st143⟩ := getF X138 hx hZ hown (host := "") (Or.inl (hw _ (List.mem_of_getElem? (i := 30) rfl))) Via.refl e138 f139 (g := (mkF m 12 #[.val (.ref this), .val (.ref wn), .val (.ref b138), .val (.int (0 : Int32)), .unset] [(.ref this), (.int (0 : Int32))])) rfl rfl (hb hby own_d8_12)
  refine own_by st143 ?_
  show own_Go p e below T143 (mkF m 15 #[.val (.ref this), .val (.ref wn), .val (.ref b138), .val (.int (0 : Int32)), .unset] [(.ref am), (.int (0 : Int32))]) _
  refine own_by (fun tq_ kq_ => own_len X143 hx hZ e143 f140 (z := (0 : Int32)) rfl (g := (mkF m 15 #[.val (.ref this), .val (.ref wn), .val (.ref b138), .val (.int (0 : Int32)), .unset] [(.ref am), (.int (0 : Int32))])) rfl rfl (hb hby own_d8_15) tq_ kq_) ?_
  show own_Go p e below T143 (mkF m 16 #[.val (.ref this), .val (.ref wn), .val (.ref b138), .val (.int (0 : Int32)), .unset] [(.int (0 : Int32)), (.int (0 : Int32))]) _
  refine own_s_icmpYes X143.here hx 77 (hb hby own_d8_16) (Jvm.Free.XT.ii_ge_t ((by decide))) (by decide) (by decide) ?_
  obtain ⟨T144, h144, X144, e144, E144, A144, D144, -, st144⟩ := newO X143 hx hZ hown (hw _ (List.mem_of_getElem? (i := 43) rfl)) (hw _ (List.mem_of_getElem? (i := 11) rfl)) (hw _ (List.mem_of_getElem? (i := 12) rfl)) e143 (g := (mkF m 77 #[.val (.ref this), .val (.ref wn), .val (.ref b138), .val (.int (0 : Int32)), .unset] [])) rfl (hb hby own_d8_77) (by decide) (by decide)
  obtain ⟨b144, g144⟩ : ∃ z, z = h138.size := ⟨_, rfl⟩
  rw [← g144] at A144 D144 st144
  have ge_b144 : n0 ≤ b144 := Nat.le_trans SZ138 (Nat.le_of_eq g144.symm)
  have sz_b144 : h0.size ≤ b144 := Nat.le_trans K138.1 (Nat.le_of_eq g144.symm)
  have ne_this_b144 : this ≠ b144 := Nat.ne_of_lt (Nat.lt_of_lt_of_le f139.lt (Nat.le_of_eq g144.symm))
  have ne_am_b144 : am ≠ b144 := Nat.ne_of_lt (Nat.lt_of_lt_of_le f140.lt (Nat.le_of_eq g144.symm))
  have ne_wn_b144 : wn ≠ b144 := Nat.ne_of_lt (Nat.lt_of_lt_of_le f141.lt (Nat.le_of_eq g144.symm))
  have ne_b138_b144 : b138 ≠ b144 := Nat.ne_of_lt (Nat.lt_of_lt_of_le f142.lt (Nat.le_of_eq g144.symm))
  have f145 := f139.ext E144
  have f146 := f140.ext E144
  have f147 := f141.ext E144
  have f148 := f142.ext E144
  have SZ144 : n0 ≤ h144.size := Nat.le_trans SZ138 E144.1
  have K144 := K138.ext E144
  have f149 : Fld Z h144 b144 "com/example/lapse/lapse/MarkingCode" "most" "[I" .null := D144 (Or.inr (hw _ (List.mem_of_getElem? (i := 31) rfl))) (ty := (.array .int)) (by decide)
  have f150 : Fld Z h144 b144 "com/example/lapse/lapse/MarkingCode" "words" "[I" .null := D144 (Or.inr (hw _ (List.mem_of_getElem? (i := 33) rfl))) (ty := (.array .int)) (by decide)
  have f151 : Fld Z h144 b144 "com/example/lapse/lapse/MarkingCode" "shifts" "[I" .null := D144 (Or.inr (hw _ (List.mem_of_getElem? (i := 35) rfl))) (ty := (.array .int)) (by decide)
  have f152 : Fld Z h144 b144 "com/example/lapse/lapse/MarkingCode" "length" "I" (.int (0 : Int32)) := D144 (Or.inr (hw _ (List.mem_of_getElem? (i := 37) rfl))) (ty := .int) (by decide)
  refine own_by st144 ?_
  show own_Go p e below T144 (mkF m 80 #[.val (.ref this), .val (.ref wn), .val (.ref b138), .val (.int (0 : Int32)), .unset] [(.ref b144)]) _
  refine own_s_dup X144.here hx (hb hby own_d8_80) rfl ?_
  refine own_s_aloadN X144.here hx (hb hby own_d8_81) rfl rfl ?_
  have f153 : own_Av Z h144 b138 .int 0 (fun j => .int (own_wdf (own_f1 (31 : Int32) (((64 : Int32) - (own_f11 x_)) + (1 : Int32))) j)) := f148.cong rfl (fun j hj => absurd hj (by omega))
  obtain ⟨_, _, ⟨T154, L154, k154, n154⟩, -, X154, ⟨Lc154, hQ154, l154, y154, z154⟩, st154⟩ := X144.specialBack hx (y := (⟨"com/example/lapse/lapse/MarkingCode", "<init>", "([I)V"⟩ : MethodName)) rfl hown (mvT hZ (hw _ (List.mem_of_getElem? (i := 24) rfl))) (mvT hZ (hw _ (List.mem_of_getElem? (i := 25) rfl))) (mvT hZ (hw _ (List.mem_of_getElem? (i := 26) rfl))) (by decide) (backOf (W := 1) (own_r6 l Z a0 hw [] b144 b138 0 (own_wdf (own_f1 (31 : Int32) (((64 : Int32) - (own_f11 x_)) + (1 : Int32)))) h144 n0 SZ144 (by decide) A144 f149 f150 f151 f152 ge_b144 f153 ne_b138_b144) hZ (hw _ (List.mem_of_getElem? (i := 26) rfl)) (hw _ (List.mem_of_getElem? (i := 12) rfl)) (by decide) (by decide)) (g := (mkF m 82 #[.val (.ref this), .val (.ref wn), .val (.ref b138), .val (.int (0 : Int32)), .unset] [(.ref b138), (.ref b144), (.ref b144)])) rfl (by rw [hml]; rfl) (Steps.refl _) (a := b144) (argsL := [(.ref b138)]) (rest := [(.ref b144)]) (lenOf own_pd_5 rfl) rfl (by show 2 * 0 + _ ≤ _; exact Nat.le_of_eq rfl) (hb hby own_d8_82) (fun _ _ => ⟨rfl, e144, (by decide : 2 + 3 ≤ _), (by decide : 4 + 9 ≤ _)⟩)
  dsimp only [Pt.U, Pt.locs, Pt.cells, Pt.slots] at X154 l154 y154 z154 st154 hQ154
  subst l154 y154 z154
  obtain ⟨rfl, N154q, K154, am154, aw154, as154, gm154, gw154, gs154, zm154, zw154, zs154, nmw154, nms154, nws154, fm154, Am154, fw154, Aw154, fs154, As154, fl154⟩ := hQ154
  have N154 := Fr.app N0 N154q
  have f155 := f145.keep K154 (ninS ne_this_b144 nin0)
  have f156 := f146.keep K154 (ninS ne_am_b144 nin0)
  have f157 := f147.keep K154 (ninS ne_wn_b144 nin0)
  have f158 := f153.keep K154 (ninS ne_b138_b144 nin0)
  have f159 := A144.keep K154
  have SZ154 : n0 ≤ T154.heap.size := Nat.le_trans SZ144 K154.1
  have KC154 := K144.trans K154 (allS (Or.inr sz_b144) all0)
  refine own_by (fun t k => st154.trans k) ?_
  have sz_am154 : h0.size ≤ am154 := Nat.le_trans K144.1 zm154
  have ne_this_am154 : this ≠ am154 := Nat.ne_of_lt (Nat.lt_of_lt_of_le f145.lt zm154)
  have ne_am_am154 : am ≠ am154 := Nat.ne_of_lt (Nat.lt_of_lt_of_le f146.lt zm154)
  have ne_wn_am154 : wn ≠ am154 := Nat.ne_of_lt (Nat.lt_of_lt_of_le f147.lt zm154)
  have ne_b138_am154 : b138 ≠ am154 := Nat.ne_of_lt (Nat.lt_of_lt_of_le f153.lt zm154)
  have ne_b144_am154 : b144 ≠ am154 := Nat.ne_of_lt (Nat.lt_of_lt_of_le A144.lt zm154)
  have sz_aw154 : h0.size ≤ aw154 := Nat.le_trans K144.1 zw154
  have ne_this_aw154 : this ≠ aw154 := Nat.ne_of_lt (Nat.lt_of_lt_of_le f145.lt zw154)
  have ne_am_aw154 : am ≠ aw154 := Nat.ne_of_lt (Nat.lt_of_lt_of_le f146.lt zw154)
  have ne_wn_aw154 : wn ≠ aw154 := Nat.ne_of_lt (Nat.lt_of_lt_of_le f147.lt zw154)
  have ne_b138_aw154 : b138 ≠ aw154 := Nat.ne_of_lt (Nat.lt_of_lt_of_le f153.lt zw154)
  have ne_b144_aw154 : b144 ≠ aw154 := Nat.ne_of_lt (Nat.lt_of_lt_of_le A144.lt zw154)
  have sz_as154 : h0.size ≤ as154 := Nat.le_trans K144.1 zs154
  have ne_this_as154 : this ≠ as154 := Nat.ne_of_lt (Nat.lt_of_lt_of_le f145.lt zs154)
  have ne_am_as154 : am ≠ as154 := Nat.ne_of_lt (Nat.lt_of_lt_of_le f146.lt zs154)
  have ne_wn_as154 : wn ≠ as154 := Nat.ne_of_lt (Nat.lt_of_lt_of_le f147.lt zs154)
  have ne_b138_as154 : b138 ≠ as154 := Nat.ne_of_lt (Nat.lt_of_lt_of_le f153.lt zs154)
  have ne_b144_as154 : b144 ≠ as154 := Nat.ne_of_lt (Nat.lt_of_lt_of_le A144.lt zs154)
  show own_Go p e below T154 (mkF m 85 #[.val (.ref this), .val (.ref wn), .val (.ref b138), .val (.int (0 : Int32)), .unset] [(.ref b144)]) _
  refine own_retA X154 hx hret hlk (hb hby own_d8_85) rfl rfl rfl (by decide) (by decide) ?_
  exact ⟨b144, rfl, N154, ge_b144, KC154, f159, am154, fm154, Am154⟩
theorem own_pd_10 : parseMethodDescriptor "(J)I" = some ⟨[.long], some .int⟩ := by decide +kernel
theorem own_pd_0 : parseMethodDescriptor "(II)I" = some ⟨[.int, .int], some .int⟩ := by decide +kernel
def own_q_own_wf1 (Z : State) (this : Addr) (wn : Addr) (am : Addr) (x_ : Int64) (h0 : Heap) (n0 : Nat) (v : Option Value) (h : Heap) (L : List Loc) : Prop := ∃ b : Addr, v = some (.ref b) ∧ Fr n0 L ∧ n0 ≤ b ∧ Keep h0 h [] ∧ Exa Z h b "com/example/lapse/lapse/MarkingCode" ∧ ∃ a : Addr, Fld Z h b "com/example/lapse/lapse/MarkingCode" "most" "[I" (.ref a) ∧ own_Av Z h a .int 1 (fun j => .int (own_mo (own_wdf (own_f1 (31 : Int32) (((64 : Int32) - (own_f11 x_)) + (1 : Int32))) j)))
set_option maxRecDepth 65536 in
set_option maxHeartbeats 40000000 in
theorem own_wf1 (l : Launch) (Z : State) (a0 : Array Value) (hw : ∀ d ∈ tables_1, d.before a0 Z = true) (ws : List Jvm.Cond) (this : Addr) (wn : Addr) (am : Addr) (x_ : Int64) (h0 : Heap) (n0 : Nat) (Z0 : n0 ≤ h0.size) (hx1 : ((1 : Int32).toInt64) < x_) (F_this_most : Fld Z h0 this "com/example/lapse/lapse/MarkingCode" "most" "[I" (.ref am)) (A_am : own_Av Z h0 am .int 1 (fun _ => .int (1 : Int32))) (A_wn : own_Av Z h0 wn .long 3 (own_upd (fun _ => (.long (0 : Int64))) 0 (.long x_))) :
    MetFree l (⟨"com/example/lapse/lapse/MarkingCode", "widenedFor", "([J)Lcom/example/lapse/lapse/MarkingCode;"⟩ : MethodName) (head1 (Jvm.Cond.code (⟨"com/example/lapse/lapse/MarkingCode", "widenedFor", "([J)Lcom/example/lapse/lapse/MarkingCode;"⟩ : MethodName) prog_21_method_5_code 5 (some (.object "com/example/lapse/lapse/MarkingCode")) :: ws) ({ frames := 2, cells := 5, slots := 14, locals := 30 } : Room)) (fun aq Uq => aq = #[(.ref this), (.ref wn)] ∧ Z.Warmed39 Uq.vm ∧ Uq.heap = h0) (fun _ _ _ _ _ => True) (fun _ Uq oq Uq' => ∃ vq Lq, oq = .returned vq ∧ own_q_own_wf1 Z this wn am x_ h0 n0 vq Uq'.heap Lq ∧ FrameEnd Uq oq Uq' Lq ({ frames := 2, cells := 5, slots := 14, locals := 30 } : Room).cells ({ frames := 2, cells := 5, slots := 14, locals := 30 } : Room).slots) := by
  refine MetFree.of_bodySF (plainFor_of_name own_pn_MarkingCode) hisR ?_
  intro p e s m args below meth c T0 Bd hml0 hP hK
  obtain ⟨rfl, hZ, hh⟩ := hP
  have hx := Bd.exec
  have hby := Bd.bytes
  have hml : c.maxLocals = 5 := hml0
  have hown : s.vm.findClass "com/example/lapse/lapse/MarkingCode" = some m.cls := findClass_of_methodNamed Bd.named
  have hnm := (name_of_methodNamed Bd.named Bd.method).1
  have hret : meth.sig.returnType = (some (.object "com/example/lapse/lapse/MarkingCode")) := Bd.returns
  have hlk : meth.locks = false := BodyLoose.notSynchronized Bd
  have X0 : Stand p l e ({ frames := 2, cells := 5, slots := 14, locals := 30 } : Room) s m #[(.ref this), (.ref wn)] below meth c T0 [] 0 0 := Stand.of_body Bd
  have e0 : T0.heap = h0 := by rw [← hh, Bd.state]; rfl
  have N0 := Fr.nil n0
  refine own_start (own_ef8 m this wn) (Q := fun (v : Option Value) (h : Heap) (L : List Loc) => ∃ b : Addr, v = some (.ref b) ∧ Fr n0 L ∧ n0 ≤ b ∧ Keep h0 h [] ∧ Exa Z h b "com/example/lapse/lapse/MarkingCode" ∧ ∃ a : Addr, Fld Z h b "com/example/lapse/lapse/MarkingCode" "most" "[I" (.ref a) ∧ own_Av Z h a .int 1 (fun j => .int (own_mo (own_wdf (own_f1 (31 : Int32) (((64 : Int32) - (own_f11 x_)) + (1 : Int32))) j)))) (k := 5) (j := 14) ?_
  show own_Go p e below T0 (mkF m 0 #[.val (.ref this), .val (.ref wn), .unset, .unset, .unset] []) _
  have K0 := Keep.refl h0 []
  refine own_s_aloadN X0.here hx (hb hby own_d8_0) rfl rfl ?_
  obtain ⟨T160, X160, e160, st160⟩ := getF X0 hx hZ hown (host := "") (Or.inl (hw _ (List.mem_of_getElem? (i := 30) rfl))) Via.refl e0 F_this_most (g := (mkF m 1 #[.val (.ref this), .val (.ref wn), .unset, .unset, .unset] [(.ref this)])) rfl rfl (hb hby own_d8_1)
  refine own_by st160 ?_
  show own_Go p e below T160 (mkF m 4 #[.val (.ref this), .val (.ref wn), .unset, .unset, .unset] [(.ref am)]) _
  refine own_by (fun tq_ kq_ => own_len X160 hx hZ e160 A_am (z := (1 : Int32)) rfl (g := (mkF m 4 #[.val (.ref this), .val (.ref wn), .unset, .unset, .unset] [(.ref am)])) rfl rfl (hb hby own_d8_4) tq_ kq_) ?_
  show own_Go p e below T160 (mkF m 5 #[.val (.ref this), .val (.ref wn), .unset, .unset, .unset] [(.int (1 : Int32))]) _
  obtain ⟨T161, h161, k161, X161, e161, E161, A161, st161⟩ := newP X160 hx hZ (hw _ (List.mem_of_getElem? (i := 19) rfl)) e160 (g := (mkF m 5 #[.val (.ref this), .val (.ref wn), .unset, .unset, .unset] [(.int (1 : Int32))])) rfl (hb hby own_d8_5) rfl (by decide) (cap := 1) (by decide) (by decide) (by decide) (by decide)
  obtain ⟨b161, g161⟩ : ∃ z, z = h0.size := ⟨_, rfl⟩
  rw [← g161] at A161 st161
  have ge_b161 : n0 ≤ b161 := Nat.le_trans Z0 (Nat.le_of_eq g161.symm)
  have sz_b161 : h0.size ≤ b161 := Nat.le_trans K0.1 (Nat.le_of_eq g161.symm)
  have ne_this_b161 : this ≠ b161 := Nat.ne_of_lt (Nat.lt_of_lt_of_le F_this_most.lt (Nat.le_of_eq g161.symm))
  have ne_am_b161 : am ≠ b161 := Nat.ne_of_lt (Nat.lt_of_lt_of_le A_am.lt (Nat.le_of_eq g161.symm))
  have ne_wn_b161 : wn ≠ b161 := Nat.ne_of_lt (Nat.lt_of_lt_of_le A_wn.lt (Nat.le_of_eq g161.symm))
  have f162 := F_this_most.ext E161
  have f163 := A_am.ext E161
  have f164 := A_wn.ext E161
  have SZ161 : n0 ≤ h161.size := Nat.le_trans Z0 E161.1
  have K161 := K0.ext E161
  have f165 : own_Av Z h161 b161 .int 1 (fun _ => (.int (0 : Int32))) := own_Av.ofnew A161 (by decide) rfl
  refine own_by st161 ?_
  show own_Go p e below T161 (mkF m 7 #[.val (.ref this), .val (.ref wn), .unset, .unset, .unset] [(.ref b161)]) _
  refine own_s_astoreN X161.here hx #[.val (.ref this), .val (.ref wn), .val (.ref b161), .unset, .unset] (hb hby own_d8_7) rfl rfl ?_
  refine own_s_iconst X161.here hx (0 : Int32) (hb hby own_d8_8) rfl ?_
  refine own_s_istoreN X161.here hx #[.val (.ref this), .val (.ref wn), .val (.ref b161), .val (.int (0 : Int32)), .unset] (hb hby own_d8_9) rfl ?_
  refine own_s_iloadN X161.here hx (hb hby own_d8_10) rfl ?_
  refine own_s_aloadN X161.here hx (hb hby own_d8_11) rfl rfl ?_
  obtain ⟨T166, X166, e166, st166⟩ := getF X161 hx hZ hown (host := "") (Or.inl (hw _ (List.mem_of_getElem? (i := 30) rfl))) Via.refl e161 f162 (g := (mkF m 12 #[.val (.ref this), .val (.ref wn), .val (.ref b161), .val (.int (0 : Int32)), .unset] [(.ref this), (.int (0 : Int32))])) rfl rfl (hb hby own_d8_12)
  refine own_by st166 ?_
  show own_Go p e below T166 (mkF m 15 #[.val (.ref this), .val (.ref wn), .val (.ref b161), .val (.int (0 : Int32)), .unset] [(.ref am), (.int (0 : Int32))]) _
  refine own_by (fun tq_ kq_ => own_len X166 hx hZ e166 f163 (z := (1 : Int32)) rfl (g := (mkF m 15 #[.val (.ref this), .val (.ref wn), .val (.ref b161), .val (.int (0 : Int32)), .unset] [(.ref am), (.int (0 : Int32))])) rfl rfl (hb hby own_d8_15) tq_ kq_) ?_
  show own_Go p e below T166 (mkF m 16 #[.val (.ref this), .val (.ref wn), .val (.ref b161), .val (.int (0 : Int32)), .unset] [(.int (1 : Int32)), (.int (0 : Int32))]) _
  refine own_s_icmpNo X166.here hx (hb hby own_d8_16) (Jvm.Free.XT.ii_ge_f ((by decide))) ?_
  refine own_s_aloadN X166.here hx (hb hby own_d8_19) rfl rfl ?_
  refine own_s_iloadN X166.here hx (hb hby own_d8_20) rfl ?_
  refine own_s_bipush X166.here hx (32 : Int32) (hb hby own_d8_21) rfl ?_
  refine own_s_aloadN X166.here hx (hb hby own_d8_23) rfl rfl ?_
  obtain ⟨T167, X167, e167, st167⟩ := getF X166 hx hZ hown (host := "") (Or.inl (hw _ (List.mem_of_getElem? (i := 30) rfl))) Via.refl e166 f162 (g := (mkF m 24 #[.val (.ref this), .val (.ref wn), .val (.ref b161), .val (.int (0 : Int32)), .unset] [(.ref this), (.int (32 : Int32)), (.int (0 : Int32)), (.ref b161)])) rfl rfl (hb hby own_d8_24)
  refine own_by st167 ?_
  show own_Go p e below T167 (mkF m 27 #[.val (.ref this), .val (.ref wn), .val (.ref b161), .val (.int (0 : Int32)), .unset] [(.ref am), (.int (32 : Int32)), (.int (0 : Int32)), (.ref b161)]) _
  refine own_s_iloadN X167.here hx (hb hby own_d8_27) rfl ?_
  refine own_by (fun tq_ kq_ => own_ldI X167 hx hZ e167 f163 (k := 0) (v := (.int (1 : Int32))) (by decide) (by decide) rfl (g := (mkF m 28 #[.val (.ref this), .val (.ref wn), .val (.ref b161), .val (.int (0 : Int32)), .unset] [(.int (0 : Int32)), (.ref am), (.int (32 : Int32)), (.int (0 : Int32)), (.ref b161)])) rfl rfl (hb hby own_d8_28) tq_ kq_) ?_
  show own_Go p e below T167 (mkF m 29 #[.val (.ref this), .val (.ref wn), .val (.ref b161), .val (.int (0 : Int32)), .unset] [(.int (1 : Int32)), (.int (32 : Int32)), (.int (0 : Int32)), (.ref b161)]) _
  obtain ⟨_, _, ⟨T168, L168, k168, n168⟩, -, X168, ⟨Lc168, hQ168, l168, y168, z168⟩, st168⟩ := Jvm.LawKit.callS X167 hx (y := (⟨"java/lang/Integer", "numberOfLeadingZeros", "(I)I"⟩ : MethodName)) hown (mvT hZ (hw _ (List.mem_of_getElem? (i := 49) rfl))) (mvT hZ (hw _ (List.mem_of_getElem? (i := 50) rfl))) (mvT hZ (hw _ (List.mem_of_getElem? (i := 51) rfl))) (mvT hZ (hw _ (List.mem_of_getElem? (i := 52) rfl))) (by decide) (backOf (W := 3) (own_r10 l Z a0 hw [] (1 : Int32)  h161 n0 SZ161 ) hZ (hw _ (List.mem_of_getElem? (i := 52) rfl)) (hw _ (List.mem_of_getElem? (i := 51) rfl)) (by decide) (by decide)) (g := (mkF m 29 #[.val (.ref this), .val (.ref wn), .val (.ref b161), .val (.int (0 : Int32)), .unset] [(.int (1 : Int32)), (.int (32 : Int32)), (.int (0 : Int32)), (.ref b161)])) rfl (by rw [hml]; rfl) (argsL := [(.int (1 : Int32))]) (rest := [(.int (32 : Int32)), (.int (0 : Int32)), (.ref b161)]) (lenOf own_pd_9 rfl) rfl (by show 2 * 0 + _ ≤ _; exact Nat.le_of_eq rfl) (hb hby own_d8_29) (fun _ _ => ⟨rfl, e167, (by decide : 1 + 0 ≤ _), (by decide : 1 + 0 ≤ _)⟩)
  dsimp only [Pt.U, Pt.locs, Pt.cells, Pt.slots] at X168 l168 y168 z168 st168 hQ168
  subst l168 y168 z168
  obtain ⟨rfl, N168q, e168⟩ := hQ168
  have N168 := Fr.app N0 N168q
  refine own_by st168 ?_
  show own_Go p e below T168 (mkF m 32 #[.val (.ref this), .val (.ref wn), .val (.ref b161), .val (.int (0 : Int32)), .unset] [(.int (own_f10 (1 : Int32))), (.int (32 : Int32)), (.int (0 : Int32)), (.ref b161)]) _
  refine own_s_isub X168.here hx (hb hby own_d8_32) ?_
  rw [own_n1]
  show own_Go p e below T168 (mkF m 33 #[.val (.ref this), .val (.ref wn), .val (.ref b161), .val (.int (0 : Int32)), .unset] [(.int (1 : Int32)), (.int (0 : Int32)), (.ref b161)]) _
  obtain ⟨T169, h169, X169, e169, W169, fa169, st169⟩ := own_stI X168 hx hZ e168 f165 (k := 0) (by decide) (by decide) (g := (mkF m 33 #[.val (.ref this), .val (.ref wn), .val (.ref b161), .val (.int (0 : Int32)), .unset] [(.int (1 : Int32)), (.int (0 : Int32)), (.ref b161)])) rfl rfl (hb hby own_d8_33)
  have f170 := f162.other W169 (Or.inl ne_this_b161)
  have f171 := f163.other W169 ne_am_b161
  have f172 := f164.other W169 ne_wn_b161
  have N169 := Fr.snoc X169 N168 ge_b161
  have SZ169 : n0 ≤ h169.size := by rw [W169.size]; exact SZ161
  have K169 := K161.wr W169 (Or.inr sz_b161)
  refine own_by st169 ?_
  show own_Go p e below T169 (mkF m 34 #[.val (.ref this), .val (.ref wn), .val (.ref b161), .val (.int (0 : Int32)), .unset] []) _
  refine own_s_aloadN X169.here hx (hb hby own_d8_34) rfl rfl ?_
  refine own_s_iloadN X169.here hx (hb hby own_d8_35) rfl ?_
  refine own_by (fun tq_ kq_ => own_ldJ X169 hx hZ e169 f172 (k := 0) (v := (.long x_)) (by decide) (by decide) rfl (g := (mkF m 36 #[.val (.ref this), .val (.ref wn), .val (.ref b161), .val (.int (0 : Int32)), .unset] [(.int (0 : Int32)), (.ref wn)])) rfl rfl (hb hby own_d8_36) tq_ kq_) ?_
  show own_Go p e below T169 (mkF m 37 #[.val (.ref this), .val (.ref wn), .val (.ref b161), .val (.int (0 : Int32)), .unset] [(.long x_)]) _
  refine own_s_aloadN X169.here hx (hb hby own_d8_37) rfl rfl ?_
  obtain ⟨T173, X173, e173, st173⟩ := getF X169 hx hZ hown (host := "") (Or.inl (hw _ (List.mem_of_getElem? (i := 30) rfl))) Via.refl e169 f170 (g := (mkF m 38 #[.val (.ref this), .val (.ref wn), .val (.ref b161), .val (.int (0 : Int32)), .unset] [(.ref this), (.long x_)])) rfl rfl (hb hby own_d8_38)
  refine own_by st173 ?_
  show own_Go p e below T173 (mkF m 41 #[.val (.ref this), .val (.ref wn), .val (.ref b161), .val (.int (0 : Int32)), .unset] [(.ref am), (.long x_)]) _
  refine own_s_iloadN X173.here hx (hb hby own_d8_41) rfl ?_
  refine own_by (fun tq_ kq_ => own_ldI X173 hx hZ e173 f171 (k := 0) (v := (.int (1 : Int32))) (by decide) (by decide) rfl (g := (mkF m 42 #[.val (.ref this), .val (.ref wn), .val (.ref b161), .val (.int (0 : Int32)), .unset] [(.int (0 : Int32)), (.ref am), (.long x_)])) rfl rfl (hb hby own_d8_42) tq_ kq_) ?_
  show own_Go p e below T173 (mkF m 43 #[.val (.ref this), .val (.ref wn), .val (.ref b161), .val (.int (0 : Int32)), .unset] [(.int (1 : Int32)), (.long x_)]) _
  refine own_s_i2l X173.here hx (hb hby own_d8_43) ?_
  refine own_s_lcmp X173.here hx (hb hby own_d8_44) ?_
  refine own_s_ifNo X173.here hx (hb hby own_d8_45) (Jvm.Free.XT.ll_le_f hx1) ?_
  refine own_s_bipush X173.here hx (64 : Int32) (hb hby own_d8_48) rfl ?_
  refine own_s_aloadN X173.here hx (hb hby own_d8_50) rfl rfl ?_
  refine own_s_iloadN X173.here hx (hb hby own_d8_51) rfl ?_
  refine own_by (fun tq_ kq_ => own_ldJ X173 hx hZ e173 f172 (k := 0) (v := (.long x_)) (by decide) (by decide) rfl (g := (mkF m 52 #[.val (.ref this), .val (.ref wn), .val (.ref b161), .val (.int (0 : Int32)), .unset] [(.int (0 : Int32)), (.ref wn), (.int (64 : Int32))])) rfl rfl (hb hby own_d8_52) tq_ kq_) ?_
  show own_Go p e below T173 (mkF m 53 #[.val (.ref this), .val (.ref wn), .val (.ref b161), .val (.int (0 : Int32)), .unset] [(.long x_), (.int (64 : Int32))]) _
  obtain ⟨_, _, ⟨T174, L174, k174, n174⟩, -, X174, ⟨Lc174, hQ174, l174, y174, z174⟩, st174⟩ := Jvm.LawKit.callS X173 hx (y := (⟨"java/lang/Long", "numberOfLeadingZeros", "(J)I"⟩ : MethodName)) hown (mvT hZ (hw _ (List.mem_of_getElem? (i := 54) rfl))) (mvT hZ (hw _ (List.mem_of_getElem? (i := 55) rfl))) (mvT hZ (hw _ (List.mem_of_getElem? (i := 56) rfl))) (mvT hZ (hw _ (List.mem_of_getElem? (i := 57) rfl))) (by decide) (backOf (W := 1) (own_r11 l Z a0 hw [] x_  h169 n0 SZ169 ) hZ (hw _ (List.mem_of_getElem? (i := 57) rfl)) (hw _ (List.mem_of_getElem? (i := 56) rfl)) (by decide) (by decide)) (g := (mkF m 53 #[.val (.ref this), .val (.ref wn), .val (.ref b161), .val (.int (0 : Int32)), .unset] [(.long x_), (.int (64 : Int32))])) rfl (by rw [hml]; rfl) (argsL := [(.long x_)]) (rest := [(.int (64 : Int32))]) (lenOf own_pd_10 rfl) rfl (by show 2 * 0 + _ ≤ _; exact Nat.le_of_eq rfl) (hb hby own_d8_53) (fun _ _ => ⟨rfl, e173, (by decide : 1 + 0 ≤ _), (by decide : 1 + 0 ≤ _)⟩)
  dsimp only [Pt.U, Pt.locs, Pt.cells, Pt.slots] at X174 l174 y174 z174 st174 hQ174
  subst l174 y174 z174
  obtain ⟨rfl, N174q, e174⟩ := hQ174
  have N174 := Fr.app N169 N174q
  refine own_by st174 ?_
  show own_Go p e below T174 (mkF m 56 #[.val (.ref this), .val (.ref wn), .val (.ref b161), .val (.int (0 : Int32)), .unset] [(.int (own_f11 x_)), (.int (64 : Int32))]) _
  refine own_s_isub X174.here hx (hb hby own_d8_56) ?_
  refine own_s_istore X174.here hx #[.val (.ref this), .val (.ref wn), .val (.ref b161), .val (.int (0 : Int32)), .val (.int ((64 : Int32) - (own_f11 x_)))] (hb hby own_d8_57) rfl ?_
  refine own_s_aloadN X174.here hx (hb hby own_d8_59) rfl rfl ?_
  refine own_s_iloadN X174.here hx (hb hby own_d8_60) rfl ?_
  refine own_s_bipush X174.here hx (31 : Int32) (hb hby own_d8_61) rfl ?_
  refine own_s_iload X174.here hx (hb hby own_d8_63) rfl ?_
  refine own_s_iconst X174.here hx (1 : Int32) (hb hby own_d8_65) rfl ?_
  refine own_s_iadd X174.here hx (hb hby own_d8_66) ?_
  obtain ⟨_, _, ⟨T175, L175, k175, n175⟩, -, X175, ⟨Lc175, hQ175, l175, y175, z175⟩, st175⟩ := Jvm.LawKit.callS X174 hx (y := (⟨"java/lang/Math", "min", "(II)I"⟩ : MethodName)) hown (mvT hZ (hw _ (List.mem_of_getElem? (i := 59) rfl))) (mvT hZ (hw _ (List.mem_of_getElem? (i := 1) rfl))) (mvT hZ (hw _ (List.mem_of_getElem? (i := 2) rfl))) (mvT hZ (hw _ (List.mem_of_getElem? (i := 3) rfl))) (by decide) (backOf (W := 2) (own_r1 l Z a0 hw [] (31 : Int32) (((64 : Int32) - (own_f11 x_)) + (1 : Int32))  h169 n0 SZ169 ) hZ (hw _ (List.mem_of_getElem? (i := 3) rfl)) (hw _ (List.mem_of_getElem? (i := 2) rfl)) (by decide) (by decide)) (g := (mkF m 67 #[.val (.ref this), .val (.ref wn), .val (.ref b161), .val (.int (0 : Int32)), .val (.int ((64 : Int32) - (own_f11 x_)))] [(.int (((64 : Int32) - (own_f11 x_)) + (1 : Int32))), (.int (31 : Int32)), (.int (0 : Int32)), (.ref b161)])) rfl (by rw [hml]; rfl) (argsL := [(.int (31 : Int32)), (.int (((64 : Int32) - (own_f11 x_)) + (1 : Int32)))]) (rest := [(.int (0 : Int32)), (.ref b161)]) (lenOf own_pd_0 rfl) rfl (by show 2 * 0 + _ ≤ _; exact Nat.le_of_eq rfl) (hb hby own_d8_67) (fun _ _ => ⟨rfl, e174, (by decide : 1 + 0 ≤ _), (by decide : 1 + 0 ≤ _)⟩)
  dsimp only [Pt.U, Pt.locs, Pt.cells, Pt.slots] at X175 l175 y175 z175 st175 hQ175
  subst l175 y175 z175
  obtain ⟨rfl, N175q, e175⟩ := hQ175
  have N175 := Fr.app N174 N175q
  refine own_by st175 ?_
  show own_Go p e below T175 (mkF m 70 #[.val (.ref this), .val (.ref wn), .val (.ref b161), .val (.int (0 : Int32)), .val (.int ((64 : Int32) - (own_f11 x_)))] [(.int (own_f1 (31 : Int32) (((64 : Int32) - (own_f11 x_)) + (1 : Int32)))), (.int (0 : Int32)), (.ref b161)]) _
  obtain ⟨T176, h176, X176, e176, W176, fa176, st176⟩ := own_stI X175 hx hZ e175 fa169 (k := 0) (by decide) (by decide) (g := (mkF m 70 #[.val (.ref this), .val (.ref wn), .val (.ref b161), .val (.int (0 : Int32)), .val (.int ((64 : Int32) - (own_f11 x_)))] [(.int (own_f1 (31 : Int32) (((64 : Int32) - (own_f11 x_)) + (1 : Int32)))), (.int (0 : Int32)), (.ref b161)])) rfl rfl (hb hby own_d8_70)
  have f177 := f170.other W176 (Or.inl ne_this_b161)
  have f178 := f171.other W176 ne_am_b161
  have f179 := f172.other W176 ne_wn_b161
  have N176 := Fr.snoc X176 N175 ge_b161
  have SZ176 : n0 ≤ h176.size := by rw [W176.size]; exact SZ169
  have K176 := K169.wr W176 (Or.inr sz_b161)
  refine own_by st176 ?_
  show own_Go p e below T176 (mkF m 71 #[.val (.ref this), .val (.ref wn), .val (.ref b161), .val (.int (0 : Int32)), .val (.int ((64 : Int32) - (own_f11 x_)))] []) _
  refine own_by (fun tq_ kq_ => XS.iinc X176.here hx rfl (hb hby own_d8_71) rfl (l' := #[.val (.ref this), .val (.ref wn), .val (.ref b161), .val (.int ((0 : Int32) + (1 : Int32))), .val (.int ((64 : Int32) - (own_f11 x_)))]) rfl kq_) ?_
  show own_Go p e below T176 (mkF m 74 #[.val (.ref this), .val (.ref wn), .val (.ref b161), .val (.int ((0 : Int32) + (1 : Int32))), .val (.int ((64 : Int32) - (own_f11 x_)))] []) _
  show own_Go p e below T176 (mkF m 74 #[.val (.ref this), .val (.ref wn), .val (.ref b161), .val (.int (1 : Int32)), .val (.int ((64 : Int32) - (own_f11 x_)))] []) _
  refine own_s_goto X176.here hx 10 (hb hby own_d8_74) (by decide) (by decide) ?_
  refine own_s_iloadN X176.here hx (hb hby own_d8_10) rfl ?_
  refine own_s_aloadN X176.here hx (hb hby own_d8_11) rfl rfl ?_
  obtain ⟨T180, X180, e180, st180⟩ := getF X176 hx hZ hown (host := "") (Or.inl (hw _ (List.mem_of_getElem? (i := 30) rfl))) Via.refl e176 f177 (g := (mkF m 12 #[.val (.ref this), .val (.ref wn), .val (.ref b161), .val (.int (1 : Int32)), .val (.int ((64 : Int32) - (own_f11 x_)))] [(.ref this), (.int (1 : Int32))])) rfl rfl (hb hby own_d8_12)
  refine own_by st180 ?_
  show own_Go p e below T180 (mkF m 15 #[.val (.ref this), .val (.ref wn), .val (.ref b161), .val (.int (1 : Int32)), .val (.int ((64 : Int32) - (own_f11 x_)))] [(.ref am), (.int (1 : Int32))]) _
  refine own_by (fun tq_ kq_ => own_len X180 hx hZ e180 f178 (z := (1 : Int32)) rfl (g := (mkF m 15 #[.val (.ref this), .val (.ref wn), .val (.ref b161), .val (.int (1 : Int32)), .val (.int ((64 : Int32) - (own_f11 x_)))] [(.ref am), (.int (1 : Int32))])) rfl rfl (hb hby own_d8_15) tq_ kq_) ?_
  show own_Go p e below T180 (mkF m 16 #[.val (.ref this), .val (.ref wn), .val (.ref b161), .val (.int (1 : Int32)), .val (.int ((64 : Int32) - (own_f11 x_)))] [(.int (1 : Int32)), (.int (1 : Int32))]) _
  refine own_s_icmpYes X180.here hx 77 (hb hby own_d8_16) (Jvm.Free.XT.ii_ge_t ((by decide))) (by decide) (by decide) ?_
  obtain ⟨T181, h181, X181, e181, E181, A181, D181, -, st181⟩ := newO X180 hx hZ hown (hw _ (List.mem_of_getElem? (i := 43) rfl)) (hw _ (List.mem_of_getElem? (i := 11) rfl)) (hw _ (List.mem_of_getElem? (i := 12) rfl)) e180 (g := (mkF m 77 #[.val (.ref this), .val (.ref wn), .val (.ref b161), .val (.int (1 : Int32)), .val (.int ((64 : Int32) - (own_f11 x_)))] [])) rfl (hb hby own_d8_77) (by decide) (by decide)
  obtain ⟨b181, g181⟩ : ∃ z, z = h176.size := ⟨_, rfl⟩
  rw [← g181] at A181 D181 st181
  have ge_b181 : n0 ≤ b181 := Nat.le_trans SZ176 (Nat.le_of_eq g181.symm)
  have sz_b181 : h0.size ≤ b181 := Nat.le_trans K176.1 (Nat.le_of_eq g181.symm)
  have ne_this_b181 : this ≠ b181 := Nat.ne_of_lt (Nat.lt_of_lt_of_le f177.lt (Nat.le_of_eq g181.symm))
  have ne_am_b181 : am ≠ b181 := Nat.ne_of_lt (Nat.lt_of_lt_of_le f178.lt (Nat.le_of_eq g181.symm))
  have ne_wn_b181 : wn ≠ b181 := Nat.ne_of_lt (Nat.lt_of_lt_of_le f179.lt (Nat.le_of_eq g181.symm))
  have ne_b161_b181 : b161 ≠ b181 := Nat.ne_of_lt (Nat.lt_of_lt_of_le fa176.lt (Nat.le_of_eq g181.symm))
  have f182 := f177.ext E181
  have f183 := f178.ext E181
  have f184 := f179.ext E181
  have f185 := fa176.ext E181
  have SZ181 : n0 ≤ h181.size := Nat.le_trans SZ176 E181.1
  have K181 := K176.ext E181
  have f186 : Fld Z h181 b181 "com/example/lapse/lapse/MarkingCode" "most" "[I" .null := D181 (Or.inr (hw _ (List.mem_of_getElem? (i := 31) rfl))) (ty := (.array .int)) (by decide)
  have f187 : Fld Z h181 b181 "com/example/lapse/lapse/MarkingCode" "words" "[I" .null := D181 (Or.inr (hw _ (List.mem_of_getElem? (i := 33) rfl))) (ty := (.array .int)) (by decide)
  have f188 : Fld Z h181 b181 "com/example/lapse/lapse/MarkingCode" "shifts" "[I" .null := D181 (Or.inr (hw _ (List.mem_of_getElem? (i := 35) rfl))) (ty := (.array .int)) (by decide)
  have f189 : Fld Z h181 b181 "com/example/lapse/lapse/MarkingCode" "length" "I" (.int (0 : Int32)) := D181 (Or.inr (hw _ (List.mem_of_getElem? (i := 37) rfl))) (ty := .int) (by decide)
  refine own_by st181 ?_
  show own_Go p e below T181 (mkF m 80 #[.val (.ref this), .val (.ref wn), .val (.ref b161), .val (.int (1 : Int32)), .val (.int ((64 : Int32) - (own_f11 x_)))] [(.ref b181)]) _
  refine own_s_dup X181.here hx (hb hby own_d8_80) rfl ?_
  refine own_s_aloadN X181.here hx (hb hby own_d8_81) rfl rfl ?_
  have f190 : own_Av Z h181 b161 .int 1 (fun j => .int (own_wdf (own_f1 (31 : Int32) (((64 : Int32) - (own_f11 x_)) + (1 : Int32))) j)) := f185.cong rfl (fun j hj => by
    match j, hj with
    | 0, _ => rfl)
  obtain ⟨_, _, ⟨T191, L191, k191, n191⟩, -, X191, ⟨Lc191, hQ191, l191, y191, z191⟩, st191⟩ := X181.specialBack hx (y := (⟨"com/example/lapse/lapse/MarkingCode", "<init>", "([I)V"⟩ : MethodName)) rfl hown (mvT hZ (hw _ (List.mem_of_getElem? (i := 24) rfl))) (mvT hZ (hw _ (List.mem_of_getElem? (i := 25) rfl))) (mvT hZ (hw _ (List.mem_of_getElem? (i := 26) rfl))) (by decide) (backOf (W := 1) (own_r6 l Z a0 hw [] b181 b161 1 (own_wdf (own_f1 (31 : Int32) (((64 : Int32) - (own_f11 x_)) + (1 : Int32)))) h181 n0 SZ181 (by decide) A181 f186 f187 f188 f189 ge_b181 f190 ne_b161_b181) hZ (hw _ (List.mem_of_getElem? (i := 26) rfl)) (hw _ (List.mem_of_getElem? (i := 12) rfl)) (by decide) (by decide)) (g := (mkF m 82 #[.val (.ref this), .val (.ref wn), .val (.ref b161), .val (.int (1 : Int32)), .val (.int ((64 : Int32) - (own_f11 x_)))] [(.ref b161), (.ref b181), (.ref b181)])) rfl (by rw [hml]; rfl) (Steps.refl _) (a := b181) (argsL := [(.ref b161)]) (rest := [(.ref b181)]) (lenOf own_pd_5 rfl) rfl (by show 2 * 0 + _ ≤ _; exact Nat.le_of_eq rfl) (hb hby own_d8_82) (fun _ _ => ⟨rfl, e181, (by decide : 2 + 3 ≤ _), (by decide : 5 + 9 ≤ _)⟩)
  dsimp only [Pt.U, Pt.locs, Pt.cells, Pt.slots] at X191 l191 y191 z191 st191 hQ191
  subst l191 y191 z191
  obtain ⟨rfl, N191q, K191, am191, aw191, as191, gm191, gw191, gs191, zm191, zw191, zs191, nmw191, nms191, nws191, fm191, Am191, fw191, Aw191, fs191, As191, fl191⟩ := hQ191
  have N191 := Fr.app N176 N191q
  have f192 := f182.keep K191 (ninS ne_this_b181 nin0)
  have f193 := f183.keep K191 (ninS ne_am_b181 nin0)
  have f194 := f184.keep K191 (ninS ne_wn_b181 nin0)
  have f195 := f190.keep K191 (ninS ne_b161_b181 nin0)
  have f196 := A181.keep K191
  have SZ191 : n0 ≤ T191.heap.size := Nat.le_trans SZ181 K191.1
  have KC191 := K181.trans K191 (allS (Or.inr sz_b181) all0)
  refine own_by (fun t k => st191.trans k) ?_
  have sz_am191 : h0.size ≤ am191 := Nat.le_trans K181.1 zm191
  have ne_this_am191 : this ≠ am191 := Nat.ne_of_lt (Nat.lt_of_lt_of_le f182.lt zm191)
  have ne_am_am191 : am ≠ am191 := Nat.ne_of_lt (Nat.lt_of_lt_of_le f183.lt zm191)
  have ne_wn_am191 : wn ≠ am191 := Nat.ne_of_lt (Nat.lt_of_lt_of_le f184.lt zm191)
  have ne_b161_am191 : b161 ≠ am191 := Nat.ne_of_lt (Nat.lt_of_lt_of_le f190.lt zm191)
  have ne_b181_am191 : b181 ≠ am191 := Nat.ne_of_lt (Nat.lt_of_lt_of_le A181.lt zm191)
  have sz_aw191 : h0.size ≤ aw191 := Nat.le_trans K181.1 zw191
  have ne_this_aw191 : this ≠ aw191 := Nat.ne_of_lt (Nat.lt_of_lt_of_le f182.lt zw191)
  have ne_am_aw191 : am ≠ aw191 := Nat.ne_of_lt (Nat.lt_of_lt_of_le f183.lt zw191)
  have ne_wn_aw191 : wn ≠ aw191 := Nat.ne_of_lt (Nat.lt_of_lt_of_le f184.lt zw191)
  have ne_b161_aw191 : b161 ≠ aw191 := Nat.ne_of_lt (Nat.lt_of_lt_of_le f190.lt zw191)
  have ne_b181_aw191 : b181 ≠ aw191 := Nat.ne_of_lt (Nat.lt_of_lt_of_le A181.lt zw191)
  have sz_as191 : h0.size ≤ as191 := Nat.le_trans K181.1 zs191
  have ne_this_as191 : this ≠ as191 := Nat.ne_of_lt (Nat.lt_of_lt_of_le f182.lt zs191)
  have ne_am_as191 : am ≠ as191 := Nat.ne_of_lt (Nat.lt_of_lt_of_le f183.lt zs191)
  have ne_wn_as191 : wn ≠ as191 := Nat.ne_of_lt (Nat.lt_of_lt_of_le f184.lt zs191)
  have ne_b161_as191 : b161 ≠ as191 := Nat.ne_of_lt (Nat.lt_of_lt_of_le f190.lt zs191)
  have ne_b181_as191 : b181 ≠ as191 := Nat.ne_of_lt (Nat.lt_of_lt_of_le A181.lt zs191)
  show own_Go p e below T191 (mkF m 85 #[.val (.ref this), .val (.ref wn), .val (.ref b161), .val (.int (1 : Int32)), .val (.int ((64 : Int32) - (own_f11 x_)))] [(.ref b181)]) _
  refine own_retA X191 hx hret hlk (hb hby own_d8_85) rfl rfl rfl (by decide) (by decide) ?_
  exact ⟨b181, rfl, N191, ge_b181, KC191, f196, am191, fm191, Am191⟩
def own_q_own_wf2 (Z : State) (this : Addr) (wn : Addr) (am : Addr) (x_ : Int64) (h0 : Heap) (n0 : Nat) (v : Option Value) (h : Heap) (L : List Loc) : Prop := ∃ b : Addr, v = some (.ref b) ∧ Fr n0 L ∧ n0 ≤ b ∧ Keep h0 h [] ∧ Exa Z h b "com/example/lapse/lapse/MarkingCode" ∧ ∃ a : Addr, Fld Z h b "com/example/lapse/lapse/MarkingCode" "most" "[I" (.ref a) ∧ own_Av Z h a .int 2 (fun j => .int (own_mo (own_wdf (own_f1 (31 : Int32) (((64 : Int32) - (own_f11 x_)) + (1 : Int32))) j)))
set_option maxRecDepth 65536 in
set_option maxHeartbeats 40000000 in
theorem own_wf2 (l : Launch) (Z : State) (a0 : Array Value) (hw : ∀ d ∈ tables_1, d.before a0 Z = true) (ws : List Jvm.Cond) (this : Addr) (wn : Addr) (am : Addr) (x_ : Int64) (h0 : Heap) (n0 : Nat) (Z0 : n0 ≤ h0.size) (hx1 : ((1 : Int32).toInt64) < x_) (F_this_most : Fld Z h0 this "com/example/lapse/lapse/MarkingCode" "most" "[I" (.ref am)) (A_am : own_Av Z h0 am .int 2 (fun _ => .int (1 : Int32))) (A_wn : own_Av Z h0 wn .long 3 (own_upd (fun _ => (.long (0 : Int64))) 0 (.long x_))) :
    MetFree l (⟨"com/example/lapse/lapse/MarkingCode", "widenedFor", "([J)Lcom/example/lapse/lapse/MarkingCode;"⟩ : MethodName) (head1 (Jvm.Cond.code (⟨"com/example/lapse/lapse/MarkingCode", "widenedFor", "([J)Lcom/example/lapse/lapse/MarkingCode;"⟩ : MethodName) prog_21_method_5_code 5 (some (.object "com/example/lapse/lapse/MarkingCode")) :: ws) ({ frames := 2, cells := 5, slots := 15, locals := 30 } : Room)) (fun aq Uq => aq = #[(.ref this), (.ref wn)] ∧ Z.Warmed39 Uq.vm ∧ Uq.heap = h0) (fun _ _ _ _ _ => True) (fun _ Uq oq Uq' => ∃ vq Lq, oq = .returned vq ∧ own_q_own_wf2 Z this wn am x_ h0 n0 vq Uq'.heap Lq ∧ FrameEnd Uq oq Uq' Lq ({ frames := 2, cells := 5, slots := 15, locals := 30 } : Room).cells ({ frames := 2, cells := 5, slots := 15, locals := 30 } : Room).slots) := by
  refine MetFree.of_bodySF (plainFor_of_name own_pn_MarkingCode) hisR ?_
  intro p e s m args below meth c T0 Bd hml0 hP hK
  obtain ⟨rfl, hZ, hh⟩ := hP
  have hx := Bd.exec
  have hby := Bd.bytes
  have hml : c.maxLocals = 5 := hml0
  have hown : s.vm.findClass "com/example/lapse/lapse/MarkingCode" = some m.cls := findClass_of_methodNamed Bd.named
  have hnm := (name_of_methodNamed Bd.named Bd.method).1
  have hret : meth.sig.returnType = (some (.object "com/example/lapse/lapse/MarkingCode")) := Bd.returns
  have hlk : meth.locks = false := BodyLoose.notSynchronized Bd
  have X0 : Stand p l e ({ frames := 2, cells := 5, slots := 15, locals := 30 } : Room) s m #[(.ref this), (.ref wn)] below meth c T0 [] 0 0 := Stand.of_body Bd
  have e0 : T0.heap = h0 := by rw [← hh, Bd.state]; rfl
  have N0 := Fr.nil n0
  refine own_start (own_ef8 m this wn) (Q := fun (v : Option Value) (h : Heap) (L : List Loc) => ∃ b : Addr, v = some (.ref b) ∧ Fr n0 L ∧ n0 ≤ b ∧ Keep h0 h [] ∧ Exa Z h b "com/example/lapse/lapse/MarkingCode" ∧ ∃ a : Addr, Fld Z h b "com/example/lapse/lapse/MarkingCode" "most" "[I" (.ref a) ∧ own_Av Z h a .int 2 (fun j => .int (own_mo (own_wdf (own_f1 (31 : Int32) (((64 : Int32) - (own_f11 x_)) + (1 : Int32))) j)))) (k := 5) (j := 15) ?_
  show own_Go p e below T0 (mkF m 0 #[.val (.ref this), .val (.ref wn), .unset, .unset, .unset] []) _
  have K0 := Keep.refl h0 []
  refine own_s_aloadN X0.here hx (hb hby own_d8_0) rfl rfl ?_
  obtain ⟨T197, X197, e197, st197⟩ := getF X0 hx hZ hown (host := "") (Or.inl (hw _ (List.mem_of_getElem? (i := 30) rfl))) Via.refl e0 F_this_most (g := (mkF m 1 #[.val (.ref this), .val (.ref wn), .unset, .unset, .unset] [(.ref this)])) rfl rfl (hb hby own_d8_1)
  refine own_by st197 ?_
  show own_Go p e below T197 (mkF m 4 #[.val (.ref this), .val (.ref wn), .unset, .unset, .unset] [(.ref am)]) _
  refine own_by (fun tq_ kq_ => own_len X197 hx hZ e197 A_am (z := (2 : Int32)) rfl (g := (mkF m 4 #[.val (.ref this), .val (.ref wn), .unset, .unset, .unset] [(.ref am)])) rfl rfl (hb hby own_d8_4) tq_ kq_) ?_
  show own_Go p e below T197 (mkF m 5 #[.val (.ref this), .val (.ref wn), .unset, .unset, .unset] [(.int (2 : Int32))]) _
  obtain ⟨T198, h198, k198, X198, e198, E198, A198, st198⟩ := newP X197 hx hZ (hw _ (List.mem_of_getElem? (i := 19) rfl)) e197 (g := (mkF m 5 #[.val (.ref this), .val (.ref wn), .unset, .unset, .unset] [(.int (2 : Int32))])) rfl (hb hby own_d8_5) rfl (by decide) (cap := 2) (by decide) (by decide) (by decide) (by decide)
  obtain ⟨b198, g198⟩ : ∃ z, z = h0.size := ⟨_, rfl⟩
  rw [← g198] at A198 st198
  have ge_b198 : n0 ≤ b198 := Nat.le_trans Z0 (Nat.le_of_eq g198.symm)
  have sz_b198 : h0.size ≤ b198 := Nat.le_trans K0.1 (Nat.le_of_eq g198.symm)
  have ne_this_b198 : this ≠ b198 := Nat.ne_of_lt (Nat.lt_of_lt_of_le F_this_most.lt (Nat.le_of_eq g198.symm))
  have ne_am_b198 : am ≠ b198 := Nat.ne_of_lt (Nat.lt_of_lt_of_le A_am.lt (Nat.le_of_eq g198.symm))
  have ne_wn_b198 : wn ≠ b198 := Nat.ne_of_lt (Nat.lt_of_lt_of_le A_wn.lt (Nat.le_of_eq g198.symm))
  have f199 := F_this_most.ext E198
  have f200 := A_am.ext E198
  have f201 := A_wn.ext E198
  have SZ198 : n0 ≤ h198.size := Nat.le_trans Z0 E198.1
  have K198 := K0.ext E198
  have f202 : own_Av Z h198 b198 .int 2 (fun _ => (.int (0 : Int32))) := own_Av.ofnew A198 (by decide) rfl
  refine own_by st198 ?_
  show own_Go p e below T198 (mkF m 7 #[.val (.ref this), .val (.ref wn), .unset, .unset, .unset] [(.ref b198)]) _
  refine own_s_astoreN X198.here hx #[.val (.ref this), .val (.ref wn), .val (.ref b198), .unset, .unset] (hb hby own_d8_7) rfl rfl ?_
  refine own_s_iconst X198.here hx (0 : Int32) (hb hby own_d8_8) rfl ?_
  refine own_s_istoreN X198.here hx #[.val (.ref this), .val (.ref wn), .val (.ref b198), .val (.int (0 : Int32)), .unset] (hb hby own_d8_9) rfl ?_
  refine own_s_iloadN X198.here hx (hb hby own_d8_10) rfl ?_
  refine own_s_aloadN X198.here hx (hb hby own_d8_11) rfl rfl ?_
  obtain ⟨T203, X203, e203, st203⟩ := getF X198 hx hZ hown (host := "") (Or.inl (hw _ (List.mem_of_getElem? (i := 30) rfl))) Via.refl e198 f199 (g := (mkF m 12 #[.val (.ref this), .val (.ref wn), .val (.ref b198), .val (.int (0 : Int32)), .unset] [(.ref this), (.int (0 : Int32))])) rfl rfl (hb hby own_d8_12)
  refine own_by st203 ?_
  show own_Go p e below T203 (mkF m 15 #[.val (.ref this), .val (.ref wn), .val (.ref b198), .val (.int (0 : Int32)), .unset] [(.ref am), (.int (0 : Int32))]) _
  refine own_by (fun tq_ kq_ => own_len X203 hx hZ e203 f200 (z := (2 : Int32)) rfl (g := (mkF m 15 #[.val (.ref this), .val (.ref wn), .val (.ref b198), .val (.int (0 : Int32)), .unset] [(.ref am), (.int (0 : Int32))])) rfl rfl (hb hby own_d8_15) tq_ kq_) ?_
  show own_Go p e below T203 (mkF m 16 #[.val (.ref this), .val (.ref wn), .val (.ref b198), .val (.int (0 : Int32)), .unset] [(.int (2 : Int32)), (.int (0 : Int32))]) _
  refine own_s_icmpNo X203.here hx (hb hby own_d8_16) (Jvm.Free.XT.ii_ge_f ((by decide))) ?_
  refine own_s_aloadN X203.here hx (hb hby own_d8_19) rfl rfl ?_
  refine own_s_iloadN X203.here hx (hb hby own_d8_20) rfl ?_
  refine own_s_bipush X203.here hx (32 : Int32) (hb hby own_d8_21) rfl ?_
  refine own_s_aloadN X203.here hx (hb hby own_d8_23) rfl rfl ?_
  obtain ⟨T204, X204, e204, st204⟩ := getF X203 hx hZ hown (host := "") (Or.inl (hw _ (List.mem_of_getElem? (i := 30) rfl))) Via.refl e203 f199 (g := (mkF m 24 #[.val (.ref this), .val (.ref wn), .val (.ref b198), .val (.int (0 : Int32)), .unset] [(.ref this), (.int (32 : Int32)), (.int (0 : Int32)), (.ref b198)])) rfl rfl (hb hby own_d8_24)
  refine own_by st204 ?_
  show own_Go p e below T204 (mkF m 27 #[.val (.ref this), .val (.ref wn), .val (.ref b198), .val (.int (0 : Int32)), .unset] [(.ref am), (.int (32 : Int32)), (.int (0 : Int32)), (.ref b198)]) _
  refine own_s_iloadN X204.here hx (hb hby own_d8_27) rfl ?_
  refine own_by (fun tq_ kq_ => own_ldI X204 hx hZ e204 f200 (k := 0) (v := (.int (1 : Int32))) (by decide) (by decide) rfl (g := (mkF m 28 #[.val (.ref this), .val (.ref wn), .val (.ref b198), .val (.int (0 : Int32)), .unset] [(.int (0 : Int32)), (.ref am), (.int (32 : Int32)), (.int (0 : Int32)), (.ref b198)])) rfl rfl (hb hby own_d8_28) tq_ kq_) ?_
  show own_Go p e below T204 (mkF m 29 #[.val (.ref this), .val (.ref wn), .val (.ref b198), .val (.int (0 : Int32)), .unset] [(.int (1 : Int32)), (.int (32 : Int32)), (.int (0 : Int32)), (.ref b198)]) _
  obtain ⟨_, _, ⟨T205, L205, k205, n205⟩, -, X205, ⟨Lc205, hQ205, l205, y205, z205⟩, st205⟩ := Jvm.LawKit.callS X204 hx (y := (⟨"java/lang/Integer", "numberOfLeadingZeros", "(I)I"⟩ : MethodName)) hown (mvT hZ (hw _ (List.mem_of_getElem? (i := 49) rfl))) (mvT hZ (hw _ (List.mem_of_getElem? (i := 50) rfl))) (mvT hZ (hw _ (List.mem_of_getElem? (i := 51) rfl))) (mvT hZ (hw _ (List.mem_of_getElem? (i := 52) rfl))) (by decide) (backOf (W := 3) (own_r10 l Z a0 hw [] (1 : Int32)  h198 n0 SZ198 ) hZ (hw _ (List.mem_of_getElem? (i := 52) rfl)) (hw _ (List.mem_of_getElem? (i := 51) rfl)) (by decide) (by decide)) (g := (mkF m 29 #[.val (.ref this), .val (.ref wn), .val (.ref b198), .val (.int (0 : Int32)), .unset] [(.int (1 : Int32)), (.int (32 : Int32)), (.int (0 : Int32)), (.ref b198)])) rfl (by rw [hml]; rfl) (argsL := [(.int (1 : Int32))]) (rest := [(.int (32 : Int32)), (.int (0 : Int32)), (.ref b198)]) (lenOf own_pd_9 rfl) rfl (by show 2 * 0 + _ ≤ _; exact Nat.le_of_eq rfl) (hb hby own_d8_29) (fun _ _ => ⟨rfl, e204, (by decide : 1 + 0 ≤ _), (by decide : 2 + 0 ≤ _)⟩)
  dsimp only [Pt.U, Pt.locs, Pt.cells, Pt.slots] at X205 l205 y205 z205 st205 hQ205
  subst l205 y205 z205
  obtain ⟨rfl, N205q, e205⟩ := hQ205
  have N205 := Fr.app N0 N205q
  refine own_by st205 ?_
  show own_Go p e below T205 (mkF m 32 #[.val (.ref this), .val (.ref wn), .val (.ref b198), .val (.int (0 : Int32)), .unset] [(.int (own_f10 (1 : Int32))), (.int (32 : Int32)), (.int (0 : Int32)), (.ref b198)]) _
  refine own_s_isub X205.here hx (hb hby own_d8_32) ?_
  rw [own_n1]
  show own_Go p e below T205 (mkF m 33 #[.val (.ref this), .val (.ref wn), .val (.ref b198), .val (.int (0 : Int32)), .unset] [(.int (1 : Int32)), (.int (0 : Int32)), (.ref b198)]) _
  obtain ⟨T206, h206, X206, e206, W206, fa206, st206⟩ := own_stI X205 hx hZ e205 f202 (k := 0) (by decide) (by decide) (g := (mkF m 33 #[.val (.ref this), .val (.ref wn), .val (.ref b198), .val (.int (0 : Int32)), .unset] [(.int (1 : Int32)), (.int (0 : Int32)), (.ref b198)])) rfl rfl (hb hby own_d8_33)
  have f207 := f199.other W206 (Or.inl ne_this_b198)
  have f208 := f200.other W206 ne_am_b198
  have f209 := f201.other W206 ne_wn_b198
  have N206 := Fr.snoc X206 N205 ge_b198
  have SZ206 : n0 ≤ h206.size := by rw [W206.size]; exact SZ198
  have K206 := K198.wr W206 (Or.inr sz_b198)
  refine own_by st206 ?_
  show own_Go p e below T206 (mkF m 34 #[.val (.ref this), .val (.ref wn), .val (.ref b198), .val (.int (0 : Int32)), .unset] []) _
  refine own_s_aloadN X206.here hx (hb hby own_d8_34) rfl rfl ?_
  refine own_s_iloadN X206.here hx (hb hby own_d8_35) rfl ?_
  refine own_by (fun tq_ kq_ => own_ldJ X206 hx hZ e206 f209 (k := 0) (v := (.long x_)) (by decide) (by decide) rfl (g := (mkF m 36 #[.val (.ref this), .val (.ref wn), .val (.ref b198), .val (.int (0 : Int32)), .unset] [(.int (0 : Int32)), (.ref wn)])) rfl rfl (hb hby own_d8_36) tq_ kq_) ?_
  show own_Go p e below T206 (mkF m 37 #[.val (.ref this), .val (.ref wn), .val (.ref b198), .val (.int (0 : Int32)), .unset] [(.long x_)]) _
  refine own_s_aloadN X206.here hx (hb hby own_d8_37) rfl rfl ?_
  obtain ⟨T210, X210, e210, st210⟩ := getF X206 hx hZ hown (host := "") (Or.inl (hw _ (List.mem_of_getElem? (i := 30) rfl))) Via.refl e206 f207 (g := (mkF m 38 #[.val (.ref this), .val (.ref wn), .val (.ref b198), .val (.int (0 : Int32)), .unset] [(.ref this), (.long x_)])) rfl rfl (hb hby own_d8_38)
  refine own_by st210 ?_
  show own_Go p e below T210 (mkF m 41 #[.val (.ref this), .val (.ref wn), .val (.ref b198), .val (.int (0 : Int32)), .unset] [(.ref am), (.long x_)]) _
  refine own_s_iloadN X210.here hx (hb hby own_d8_41) rfl ?_
  refine own_by (fun tq_ kq_ => own_ldI X210 hx hZ e210 f208 (k := 0) (v := (.int (1 : Int32))) (by decide) (by decide) rfl (g := (mkF m 42 #[.val (.ref this), .val (.ref wn), .val (.ref b198), .val (.int (0 : Int32)), .unset] [(.int (0 : Int32)), (.ref am), (.long x_)])) rfl rfl (hb hby own_d8_42) tq_ kq_) ?_
  show own_Go p e below T210 (mkF m 43 #[.val (.ref this), .val (.ref wn), .val (.ref b198), .val (.int (0 : Int32)), .unset] [(.int (1 : Int32)), (.long x_)]) _
  refine own_s_i2l X210.here hx (hb hby own_d8_43) ?_
  refine own_s_lcmp X210.here hx (hb hby own_d8_44) ?_
  refine own_s_ifNo X210.here hx (hb hby own_d8_45) (Jvm.Free.XT.ll_le_f hx1) ?_
  refine own_s_bipush X210.here hx (64 : Int32) (hb hby own_d8_48) rfl ?_
  refine own_s_aloadN X210.here hx (hb hby own_d8_50) rfl rfl ?_
  refine own_s_iloadN X210.here hx (hb hby own_d8_51) rfl ?_
  refine own_by (fun tq_ kq_ => own_ldJ X210 hx hZ e210 f209 (k := 0) (v := (.long x_)) (by decide) (by decide) rfl (g := (mkF m 52 #[.val (.ref this), .val (.ref wn), .val (.ref b198), .val (.int (0 : Int32)), .unset] [(.int (0 : Int32)), (.ref wn), (.int (64 : Int32))])) rfl rfl (hb hby own_d8_52) tq_ kq_) ?_
  show own_Go p e below T210 (mkF m 53 #[.val (.ref this), .val (.ref wn), .val (.ref b198), .val (.int (0 : Int32)), .unset] [(.long x_), (.int (64 : Int32))]) _
  obtain ⟨_, _, ⟨T211, L211, k211, n211⟩, -, X211, ⟨Lc211, hQ211, l211, y211, z211⟩, st211⟩ := Jvm.LawKit.callS X210 hx (y := (⟨"java/lang/Long", "numberOfLeadingZeros", "(J)I"⟩ : MethodName)) hown (mvT hZ (hw _ (List.mem_of_getElem? (i := 54) rfl))) (mvT hZ (hw _ (List.mem_of_getElem? (i := 55) rfl))) (mvT hZ (hw _ (List.mem_of_getElem? (i := 56) rfl))) (mvT hZ (hw _ (List.mem_of_getElem? (i := 57) rfl))) (by decide) (backOf (W := 1) (own_r11 l Z a0 hw [] x_  h206 n0 SZ206 ) hZ (hw _ (List.mem_of_getElem? (i := 57) rfl)) (hw _ (List.mem_of_getElem? (i := 56) rfl)) (by decide) (by decide)) (g := (mkF m 53 #[.val (.ref this), .val (.ref wn), .val (.ref b198), .val (.int (0 : Int32)), .unset] [(.long x_), (.int (64 : Int32))])) rfl (by rw [hml]; rfl) (argsL := [(.long x_)]) (rest := [(.int (64 : Int32))]) (lenOf own_pd_10 rfl) rfl (by show 2 * 0 + _ ≤ _; exact Nat.le_of_eq rfl) (hb hby own_d8_53) (fun _ _ => ⟨rfl, e210, (by decide : 1 + 0 ≤ _), (by decide : 2 + 0 ≤ _)⟩)
  dsimp only [Pt.U, Pt.locs, Pt.cells, Pt.slots] at X211 l211 y211 z211 st211 hQ211
  subst l211 y211 z211
  obtain ⟨rfl, N211q, e211⟩ := hQ211
  have N211 := Fr.app N206 N211q
  refine own_by st211 ?_
  show own_Go p e below T211 (mkF m 56 #[.val (.ref this), .val (.ref wn), .val (.ref b198), .val (.int (0 : Int32)), .unset] [(.int (own_f11 x_)), (.int (64 : Int32))]) _
  refine own_s_isub X211.here hx (hb hby own_d8_56) ?_
  refine own_s_istore X211.here hx #[.val (.ref this), .val (.ref wn), .val (.ref b198), .val (.int (0 : Int32)), .val (.int ((64 : Int32) - (own_f11 x_)))] (hb hby own_d8_57) rfl ?_
  refine own_s_aloadN X211.here hx (hb hby own_d8_59) rfl rfl ?_
  refine own_s_iloadN X211.here hx (hb hby own_d8_60) rfl ?_
  refine own_s_bipush X211.here hx (31 : Int32) (hb hby own_d8_61) rfl ?_
  refine own_s_iload X211.here hx (hb hby own_d8_63) rfl ?_
  refine own_s_iconst X211.here hx (1 : Int32) (hb hby own_d8_65) rfl ?_
  refine own_s_iadd X211.here hx (hb hby own_d8_66) ?_
  obtain ⟨_, _, ⟨T212, L212, k212, n212⟩, -, X212, ⟨Lc212, hQ212, l212, y212, z212⟩, st212⟩ := Jvm.LawKit.callS X211 hx (y := (⟨"java/lang/Math", "min", "(II)I"⟩ : MethodName)) hown (mvT hZ (hw _ (List.mem_of_getElem? (i := 59) rfl))) (mvT hZ (hw _ (List.mem_of_getElem? (i := 1) rfl))) (mvT hZ (hw _ (List.mem_of_getElem? (i := 2) rfl))) (mvT hZ (hw _ (List.mem_of_getElem? (i := 3) rfl))) (by decide) (backOf (W := 2) (own_r1 l Z a0 hw [] (31 : Int32) (((64 : Int32) - (own_f11 x_)) + (1 : Int32))  h206 n0 SZ206 ) hZ (hw _ (List.mem_of_getElem? (i := 3) rfl)) (hw _ (List.mem_of_getElem? (i := 2) rfl)) (by decide) (by decide)) (g := (mkF m 67 #[.val (.ref this), .val (.ref wn), .val (.ref b198), .val (.int (0 : Int32)), .val (.int ((64 : Int32) - (own_f11 x_)))] [(.int (((64 : Int32) - (own_f11 x_)) + (1 : Int32))), (.int (31 : Int32)), (.int (0 : Int32)), (.ref b198)])) rfl (by rw [hml]; rfl) (argsL := [(.int (31 : Int32)), (.int (((64 : Int32) - (own_f11 x_)) + (1 : Int32)))]) (rest := [(.int (0 : Int32)), (.ref b198)]) (lenOf own_pd_0 rfl) rfl (by show 2 * 0 + _ ≤ _; exact Nat.le_of_eq rfl) (hb hby own_d8_67) (fun _ _ => ⟨rfl, e211, (by decide : 1 + 0 ≤ _), (by decide : 2 + 0 ≤ _)⟩)
  dsimp only [Pt.U, Pt.locs, Pt.cells, Pt.slots] at X212 l212 y212 z212 st212 hQ212
  subst l212 y212 z212
  obtain ⟨rfl, N212q, e212⟩ := hQ212
  have N212 := Fr.app N211 N212q
  refine own_by st212 ?_
  show own_Go p e below T212 (mkF m 70 #[.val (.ref this), .val (.ref wn), .val (.ref b198), .val (.int (0 : Int32)), .val (.int ((64 : Int32) - (own_f11 x_)))] [(.int (own_f1 (31 : Int32) (((64 : Int32) - (own_f11 x_)) + (1 : Int32)))), (.int (0 : Int32)), (.ref b198)]) _
  obtain ⟨T213, h213, X213, e213, W213, fa213, st213⟩ := own_stI X212 hx hZ e212 fa206 (k := 0) (by decide) (by decide) (g := (mkF m 70 #[.val (.ref this), .val (.ref wn), .val (.ref b198), .val (.int (0 : Int32)), .val (.int ((64 : Int32) - (own_f11 x_)))] [(.int (own_f1 (31 : Int32) (((64 : Int32) - (own_f11 x_)) + (1 : Int32)))), (.int (0 : Int32)), (.ref b198)])) rfl rfl (hb hby own_d8_70)
  have f214 := f207.other W213 (Or.inl ne_this_b198)
  have f215 := f208.other W213 ne_am_b198
  have f216 := f209.other W213 ne_wn_b198
  have N213 := Fr.snoc X213 N212 ge_b198
  have SZ213 : n0 ≤ h213.size := by rw [W213.size]; exact SZ206
  have K213 := K206.wr W213 (Or.inr sz_b198)
  refine own_by st213 ?_
  show own_Go p e below T213 (mkF m 71 #[.val (.ref this), .val (.ref wn), .val (.ref b198), .val (.int (0 : Int32)), .val (.int ((64 : Int32) - (own_f11 x_)))] []) _
  refine own_by (fun tq_ kq_ => XS.iinc X213.here hx rfl (hb hby own_d8_71) rfl (l' := #[.val (.ref this), .val (.ref wn), .val (.ref b198), .val (.int ((0 : Int32) + (1 : Int32))), .val (.int ((64 : Int32) - (own_f11 x_)))]) rfl kq_) ?_
  show own_Go p e below T213 (mkF m 74 #[.val (.ref this), .val (.ref wn), .val (.ref b198), .val (.int ((0 : Int32) + (1 : Int32))), .val (.int ((64 : Int32) - (own_f11 x_)))] []) _
  show own_Go p e below T213 (mkF m 74 #[.val (.ref this), .val (.ref wn), .val (.ref b198), .val (.int (1 : Int32)), .val (.int ((64 : Int32) - (own_f11 x_)))] []) _
  refine own_s_goto X213.here hx 10 (hb hby own_d8_74) (by decide) (by decide) ?_
  refine own_s_iloadN X213.here hx (hb hby own_d8_10) rfl ?_
  refine own_s_aloadN X213.here hx (hb hby own_d8_11) rfl rfl ?_
  obtain ⟨T217, X217, e217, st217⟩ := getF X213 hx hZ hown (host := "") (Or.inl (hw _ (List.mem_of_getElem? (i := 30) rfl))) Via.refl e213 f214 (g := (mkF m 12 #[.val (.ref this), .val (.ref wn), .val (.ref b198), .val (.int (1 : Int32)), .val (.int ((64 : Int32) - (own_f11 x_)))] [(.ref this), (.int (1 : Int32))])) rfl rfl (hb hby own_d8_12)
  refine own_by st217 ?_
  show own_Go p e below T217 (mkF m 15 #[.val (.ref this), .val (.ref wn), .val (.ref b198), .val (.int (1 : Int32)), .val (.int ((64 : Int32) - (own_f11 x_)))] [(.ref am), (.int (1 : Int32))]) _
  refine own_by (fun tq_ kq_ => own_len X217 hx hZ e217 f215 (z := (2 : Int32)) rfl (g := (mkF m 15 #[.val (.ref this), .val (.ref wn), .val (.ref b198), .val (.int (1 : Int32)), .val (.int ((64 : Int32) - (own_f11 x_)))] [(.ref am), (.int (1 : Int32))])) rfl rfl (hb hby own_d8_15) tq_ kq_) ?_
  show own_Go p e below T217 (mkF m 16 #[.val (.ref this), .val (.ref wn), .val (.ref b198), .val (.int (1 : Int32)), .val (.int ((64 : Int32) - (own_f11 x_)))] [(.int (2 : Int32)), (.int (1 : Int32))]) _
  refine own_s_icmpNo X217.here hx (hb hby own_d8_16) (Jvm.Free.XT.ii_ge_f ((by decide))) ?_
  refine own_s_aloadN X217.here hx (hb hby own_d8_19) rfl rfl ?_
  refine own_s_iloadN X217.here hx (hb hby own_d8_20) rfl ?_
  refine own_s_bipush X217.here hx (32 : Int32) (hb hby own_d8_21) rfl ?_
  refine own_s_aloadN X217.here hx (hb hby own_d8_23) rfl rfl ?_
  obtain ⟨T218, X218, e218, st218⟩ := getF X217 hx hZ hown (host := "") (Or.inl (hw _ (List.mem_of_getElem? (i := 30) rfl))) Via.refl e217 f214 (g := (mkF m 24 #[.val (.ref this), .val (.ref wn), .val (.ref b198), .val (.int (1 : Int32)), .val (.int ((64 : Int32) - (own_f11 x_)))] [(.ref this), (.int (32 : Int32)), (.int (1 : Int32)), (.ref b198)])) rfl rfl (hb hby own_d8_24)
  refine own_by st218 ?_
  show own_Go p e below T218 (mkF m 27 #[.val (.ref this), .val (.ref wn), .val (.ref b198), .val (.int (1 : Int32)), .val (.int ((64 : Int32) - (own_f11 x_)))] [(.ref am), (.int (32 : Int32)), (.int (1 : Int32)), (.ref b198)]) _
  refine own_s_iloadN X218.here hx (hb hby own_d8_27) rfl ?_
  refine own_by (fun tq_ kq_ => own_ldI X218 hx hZ e218 f215 (k := 1) (v := (.int (1 : Int32))) (by decide) (by decide) rfl (g := (mkF m 28 #[.val (.ref this), .val (.ref wn), .val (.ref b198), .val (.int (1 : Int32)), .val (.int ((64 : Int32) - (own_f11 x_)))] [(.int (1 : Int32)), (.ref am), (.int (32 : Int32)), (.int (1 : Int32)), (.ref b198)])) rfl rfl (hb hby own_d8_28) tq_ kq_) ?_
  show own_Go p e below T218 (mkF m 29 #[.val (.ref this), .val (.ref wn), .val (.ref b198), .val (.int (1 : Int32)), .val (.int ((64 : Int32) - (own_f11 x_)))] [(.int (1 : Int32)), (.int (32 : Int32)), (.int (1 : Int32)), (.ref b198)]) _
  obtain ⟨_, _, ⟨T219, L219, k219, n219⟩, -, X219, ⟨Lc219, hQ219, l219, y219, z219⟩, st219⟩ := Jvm.LawKit.callS X218 hx (y := (⟨"java/lang/Integer", "numberOfLeadingZeros", "(I)I"⟩ : MethodName)) hown (mvT hZ (hw _ (List.mem_of_getElem? (i := 49) rfl))) (mvT hZ (hw _ (List.mem_of_getElem? (i := 50) rfl))) (mvT hZ (hw _ (List.mem_of_getElem? (i := 51) rfl))) (mvT hZ (hw _ (List.mem_of_getElem? (i := 52) rfl))) (by decide) (backOf (W := 3) (own_r10 l Z a0 hw [] (1 : Int32)  h213 n0 SZ213 ) hZ (hw _ (List.mem_of_getElem? (i := 52) rfl)) (hw _ (List.mem_of_getElem? (i := 51) rfl)) (by decide) (by decide)) (g := (mkF m 29 #[.val (.ref this), .val (.ref wn), .val (.ref b198), .val (.int (1 : Int32)), .val (.int ((64 : Int32) - (own_f11 x_)))] [(.int (1 : Int32)), (.int (32 : Int32)), (.int (1 : Int32)), (.ref b198)])) rfl (by rw [hml]; rfl) (argsL := [(.int (1 : Int32))]) (rest := [(.int (32 : Int32)), (.int (1 : Int32)), (.ref b198)]) (lenOf own_pd_9 rfl) rfl (by show 2 * 0 + _ ≤ _; exact Nat.le_of_eq rfl) (hb hby own_d8_29) (fun _ _ => ⟨rfl, e218, (by decide : 1 + 0 ≤ _), (by decide : 2 + 0 ≤ _)⟩)
  dsimp only [Pt.U, Pt.locs, Pt.cells, Pt.slots] at X219 l219 y219 z219 st219 hQ219
  subst l219 y219 z219
  obtain ⟨rfl, N219q, e219⟩ := hQ219
  have N219 := Fr.app N213 N219q
  refine own_by st219 ?_
  show own_Go p e below T219 (mkF m 32 #[.val (.ref this), .val (.ref wn), .val (.ref b198), .val (.int (1 : Int32)), .val (.int ((64 : Int32) - (own_f11 x_)))] [(.int (own_f10 (1 : Int32))), (.int (32 : Int32)), (.int (1 : Int32)), (.ref b198)]) _
  refine own_s_isub X219.here hx (hb hby own_d8_32) ?_
  rw [own_n1]
  show own_Go p e below T219 (mkF m 33 #[.val (.ref this), .val (.ref wn), .val (.ref b198), .val (.int (1 : Int32)), .val (.int ((64 : Int32) - (own_f11 x_)))] [(.int (1 : Int32)), (.int (1 : Int32)), (.ref b198)]) _
  obtain ⟨T220, h220, X220, e220, W220, fa220, st220⟩ := own_stI X219 hx hZ e219 fa213 (k := 1) (by decide) (by decide) (g := (mkF m 33 #[.val (.ref this), .val (.ref wn), .val (.ref b198), .val (.int (1 : Int32)), .val (.int ((64 : Int32) - (own_f11 x_)))] [(.int (1 : Int32)), (.int (1 : Int32)), (.ref b198)])) rfl rfl (hb hby own_d8_33)
  have f221 := f214.other W220 (Or.inl ne_this_b198)
  have f222 := f215.other W220 ne_am_b198
  have f223 := f216.other W220 ne_wn_b198
  have N220 := Fr.snoc X220 N219 ge_b198
  have SZ220 : n0 ≤ h220.size := by rw [W220.size]; exact SZ213
  have K220 := K213.wr W220 (Or.inr sz_b198)
  refine own_by st220 ?_
  show own_Go p e below T220 (mkF m 34 #[.val (.ref this), .val (.ref wn), .val (.ref b198), .val (.int (1 : Int32)), .val (.int ((64 : Int32) - (own_f11 x_)))] []) _
  refine own_s_aloadN X220.here hx (hb hby own_d8_34) rfl rfl ?_
  refine own_s_iloadN X220.here hx (hb hby own_d8_35) rfl ?_
  refine own_by (fun tq_ kq_ => own_ldJ X220 hx hZ e220 f223 (k := 1) (v := (.long (0 : Int64))) (by decide) (by decide) rfl (g := (mkF m 36 #[.val (.ref this), .val (.ref wn), .val (.ref b198), .val (.int (1 : Int32)), .val (.int ((64 : Int32) - (own_f11 x_)))] [(.int (1 : Int32)), (.ref wn)])) rfl rfl (hb hby own_d8_36) tq_ kq_) ?_
  show own_Go p e below T220 (mkF m 37 #[.val (.ref this), .val (.ref wn), .val (.ref b198), .val (.int (1 : Int32)), .val (.int ((64 : Int32) - (own_f11 x_)))] [(.long (0 : Int64))]) _
  refine own_s_aloadN X220.here hx (hb hby own_d8_37) rfl rfl ?_
  obtain ⟨T224, X224, e224, st224⟩ := getF X220 hx hZ hown (host := "") (Or.inl (hw _ (List.mem_of_getElem? (i := 30) rfl))) Via.refl e220 f221 (g := (mkF m 38 #[.val (.ref this), .val (.ref wn), .val (.ref b198), .val (.int (1 : Int32)), .val (.int ((64 : Int32) - (own_f11 x_)))] [(.ref this), (.long (0 : Int64))])) rfl rfl (hb hby own_d8_38)
  refine own_by st224 ?_
  show own_Go p e below T224 (mkF m 41 #[.val (.ref this), .val (.ref wn), .val (.ref b198), .val (.int (1 : Int32)), .val (.int ((64 : Int32) - (own_f11 x_)))] [(.ref am), (.long (0 : Int64))]) _
  refine own_s_iloadN X224.here hx (hb hby own_d8_41) rfl ?_
  refine own_by (fun tq_ kq_ => own_ldI X224 hx hZ e224 f222 (k := 1) (v := (.int (1 : Int32))) (by decide) (by decide) rfl (g := (mkF m 42 #[.val (.ref this), .val (.ref wn), .val (.ref b198), .val (.int (1 : Int32)), .val (.int ((64 : Int32) - (own_f11 x_)))] [(.int (1 : Int32)), (.ref am), (.long (0 : Int64))])) rfl rfl (hb hby own_d8_42) tq_ kq_) ?_
  show own_Go p e below T224 (mkF m 43 #[.val (.ref this), .val (.ref wn), .val (.ref b198), .val (.int (1 : Int32)), .val (.int ((64 : Int32) - (own_f11 x_)))] [(.int (1 : Int32)), (.long (0 : Int64))]) _
  refine own_s_i2l X224.here hx (hb hby own_d8_43) ?_
  refine own_s_lcmp X224.here hx (hb hby own_d8_44) ?_
  show own_Go p e below T224 (mkF m 45 #[.val (.ref this), .val (.ref wn), .val (.ref b198), .val (.int (1 : Int32)), .val (.int ((64 : Int32) - (own_f11 x_)))] [(.int (Jvm.Free.XT.cmpL (0 : Int64) ((1 : Int32).toInt64)))]) _
  refine own_s_ifYes X224.here hx 71 (hb hby own_d8_45) (Jvm.Free.XT.ll_le_t ((by decide))) (by decide) (by decide) ?_
  refine own_by (fun tq_ kq_ => XS.iinc X224.here hx rfl (hb hby own_d8_71) rfl (l' := #[.val (.ref this), .val (.ref wn), .val (.ref b198), .val (.int ((1 : Int32) + (1 : Int32))), .val (.int ((64 : Int32) - (own_f11 x_)))]) rfl kq_) ?_
  show own_Go p e below T224 (mkF m 74 #[.val (.ref this), .val (.ref wn), .val (.ref b198), .val (.int ((1 : Int32) + (1 : Int32))), .val (.int ((64 : Int32) - (own_f11 x_)))] []) _
  show own_Go p e below T224 (mkF m 74 #[.val (.ref this), .val (.ref wn), .val (.ref b198), .val (.int (2 : Int32)), .val (.int ((64 : Int32) - (own_f11 x_)))] []) _
  refine own_s_goto X224.here hx 10 (hb hby own_d8_74) (by decide) (by decide) ?_
  refine own_s_iloadN X224.here hx (hb hby own_d8_10) rfl ?_
  refine own_s_aloadN X224.here hx (hb hby own_d8_11) rfl rfl ?_
  obtain ⟨T225, X225, e225, st225⟩ := getF X224 hx hZ hown (host := "") (Or.inl (hw _ (List.mem_of_getElem? (i := 30) rfl))) Via.refl e224 f221 (g := (mkF m 12 #[.val (.ref this), .val (.ref wn), .val (.ref b198), .val (.int (2 : Int32)), .val (.int ((64 : Int32) - (own_f11 x_)))] [(.ref this), (.int (2 : Int32))])) rfl rfl (hb hby own_d8_12)
  refine own_by st225 ?_
  show own_Go p e below T225 (mkF m 15 #[.val (.ref this), .val (.ref wn), .val (.ref b198), .val (.int (2 : Int32)), .val (.int ((64 : Int32) - (own_f11 x_)))] [(.ref am), (.int (2 : Int32))]) _
  refine own_by (fun tq_ kq_ => own_len X225 hx hZ e225 f222 (z := (2 : Int32)) rfl (g := (mkF m 15 #[.val (.ref this), .val (.ref wn), .val (.ref b198), .val (.int (2 : Int32)), .val (.int ((64 : Int32) - (own_f11 x_)))] [(.ref am), (.int (2 : Int32))])) rfl rfl (hb hby own_d8_15) tq_ kq_) ?_
  show own_Go p e below T225 (mkF m 16 #[.val (.ref this), .val (.ref wn), .val (.ref b198), .val (.int (2 : Int32)), .val (.int ((64 : Int32) - (own_f11 x_)))] [(.int (2 : Int32)), (.int (2 : Int32))]) _
  refine own_s_icmpYes X225.here hx 77 (hb hby own_d8_16) (Jvm.Free.XT.ii_ge_t ((by decide))) (by decide) (by decide) ?_
  obtain ⟨T226, h226, X226, e226, E226, A226, D226, -, st226⟩ := newO X225 hx hZ hown (hw _ (List.mem_of_getElem? (i := 43) rfl)) (hw _ (List.mem_of_getElem? (i := 11) rfl)) (hw _ (List.mem_of_getElem? (i := 12) rfl)) e225 (g := (mkF m 77 #[.val (.ref this), .val (.ref wn), .val (.ref b198), .val (.int (2 : Int32)), .val (.int ((64 : Int32) - (own_f11 x_)))] [])) rfl (hb hby own_d8_77) (by decide) (by decide)
  obtain ⟨b226, g226⟩ : ∃ z, z = h220.size := ⟨_, rfl⟩
  rw [← g226] at A226 D226 st226
  have ge_b226 : n0 ≤ b226 := Nat.le_trans SZ220 (Nat.le_of_eq g226.symm)
  have sz_b226 : h0.size ≤ b226 := Nat.le_trans K220.1 (Nat.le_of_eq g226.symm)
  have ne_this_b226 : this ≠ b226 := Nat.ne_of_lt (Nat.lt_of_lt_of_le f221.lt (Nat.le_of_eq g226.symm))
  have ne_am_b226 : am ≠ b226 := Nat.ne_of_lt (Nat.lt_of_lt_of_le f222.lt (Nat.le_of_eq g226.symm))
  have ne_wn_b226 : wn ≠ b226 := Nat.ne_of_lt (Nat.lt_of_lt_of_le f223.lt (Nat.le_of_eq g226.symm))
  have ne_b198_b226 : b198 ≠ b226 := Nat.ne_of_lt (Nat.lt_of_lt_of_le fa220.lt (Nat.le_of_eq g226.symm))
  have f227 := f221.ext E226
  have f228 := f222.ext E226
  have f229 := f223.ext E226
  have f230 := fa220.ext E226
  have SZ226 : n0 ≤ h226.size := Nat.le_trans SZ220 E226.1
  have K226 := K220.ext E226
  have f231 : Fld Z h226 b226 "com/example/lapse/lapse/MarkingCode" "most" "[I" .null := D226 (Or.inr (hw _ (List.mem_of_getElem? (i := 31) rfl))) (ty := (.array .int)) (by decide)
  have f232 : Fld Z h226 b226 "com/example/lapse/lapse/MarkingCode" "words" "[I" .null := D226 (Or.inr (hw _ (List.mem_of_getElem? (i := 33) rfl))) (ty := (.array .int)) (by decide)
  have f233 : Fld Z h226 b226 "com/example/lapse/lapse/MarkingCode" "shifts" "[I" .null := D226 (Or.inr (hw _ (List.mem_of_getElem? (i := 35) rfl))) (ty := (.array .int)) (by decide)
  have f234 : Fld Z h226 b226 "com/example/lapse/lapse/MarkingCode" "length" "I" (.int (0 : Int32)) := D226 (Or.inr (hw _ (List.mem_of_getElem? (i := 37) rfl))) (ty := .int) (by decide)
  refine own_by st226 ?_
  show own_Go p e below T226 (mkF m 80 #[.val (.ref this), .val (.ref wn), .val (.ref b198), .val (.int (2 : Int32)), .val (.int ((64 : Int32) - (own_f11 x_)))] [(.ref b226)]) _
  refine own_s_dup X226.here hx (hb hby own_d8_80) rfl ?_
  refine own_s_aloadN X226.here hx (hb hby own_d8_81) rfl rfl ?_
  have f235 : own_Av Z h226 b198 .int 2 (fun j => .int (own_wdf (own_f1 (31 : Int32) (((64 : Int32) - (own_f11 x_)) + (1 : Int32))) j)) := f230.cong rfl (fun j hj => by
    match j, hj with
    | 0, _ => rfl
    | 1, _ => rfl)
  obtain ⟨_, _, ⟨T236, L236, k236, n236⟩, -, X236, ⟨Lc236, hQ236, l236, y236, z236⟩, st236⟩ := X226.specialBack hx (y := (⟨"com/example/lapse/lapse/MarkingCode", "<init>", "([I)V"⟩ : MethodName)) rfl hown (mvT hZ (hw _ (List.mem_of_getElem? (i := 24) rfl))) (mvT hZ (hw _ (List.mem_of_getElem? (i := 25) rfl))) (mvT hZ (hw _ (List.mem_of_getElem? (i := 26) rfl))) (by decide) (backOf (W := 1) (own_r6 l Z a0 hw [] b226 b198 2 (own_wdf (own_f1 (31 : Int32) (((64 : Int32) - (own_f11 x_)) + (1 : Int32)))) h226 n0 SZ226 (by decide) A226 f231 f232 f233 f234 ge_b226 f235 ne_b198_b226) hZ (hw _ (List.mem_of_getElem? (i := 26) rfl)) (hw _ (List.mem_of_getElem? (i := 12) rfl)) (by decide) (by decide)) (g := (mkF m 82 #[.val (.ref this), .val (.ref wn), .val (.ref b198), .val (.int (2 : Int32)), .val (.int ((64 : Int32) - (own_f11 x_)))] [(.ref b198), (.ref b226), (.ref b226)])) rfl (by rw [hml]; rfl) (Steps.refl _) (a := b226) (argsL := [(.ref b198)]) (rest := [(.ref b226)]) (lenOf own_pd_5 rfl) rfl (by show 2 * 0 + _ ≤ _; exact Nat.le_of_eq rfl) (hb hby own_d8_82) (fun _ _ => ⟨rfl, e226, (by decide : 2 + 3 ≤ _), (by decide : 6 + 9 ≤ _)⟩)
  dsimp only [Pt.U, Pt.locs, Pt.cells, Pt.slots] at X236 l236 y236 z236 st236 hQ236
  subst l236 y236 z236
  obtain ⟨rfl, N236q, K236, am236, aw236, as236, gm236, gw236, gs236, zm236, zw236, zs236, nmw236, nms236, nws236, fm236, Am236, fw236, Aw236, fs236, As236, fl236⟩ := hQ236
  have N236 := Fr.app N220 N236q
  have f237 := f227.keep K236 (ninS ne_this_b226 nin0)
  have f238 := f228.keep K236 (ninS ne_am_b226 nin0)
  have f239 := f229.keep K236 (ninS ne_wn_b226 nin0)
  have f240 := f235.keep K236 (ninS ne_b198_b226 nin0)
  have f241 := A226.keep K236
  have SZ236 : n0 ≤ T236.heap.size := Nat.le_trans SZ226 K236.1
  have KC236 := K226.trans K236 (allS (Or.inr sz_b226) all0)
  refine own_by (fun t k => st236.trans k) ?_
  have sz_am236 : h0.size ≤ am236 := Nat.le_trans K226.1 zm236
  have ne_this_am236 : this ≠ am236 := Nat.ne_of_lt (Nat.lt_of_lt_of_le f227.lt zm236)
  have ne_am_am236 : am ≠ am236 := Nat.ne_of_lt (Nat.lt_of_lt_of_le f228.lt zm236)
  have ne_wn_am236 : wn ≠ am236 := Nat.ne_of_lt (Nat.lt_of_lt_of_le f229.lt zm236)
  have ne_b198_am236 : b198 ≠ am236 := Nat.ne_of_lt (Nat.lt_of_lt_of_le f235.lt zm236)
  have ne_b226_am236 : b226 ≠ am236 := Nat.ne_of_lt (Nat.lt_of_lt_of_le A226.lt zm236)
  have sz_aw236 : h0.size ≤ aw236 := Nat.le_trans K226.1 zw236
  have ne_this_aw236 : this ≠ aw236 := Nat.ne_of_lt (Nat.lt_of_lt_of_le f227.lt zw236)
  have ne_am_aw236 : am ≠ aw236 := Nat.ne_of_lt (Nat.lt_of_lt_of_le f228.lt zw236)
  have ne_wn_aw236 : wn ≠ aw236 := Nat.ne_of_lt (Nat.lt_of_lt_of_le f229.lt zw236)
  have ne_b198_aw236 : b198 ≠ aw236 := Nat.ne_of_lt (Nat.lt_of_lt_of_le f235.lt zw236)
  have ne_b226_aw236 : b226 ≠ aw236 := Nat.ne_of_lt (Nat.lt_of_lt_of_le A226.lt zw236)
  have sz_as236 : h0.size ≤ as236 := Nat.le_trans K226.1 zs236
  have ne_this_as236 : this ≠ as236 := Nat.ne_of_lt (Nat.lt_of_lt_of_le f227.lt zs236)
  have ne_am_as236 : am ≠ as236 := Nat.ne_of_lt (Nat.lt_of_lt_of_le f228.lt zs236)
  have ne_wn_as236 : wn ≠ as236 := Nat.ne_of_lt (Nat.lt_of_lt_of_le f229.lt zs236)
  have ne_b198_as236 : b198 ≠ as236 := Nat.ne_of_lt (Nat.lt_of_lt_of_le f235.lt zs236)
  have ne_b226_as236 : b226 ≠ as236 := Nat.ne_of_lt (Nat.lt_of_lt_of_le A226.lt zs236)
  show own_Go p e below T236 (mkF m 85 #[.val (.ref this), .val (.ref wn), .val (.ref b198), .val (.int (2 : Int32)), .val (.int ((64 : Int32) - (own_f11 x_)))] [(.ref b226)]) _
  refine own_retA X236 hx hret hlk (hb hby own_d8_85) rfl rfl rfl (by decide) (by decide) ?_
  exact ⟨b226, rfl, N236, ge_b226, KC236, f241, am236, fm236, Am236⟩
def own_q_own_wf3 (Z : State) (this : Addr) (wn : Addr) (am : Addr) (x_ : Int64) (h0 : Heap) (n0 : Nat) (v : Option Value) (h : Heap) (L : List Loc) : Prop := ∃ b : Addr, v = some (.ref b) ∧ Fr n0 L ∧ n0 ≤ b ∧ Keep h0 h [] ∧ Exa Z h b "com/example/lapse/lapse/MarkingCode" ∧ ∃ a : Addr, Fld Z h b "com/example/lapse/lapse/MarkingCode" "most" "[I" (.ref a) ∧ own_Av Z h a .int 3 (fun j => .int (own_mo (own_wdf (own_f1 (31 : Int32) (((64 : Int32) - (own_f11 x_)) + (1 : Int32))) j)))
set_option maxRecDepth 65536 in
set_option maxHeartbeats 40000000 in
theorem own_wf3 (l : Launch) (Z : State) (a0 : Array Value) (hw : ∀ d ∈ tables_1, d.before a0 Z = true) (ws : List Jvm.Cond) (this : Addr) (wn : Addr) (am : Addr) (x_ : Int64) (h0 : Heap) (n0 : Nat) (Z0 : n0 ≤ h0.size) (hx1 : ((1 : Int32).toInt64) < x_) (F_this_most : Fld Z h0 this "com/example/lapse/lapse/MarkingCode" "most" "[I" (.ref am)) (A_am : own_Av Z h0 am .int 3 (fun _ => .int (1 : Int32))) (A_wn : own_Av Z h0 wn .long 3 (own_upd (fun _ => (.long (0 : Int64))) 0 (.long x_))) :
    MetFree l (⟨"com/example/lapse/lapse/MarkingCode", "widenedFor", "([J)Lcom/example/lapse/lapse/MarkingCode;"⟩ : MethodName) (head1 (Jvm.Cond.code (⟨"com/example/lapse/lapse/MarkingCode", "widenedFor", "([J)Lcom/example/lapse/lapse/MarkingCode;"⟩ : MethodName) prog_21_method_5_code 5 (some (.object "com/example/lapse/lapse/MarkingCode")) :: ws) ({ frames := 2, cells := 5, slots := 16, locals := 30 } : Room)) (fun aq Uq => aq = #[(.ref this), (.ref wn)] ∧ Z.Warmed39 Uq.vm ∧ Uq.heap = h0) (fun _ _ _ _ _ => True) (fun _ Uq oq Uq' => ∃ vq Lq, oq = .returned vq ∧ own_q_own_wf3 Z this wn am x_ h0 n0 vq Uq'.heap Lq ∧ FrameEnd Uq oq Uq' Lq ({ frames := 2, cells := 5, slots := 16, locals := 30 } : Room).cells ({ frames := 2, cells := 5, slots := 16, locals := 30 } : Room).slots) := by
  refine MetFree.of_bodySF (plainFor_of_name own_pn_MarkingCode) hisR ?_
  intro p e s m args below meth c T0 Bd hml0 hP hK
  obtain ⟨rfl, hZ, hh⟩ := hP
  have hx := Bd.exec
  have hby := Bd.bytes
  have hml : c.maxLocals = 5 := hml0
  have hown : s.vm.findClass "com/example/lapse/lapse/MarkingCode" = some m.cls := findClass_of_methodNamed Bd.named
  have hnm := (name_of_methodNamed Bd.named Bd.method).1
  have hret : meth.sig.returnType = (some (.object "com/example/lapse/lapse/MarkingCode")) := Bd.returns
  have hlk : meth.locks = false := BodyLoose.notSynchronized Bd
  have X0 : Stand p l e ({ frames := 2, cells := 5, slots := 16, locals := 30 } : Room) s m #[(.ref this), (.ref wn)] below meth c T0 [] 0 0 := Stand.of_body Bd
  have e0 : T0.heap = h0 := by rw [← hh, Bd.state]; rfl
  have N0 := Fr.nil n0
  refine own_start (own_ef8 m this wn) (Q := fun (v : Option Value) (h : Heap) (L : List Loc) => ∃ b : Addr, v = some (.ref b) ∧ Fr n0 L ∧ n0 ≤ b ∧ Keep h0 h [] ∧ Exa Z h b "com/example/lapse/lapse/MarkingCode" ∧ ∃ a : Addr, Fld Z h b "com/example/lapse/lapse/MarkingCode" "most" "[I" (.ref a) ∧ own_Av Z h a .int 3 (fun j => .int (own_mo (own_wdf (own_f1 (31 : Int32) (((64 : Int32) - (own_f11 x_)) + (1 : Int32))) j)))) (k := 5) (j := 16) ?_
  show own_Go p e below T0 (mkF m 0 #[.val (.ref this), .val (.ref wn), .unset, .unset, .unset] []) _
  have K0 := Keep.refl h0 []
  refine own_s_aloadN X0.here hx (hb hby own_d8_0) rfl rfl ?_
  obtain ⟨T242, X242, e242, st242⟩ := getF X0 hx hZ hown (host := "") (Or.inl (hw _ (List.mem_of_getElem? (i := 30) rfl))) Via.refl e0 F_this_most (g := (mkF m 1 #[.val (.ref this), .val (.ref wn), .unset, .unset, .unset] [(.ref this)])) rfl rfl (hb hby own_d8_1)
  refine own_by st242 ?_
  show own_Go p e below T242 (mkF m 4 #[.val (.ref this), .val (.ref wn), .unset, .unset, .unset] [(.ref am)]) _
  refine own_by (fun tq_ kq_ => own_len X242 hx hZ e242 A_am (z := (3 : Int32)) rfl (g := (mkF m 4 #[.val (.ref this), .val (.ref wn), .unset, .unset, .unset] [(.ref am)])) rfl rfl (hb hby own_d8_4) tq_ kq_) ?_
  show own_Go p e below T242 (mkF m 5 #[.val (.ref this), .val (.ref wn), .unset, .unset, .unset] [(.int (3 : Int32))]) _
  obtain ⟨T243, h243, k243, X243, e243, E243, A243, st243⟩ := newP X242 hx hZ (hw _ (List.mem_of_getElem? (i := 19) rfl)) e242 (g := (mkF m 5 #[.val (.ref this), .val (.ref wn), .unset, .unset, .unset] [(.int (3 : Int32))])) rfl (hb hby own_d8_5) rfl (by decide) (cap := 3) (by decide) (by decide) (by decide) (by decide)
  obtain ⟨b243, g243⟩ : ∃ z, z = h0.size := ⟨_, rfl⟩
  rw [← g243] at A243 st243
  have ge_b243 : n0 ≤ b243 := Nat.le_trans Z0 (Nat.le_of_eq g243.symm)
  have sz_b243 : h0.size ≤ b243 := Nat.le_trans K0.1 (Nat.le_of_eq g243.symm)
  have ne_this_b243 : this ≠ b243 := Nat.ne_of_lt (Nat.lt_of_lt_of_le F_this_most.lt (Nat.le_of_eq g243.symm))
  have ne_am_b243 : am ≠ b243 := Nat.ne_of_lt (Nat.lt_of_lt_of_le A_am.lt (Nat.le_of_eq g243.symm))
  have ne_wn_b243 : wn ≠ b243 := Nat.ne_of_lt (Nat.lt_of_lt_of_le A_wn.lt (Nat.le_of_eq g243.symm))
  have f244 := F_this_most.ext E243
  have f245 := A_am.ext E243
  have f246 := A_wn.ext E243
  have SZ243 : n0 ≤ h243.size := Nat.le_trans Z0 E243.1
  have K243 := K0.ext E243
  have f247 : own_Av Z h243 b243 .int 3 (fun _ => (.int (0 : Int32))) := own_Av.ofnew A243 (by decide) rfl
  refine own_by st243 ?_
  show own_Go p e below T243 (mkF m 7 #[.val (.ref this), .val (.ref wn), .unset, .unset, .unset] [(.ref b243)]) _
  refine own_s_astoreN X243.here hx #[.val (.ref this), .val (.ref wn), .val (.ref b243), .unset, .unset] (hb hby own_d8_7) rfl rfl ?_
  refine own_s_iconst X243.here hx (0 : Int32) (hb hby own_d8_8) rfl ?_
  refine own_s_istoreN X243.here hx #[.val (.ref this), .val (.ref wn), .val (.ref b243), .val (.int (0 : Int32)), .unset] (hb hby own_d8_9) rfl ?_
  refine own_s_iloadN X243.here hx (hb hby own_d8_10) rfl ?_
  refine own_s_aloadN X243.here hx (hb hby own_d8_11) rfl rfl ?_
  obtain ⟨T248, X248, e248, st248⟩ := getF X243 hx hZ hown (host := "") (Or.inl (hw _ (List.mem_of_getElem? (i := 30) rfl))) Via.refl e243 f244 (g := (mkF m 12 #[.val (.ref this), .val (.ref wn), .val (.ref b243), .val (.int (0 : Int32)), .unset] [(.ref this), (.int (0 : Int32))])) rfl rfl (hb hby own_d8_12)
  refine own_by st248 ?_
  show own_Go p e below T248 (mkF m 15 #[.val (.ref this), .val (.ref wn), .val (.ref b243), .val (.int (0 : Int32)), .unset] [(.ref am), (.int (0 : Int32))]) _
  refine own_by (fun tq_ kq_ => own_len X248 hx hZ e248 f245 (z := (3 : Int32)) rfl (g := (mkF m 15 #[.val (.ref this), .val (.ref wn), .val (.ref b243), .val (.int (0 : Int32)), .unset] [(.ref am), (.int (0 : Int32))])) rfl rfl (hb hby own_d8_15) tq_ kq_) ?_
  show own_Go p e below T248 (mkF m 16 #[.val (.ref this), .val (.ref wn), .val (.ref b243), .val (.int (0 : Int32)), .unset] [(.int (3 : Int32)), (.int (0 : Int32))]) _
  refine own_s_icmpNo X248.here hx (hb hby own_d8_16) (Jvm.Free.XT.ii_ge_f ((by decide))) ?_
  refine own_s_aloadN X248.here hx (hb hby own_d8_19) rfl rfl ?_
  refine own_s_iloadN X248.here hx (hb hby own_d8_20) rfl ?_
  refine own_s_bipush X248.here hx (32 : Int32) (hb hby own_d8_21) rfl ?_
  refine own_s_aloadN X248.here hx (hb hby own_d8_23) rfl rfl ?_
  obtain ⟨T249, X249, e249, st249⟩ := getF X248 hx hZ hown (host := "") (Or.inl (hw _ (List.mem_of_getElem? (i := 30) rfl))) Via.refl e248 f244 (g := (mkF m 24 #[.val (.ref this), .val (.ref wn), .val (.ref b243), .val (.int (0 : Int32)), .unset] [(.ref this), (.int (32 : Int32)), (.int (0 : Int32)), (.ref b243)])) rfl rfl (hb hby own_d8_24)
  refine own_by st249 ?_
  show own_Go p e below T249 (mkF m 27 #[.val (.ref this), .val (.ref wn), .val (.ref b243), .val (.int (0 : Int32)), .unset] [(.ref am), (.int (32 : Int32)), (.int (0 : Int32)), (.ref b243)]) _
  refine own_s_iloadN X249.here hx (hb hby own_d8_27) rfl ?_
  refine own_by (fun tq_ kq_ => own_ldI X249 hx hZ e249 f245 (k := 0) (v := (.int (1 : Int32))) (by decide) (by decide) rfl (g := (mkF m 28 #[.val (.ref this), .val (.ref wn), .val (.ref b243), .val (.int (0 : Int32)), .unset] [(.int (0 : Int32)), (.ref am), (.int (32 : Int32)), (.int (0 : Int32)), (.ref b243)])) rfl rfl (hb hby own_d8_28) tq_ kq_) ?_
  show own_Go p e below T249 (mkF m 29 #[.val (.ref this), .val (.ref wn), .val (.ref b243), .val (.int (0 : Int32)), .unset] [(.int (1 : Int32)), (.int (32 : Int32)), (.int (0 : Int32)), (.ref b243)]) _
  obtain ⟨_, _, ⟨T250, L250, k250, n250⟩, -, X250, ⟨Lc250, hQ250, l250, y250, z250⟩, st250⟩ := Jvm.LawKit.callS X249 hx (y := (⟨"java/lang/Integer", "numberOfLeadingZeros", "(I)I"⟩ : MethodName)) hown (mvT hZ (hw _ (List.mem_of_getElem? (i := 49) rfl))) (mvT hZ (hw _ (List.mem_of_getElem? (i := 50) rfl))) (mvT hZ (hw _ (List.mem_of_getElem? (i := 51) rfl))) (mvT hZ (hw _ (List.mem_of_getElem? (i := 52) rfl))) (by decide) (backOf (W := 3) (own_r10 l Z a0 hw [] (1 : Int32)  h243 n0 SZ243 ) hZ (hw _ (List.mem_of_getElem? (i := 52) rfl)) (hw _ (List.mem_of_getElem? (i := 51) rfl)) (by decide) (by decide)) (g := (mkF m 29 #[.val (.ref this), .val (.ref wn), .val (.ref b243), .val (.int (0 : Int32)), .unset] [(.int (1 : Int32)), (.int (32 : Int32)), (.int (0 : Int32)), (.ref b243)])) rfl (by rw [hml]; rfl) (argsL := [(.int (1 : Int32))]) (rest := [(.int (32 : Int32)), (.int (0 : Int32)), (.ref b243)]) (lenOf own_pd_9 rfl) rfl (by show 2 * 0 + _ ≤ _; exact Nat.le_of_eq rfl) (hb hby own_d8_29) (fun _ _ => ⟨rfl, e249, (by decide : 1 + 0 ≤ _), (by decide : 3 + 0 ≤ _)⟩)
  dsimp only [Pt.U, Pt.locs, Pt.cells, Pt.slots] at X250 l250 y250 z250 st250 hQ250
  subst l250 y250 z250
  obtain ⟨rfl, N250q, e250⟩ := hQ250
  have N250 := Fr.app N0 N250q
  refine own_by st250 ?_
  show own_Go p e below T250 (mkF m 32 #[.val (.ref this), .val (.ref wn), .val (.ref b243), .val (.int (0 : Int32)), .unset] [(.int (own_f10 (1 : Int32))), (.int (32 : Int32)), (.int (0 : Int32)), (.ref b243)]) _
  refine own_s_isub X250.here hx (hb hby own_d8_32) ?_
  rw [own_n1]
  show own_Go p e below T250 (mkF m 33 #[.val (.ref this), .val (.ref wn), .val (.ref b243), .val (.int (0 : Int32)), .unset] [(.int (1 : Int32)), (.int (0 : Int32)), (.ref b243)]) _
  obtain ⟨T251, h251, X251, e251, W251, fa251, st251⟩ := own_stI X250 hx hZ e250 f247 (k := 0) (by decide) (by decide) (g := (mkF m 33 #[.val (.ref this), .val (.ref wn), .val (.ref b243), .val (.int (0 : Int32)), .unset] [(.int (1 : Int32)), (.int (0 : Int32)), (.ref b243)])) rfl rfl (hb hby own_d8_33)
  have f252 := f244.other W251 (Or.inl ne_this_b243)
  have f253 := f245.other W251 ne_am_b243
  have f254 := f246.other W251 ne_wn_b243
  have N251 := Fr.snoc X251 N250 ge_b243
  have SZ251 : n0 ≤ h251.size := by rw [W251.size]; exact SZ243
  have K251 := K243.wr W251 (Or.inr sz_b243)
  refine own_by st251 ?_
  show own_Go p e below T251 (mkF m 34 #[.val (.ref this), .val (.ref wn), .val (.ref b243), .val (.int (0 : Int32)), .unset] []) _
  refine own_s_aloadN X251.here hx (hb hby own_d8_34) rfl rfl ?_
  refine own_s_iloadN X251.here hx (hb hby own_d8_35) rfl ?_
  refine own_by (fun tq_ kq_ => own_ldJ X251 hx hZ e251 f254 (k := 0) (v := (.long x_)) (by decide) (by decide) rfl (g := (mkF m 36 #[.val (.ref this), .val (.ref wn), .val (.ref b243), .val (.int (0 : Int32)), .unset] [(.int (0 : Int32)), (.ref wn)])) rfl rfl (hb hby own_d8_36) tq_ kq_) ?_
  show own_Go p e below T251 (mkF m 37 #[.val (.ref this), .val (.ref wn), .val (.ref b243), .val (.int (0 : Int32)), .unset] [(.long x_)]) _
  refine own_s_aloadN X251.here hx (hb hby own_d8_37) rfl rfl ?_
  obtain ⟨T255, X255, e255, st255⟩ := getF X251 hx hZ hown (host := "") (Or.inl (hw _ (List.mem_of_getElem? (i := 30) rfl))) Via.refl e251 f252 (g := (mkF m 38 #[.val (.ref this), .val (.ref wn), .val (.ref b243), .val (.int (0 : Int32)), .unset] [(.ref this), (.long x_)])) rfl rfl (hb hby own_d8_38)
  refine own_by st255 ?_
  show own_Go p e below T255 (mkF m 41 #[.val (.ref this), .val (.ref wn), .val (.ref b243), .val (.int (0 : Int32)), .unset] [(.ref am), (.long x_)]) _
  refine own_s_iloadN X255.here hx (hb hby own_d8_41) rfl ?_
  refine own_by (fun tq_ kq_ => own_ldI X255 hx hZ e255 f253 (k := 0) (v := (.int (1 : Int32))) (by decide) (by decide) rfl (g := (mkF m 42 #[.val (.ref this), .val (.ref wn), .val (.ref b243), .val (.int (0 : Int32)), .unset] [(.int (0 : Int32)), (.ref am), (.long x_)])) rfl rfl (hb hby own_d8_42) tq_ kq_) ?_
  show own_Go p e below T255 (mkF m 43 #[.val (.ref this), .val (.ref wn), .val (.ref b243), .val (.int (0 : Int32)), .unset] [(.int (1 : Int32)), (.long x_)]) _
  refine own_s_i2l X255.here hx (hb hby own_d8_43) ?_
  refine own_s_lcmp X255.here hx (hb hby own_d8_44) ?_
  refine own_s_ifNo X255.here hx (hb hby own_d8_45) (Jvm.Free.XT.ll_le_f hx1) ?_
  refine own_s_bipush X255.here hx (64 : Int32) (hb hby own_d8_48) rfl ?_
  refine own_s_aloadN X255.here hx (hb hby own_d8_50) rfl rfl ?_
  refine own_s_iloadN X255.here hx (hb hby own_d8_51) rfl ?_
  refine own_by (fun tq_ kq_ => own_ldJ X255 hx hZ e255 f254 (k := 0) (v := (.long x_)) (by decide) (by decide) rfl (g := (mkF m 52 #[.val (.ref this), .val (.ref wn), .val (.ref b243), .val (.int (0 : Int32)), .unset] [(.int (0 : Int32)), (.ref wn), (.int (64 : Int32))])) rfl rfl (hb hby own_d8_52) tq_ kq_) ?_
  show own_Go p e below T255 (mkF m 53 #[.val (.ref this), .val (.ref wn), .val (.ref b243), .val (.int (0 : Int32)), .unset] [(.long x_), (.int (64 : Int32))]) _
  obtain ⟨_, _, ⟨T256, L256, k256, n256⟩, -, X256, ⟨Lc256, hQ256, l256, y256, z256⟩, st256⟩ := Jvm.LawKit.callS X255 hx (y := (⟨"java/lang/Long", "numberOfLeadingZeros", "(J)I"⟩ : MethodName)) hown (mvT hZ (hw _ (List.mem_of_getElem? (i := 54) rfl))) (mvT hZ (hw _ (List.mem_of_getElem? (i := 55) rfl))) (mvT hZ (hw _ (List.mem_of_getElem? (i := 56) rfl))) (mvT hZ (hw _ (List.mem_of_getElem? (i := 57) rfl))) (by decide) (backOf (W := 1) (own_r11 l Z a0 hw [] x_  h251 n0 SZ251 ) hZ (hw _ (List.mem_of_getElem? (i := 57) rfl)) (hw _ (List.mem_of_getElem? (i := 56) rfl)) (by decide) (by decide)) (g := (mkF m 53 #[.val (.ref this), .val (.ref wn), .val (.ref b243), .val (.int (0 : Int32)), .unset] [(.long x_), (.int (64 : Int32))])) rfl (by rw [hml]; rfl) (argsL := [(.long x_)]) (rest := [(.int (64 : Int32))]) (lenOf own_pd_10 rfl) rfl (by show 2 * 0 + _ ≤ _; exact Nat.le_of_eq rfl) (hb hby own_d8_53) (fun _ _ => ⟨rfl, e255, (by decide : 1 + 0 ≤ _), (by decide : 3 + 0 ≤ _)⟩)
  dsimp only [Pt.U, Pt.locs, Pt.cells, Pt.slots] at X256 l256 y256 z256 st256 hQ256
  subst l256 y256 z256
  obtain ⟨rfl, N256q, e256⟩ := hQ256
  have N256 := Fr.app N251 N256q
  refine own_by st256 ?_
  show own_Go p e below T256 (mkF m 56 #[.val (.ref this), .val (.ref wn), .val (.ref b243), .val (.int (0 : Int32)), .unset] [(.int (own_f11 x_)), (.int (64 : Int32))]) _
  refine own_s_isub X256.here hx (hb hby own_d8_56) ?_
  refine own_s_istore X256.here hx #[.val (.ref this), .val (.ref wn), .val (.ref b243), .val (.int (0 : Int32)), .val (.int ((64 : Int32) - (own_f11 x_)))] (hb hby own_d8_57) rfl ?_
  refine own_s_aloadN X256.here hx (hb hby own_d8_59) rfl rfl ?_
  refine own_s_iloadN X256.here hx (hb hby own_d8_60) rfl ?_
  refine own_s_bipush X256.here hx (31 : Int32) (hb hby own_d8_61) rfl ?_
  refine own_s_iload X256.here hx (hb hby own_d8_63) rfl ?_
  refine own_s_iconst X256.here hx (1 : Int32) (hb hby own_d8_65) rfl ?_
  refine own_s_iadd X256.here hx (hb hby own_d8_66) ?_
  obtain ⟨_, _, ⟨T257, L257, k257, n257⟩, -, X257, ⟨Lc257, hQ257, l257, y257, z257⟩, st257⟩ := Jvm.LawKit.callS X256 hx (y := (⟨"java/lang/Math", "min", "(II)I"⟩ : MethodName)) hown (mvT hZ (hw _ (List.mem_of_getElem? (i := 59) rfl))) (mvT hZ (hw _ (List.mem_of_getElem? (i := 1) rfl))) (mvT hZ (hw _ (List.mem_of_getElem? (i := 2) rfl))) (mvT hZ (hw _ (List.mem_of_getElem? (i := 3) rfl))) (by decide) (backOf (W := 2) (own_r1 l Z a0 hw [] (31 : Int32) (((64 : Int32) - (own_f11 x_)) + (1 : Int32))  h251 n0 SZ251 ) hZ (hw _ (List.mem_of_getElem? (i := 3) rfl)) (hw _ (List.mem_of_getElem? (i := 2) rfl)) (by decide) (by decide)) (g := (mkF m 67 #[.val (.ref this), .val (.ref wn), .val (.ref b243), .val (.int (0 : Int32)), .val (.int ((64 : Int32) - (own_f11 x_)))] [(.int (((64 : Int32) - (own_f11 x_)) + (1 : Int32))), (.int (31 : Int32)), (.int (0 : Int32)), (.ref b243)])) rfl (by rw [hml]; rfl) (argsL := [(.int (31 : Int32)), (.int (((64 : Int32) - (own_f11 x_)) + (1 : Int32)))]) (rest := [(.int (0 : Int32)), (.ref b243)]) (lenOf own_pd_0 rfl) rfl (by show 2 * 0 + _ ≤ _; exact Nat.le_of_eq rfl) (hb hby own_d8_67) (fun _ _ => ⟨rfl, e256, (by decide : 1 + 0 ≤ _), (by decide : 3 + 0 ≤ _)⟩)
  dsimp only [Pt.U, Pt.locs, Pt.cells, Pt.slots] at X257 l257 y257 z257 st257 hQ257
  subst l257 y257 z257
  obtain ⟨rfl, N257q, e257⟩ := hQ257
  have N257 := Fr.app N256 N257q
  refine own_by st257 ?_
  show own_Go p e below T257 (mkF m 70 #[.val (.ref this), .val (.ref wn), .val (.ref b243), .val (.int (0 : Int32)), .val (.int ((64 : Int32) - (own_f11 x_)))] [(.int (own_f1 (31 : Int32) (((64 : Int32) - (own_f11 x_)) + (1 : Int32)))), (.int (0 : Int32)), (.ref b243)]) _
  obtain ⟨T258, h258, X258, e258, W258, fa258, st258⟩ := own_stI X257 hx hZ e257 fa251 (k := 0) (by decide) (by decide) (g := (mkF m 70 #[.val (.ref this), .val (.ref wn), .val (.ref b243), .val (.int (0 : Int32)), .val (.int ((64 : Int32) - (own_f11 x_)))] [(.int (own_f1 (31 : Int32) (((64 : Int32) - (own_f11 x_)) + (1 : Int32)))), (.int (0 : Int32)), (.ref b243)])) rfl rfl (hb hby own_d8_70)
  have f259 := f252.other W258 (Or.inl ne_this_b243)
  have f260 := f253.other W258 ne_am_b243
  have f261 := f254.other W258 ne_wn_b243
  have N258 := Fr.snoc X258 N257 ge_b243
  have SZ258 : n0 ≤ h258.size := by rw [W258.size]; exact SZ251
  have K258 := K251.wr W258 (Or.inr sz_b243)
  refine own_by st258 ?_
  show own_Go p e below T258 (mkF m 71 #[.val (.ref this), .val (.ref wn), .val (.ref b243), .val (.int (0 : Int32)), .val (.int ((64 : Int32) - (own_f11 x_)))] []) _
  refine own_by (fun tq_ kq_ => XS.iinc X258.here hx rfl (hb hby own_d8_71) rfl (l' := #[.val (.ref this), .val (.ref wn), .val (.ref b243), .val (.int ((0 : Int32) + (1 : Int32))), .val (.int ((64 : Int32) - (own_f11 x_)))]) rfl kq_) ?_
  show own_Go p e below T258 (mkF m 74 #[.val (.ref this), .val (.ref wn), .val (.ref b243), .val (.int ((0 : Int32) + (1 : Int32))), .val (.int ((64 : Int32) - (own_f11 x_)))] []) _
  show own_Go p e below T258 (mkF m 74 #[.val (.ref this), .val (.ref wn), .val (.ref b243), .val (.int (1 : Int32)), .val (.int ((64 : Int32) - (own_f11 x_)))] []) _
  refine own_s_goto X258.here hx 10 (hb hby own_d8_74) (by decide) (by decide) ?_
  refine own_s_iloadN X258.here hx (hb hby own_d8_10) rfl ?_
  refine own_s_aloadN X258.here hx (hb hby own_d8_11) rfl rfl ?_
  obtain ⟨T262, X262, e262, st262⟩ := getF X258 hx hZ hown (host := "") (Or.inl (hw _ (List.mem_of_getElem? (i := 30) rfl))) Via.refl e258 f259 (g := (mkF m 12 #[.val (.ref this), .val (.ref wn), .val (.ref b243), .val (.int (1 : Int32)), .val (.int ((64 : Int32) - (own_f11 x_)))] [(.ref this), (.int (1 : Int32))])) rfl rfl (hb hby own_d8_12)
  refine own_by st262 ?_
  show own_Go p e below T262 (mkF m 15 #[.val (.ref this), .val (.ref wn), .val (.ref b243), .val (.int (1 : Int32)), .val (.int ((64 : Int32) - (own_f11 x_)))] [(.ref am), (.int (1 : Int32))]) _
  refine own_by (fun tq_ kq_ => own_len X262 hx hZ e262 f260 (z := (3 : Int32)) rfl (g := (mkF m 15 #[.val (.ref this), .val (.ref wn), .val (.ref b243), .val (.int (1 : Int32)), .val (.int ((64 : Int32) - (own_f11 x_)))] [(.ref am), (.int (1 : Int32))])) rfl rfl (hb hby own_d8_15) tq_ kq_) ?_
  show own_Go p e below T262 (mkF m 16 #[.val (.ref this), .val (.ref wn), .val (.ref b243), .val (.int (1 : Int32)), .val (.int ((64 : Int32) - (own_f11 x_)))] [(.int (3 : Int32)), (.int (1 : Int32))]) _
  refine own_s_icmpNo X262.here hx (hb hby own_d8_16) (Jvm.Free.XT.ii_ge_f ((by decide))) ?_
  refine own_s_aloadN X262.here hx (hb hby own_d8_19) rfl rfl ?_
  refine own_s_iloadN X262.here hx (hb hby own_d8_20) rfl ?_
  refine own_s_bipush X262.here hx (32 : Int32) (hb hby own_d8_21) rfl ?_
  refine own_s_aloadN X262.here hx (hb hby own_d8_23) rfl rfl ?_
  obtain ⟨T263, X263, e263, st263⟩ := getF X262 hx hZ hown (host := "") (Or.inl (hw _ (List.mem_of_getElem? (i := 30) rfl))) Via.refl e262 f259 (g := (mkF m 24 #[.val (.ref this), .val (.ref wn), .val (.ref b243), .val (.int (1 : Int32)), .val (.int ((64 : Int32) - (own_f11 x_)))] [(.ref this), (.int (32 : Int32)), (.int (1 : Int32)), (.ref b243)])) rfl rfl (hb hby own_d8_24)
  refine own_by st263 ?_
  show own_Go p e below T263 (mkF m 27 #[.val (.ref this), .val (.ref wn), .val (.ref b243), .val (.int (1 : Int32)), .val (.int ((64 : Int32) - (own_f11 x_)))] [(.ref am), (.int (32 : Int32)), (.int (1 : Int32)), (.ref b243)]) _
  refine own_s_iloadN X263.here hx (hb hby own_d8_27) rfl ?_
  refine own_by (fun tq_ kq_ => own_ldI X263 hx hZ e263 f260 (k := 1) (v := (.int (1 : Int32))) (by decide) (by decide) rfl (g := (mkF m 28 #[.val (.ref this), .val (.ref wn), .val (.ref b243), .val (.int (1 : Int32)), .val (.int ((64 : Int32) - (own_f11 x_)))] [(.int (1 : Int32)), (.ref am), (.int (32 : Int32)), (.int (1 : Int32)), (.ref b243)])) rfl rfl (hb hby own_d8_28) tq_ kq_) ?_
  show own_Go p e below T263 (mkF m 29 #[.val (.ref this), .val (.ref wn), .val (.ref b243), .val (.int (1 : Int32)), .val (.int ((64 : Int32) - (own_f11 x_)))] [(.int (1 : Int32)), (.int (32 : Int32)), (.int (1 : Int32)), (.ref b243)]) _
  obtain ⟨_, _, ⟨T264, L264, k264, n264⟩, -, X264, ⟨Lc264, hQ264, l264, y264, z264⟩, st264⟩ := Jvm.LawKit.callS X263 hx (y := (⟨"java/lang/Integer", "numberOfLeadingZeros", "(I)I"⟩ : MethodName)) hown (mvT hZ (hw _ (List.mem_of_getElem? (i := 49) rfl))) (mvT hZ (hw _ (List.mem_of_getElem? (i := 50) rfl))) (mvT hZ (hw _ (List.mem_of_getElem? (i := 51) rfl))) (mvT hZ (hw _ (List.mem_of_getElem? (i := 52) rfl))) (by decide) (backOf (W := 3) (own_r10 l Z a0 hw [] (1 : Int32)  h258 n0 SZ258 ) hZ (hw _ (List.mem_of_getElem? (i := 52) rfl)) (hw _ (List.mem_of_getElem? (i := 51) rfl)) (by decide) (by decide)) (g := (mkF m 29 #[.val (.ref this), .val (.ref wn), .val (.ref b243), .val (.int (1 : Int32)), .val (.int ((64 : Int32) - (own_f11 x_)))] [(.int (1 : Int32)), (.int (32 : Int32)), (.int (1 : Int32)), (.ref b243)])) rfl (by rw [hml]; rfl) (argsL := [(.int (1 : Int32))]) (rest := [(.int (32 : Int32)), (.int (1 : Int32)), (.ref b243)]) (lenOf own_pd_9 rfl) rfl (by show 2 * 0 + _ ≤ _; exact Nat.le_of_eq rfl) (hb hby own_d8_29) (fun _ _ => ⟨rfl, e263, (by decide : 1 + 0 ≤ _), (by decide : 3 + 0 ≤ _)⟩)
  dsimp only [Pt.U, Pt.locs, Pt.cells, Pt.slots] at X264 l264 y264 z264 st264 hQ264
  subst l264 y264 z264
  obtain ⟨rfl, N264q, e264⟩ := hQ264
  have N264 := Fr.app N258 N264q
  refine own_by st264 ?_
  show own_Go p e below T264 (mkF m 32 #[.val (.ref this), .val (.ref wn), .val (.ref b243), .val (.int (1 : Int32)), .val (.int ((64 : Int32) - (own_f11 x_)))] [(.int (own_f10 (1 : Int32))), (.int (32 : Int32)), (.int (1 : Int32)), (.ref b243)]) _
  refine own_s_isub X264.here hx (hb hby own_d8_32) ?_
  rw [own_n1]
  show own_Go p e below T264 (mkF m 33 #[.val (.ref this), .val (.ref wn), .val (.ref b243), .val (.int (1 : Int32)), .val (.int ((64 : Int32) - (own_f11 x_)))] [(.int (1 : Int32)), (.int (1 : Int32)), (.ref b243)]) _
  obtain ⟨T265, h265, X265, e265, W265, fa265, st265⟩ := own_stI X264 hx hZ e264 fa258 (k := 1) (by decide) (by decide) (g := (mkF m 33 #[.val (.ref this), .val (.ref wn), .val (.ref b243), .val (.int (1 : Int32)), .val (.int ((64 : Int32) - (own_f11 x_)))] [(.int (1 : Int32)), (.int (1 : Int32)), (.ref b243)])) rfl rfl (hb hby own_d8_33)
  have f266 := f259.other W265 (Or.inl ne_this_b243)
  have f267 := f260.other W265 ne_am_b243
  have f268 := f261.other W265 ne_wn_b243
  have N265 := Fr.snoc X265 N264 ge_b243
  have SZ265 : n0 ≤ h265.size := by rw [W265.size]; exact SZ258
  have K265 := K258.wr W265 (Or.inr sz_b243)
  refine own_by st265 ?_
  show own_Go p e below T265 (mkF m 34 #[.val (.ref this), .val (.ref wn), .val (.ref b243), .val (.int (1 : Int32)), .val (.int ((64 : Int32) - (own_f11 x_)))] []) _
  refine own_s_aloadN X265.here hx (hb hby own_d8_34) rfl rfl ?_
  refine own_s_iloadN X265.here hx (hb hby own_d8_35) rfl ?_
  refine own_by (fun tq_ kq_ => own_ldJ X265 hx hZ e265 f268 (k := 1) (v := (.long (0 : Int64))) (by decide) (by decide) rfl (g := (mkF m 36 #[.val (.ref this), .val (.ref wn), .val (.ref b243), .val (.int (1 : Int32)), .val (.int ((64 : Int32) - (own_f11 x_)))] [(.int (1 : Int32)), (.ref wn)])) rfl rfl (hb hby own_d8_36) tq_ kq_) ?_
  show own_Go p e below T265 (mkF m 37 #[.val (.ref this), .val (.ref wn), .val (.ref b243), .val (.int (1 : Int32)), .val (.int ((64 : Int32) - (own_f11 x_)))] [(.long (0 : Int64))]) _
  refine own_s_aloadN X265.here hx (hb hby own_d8_37) rfl rfl ?_
  obtain ⟨T269, X269, e269, st269⟩ := getF X265 hx hZ hown (host := "") (Or.inl (hw _ (List.mem_of_getElem? (i := 30) rfl))) Via.refl e265 f266 (g := (mkF m 38 #[.val (.ref this), .val (.ref wn), .val (.ref b243), .val (.int (1 : Int32)), .val (.int ((64 : Int32) - (own_f11 x_)))] [(.ref this), (.long (0 : Int64))])) rfl rfl (hb hby own_d8_38)
  refine own_by st269 ?_
  show own_Go p e below T269 (mkF m 41 #[.val (.ref this), .val (.ref wn), .val (.ref b243), .val (.int (1 : Int32)), .val (.int ((64 : Int32) - (own_f11 x_)))] [(.ref am), (.long (0 : Int64))]) _
  refine own_s_iloadN X269.here hx (hb hby own_d8_41) rfl ?_
  refine own_by (fun tq_ kq_ => own_ldI X269 hx hZ e269 f267 (k := 1) (v := (.int (1 : Int32))) (by decide) (by decide) rfl (g := (mkF m 42 #[.val (.ref this), .val (.ref wn), .val (.ref b243), .val (.int (1 : Int32)), .val (.int ((64 : Int32) - (own_f11 x_)))] [(.int (1 : Int32)), (.ref am), (.long (0 : Int64))])) rfl rfl (hb hby own_d8_42) tq_ kq_) ?_
  show own_Go p e below T269 (mkF m 43 #[.val (.ref this), .val (.ref wn), .val (.ref b243), .val (.int (1 : Int32)), .val (.int ((64 : Int32) - (own_f11 x_)))] [(.int (1 : Int32)), (.long (0 : Int64))]) _
  refine own_s_i2l X269.here hx (hb hby own_d8_43) ?_
  refine own_s_lcmp X269.here hx (hb hby own_d8_44) ?_
  show own_Go p e below T269 (mkF m 45 #[.val (.ref this), .val (.ref wn), .val (.ref b243), .val (.int (1 : Int32)), .val (.int ((64 : Int32) - (own_f11 x_)))] [(.int (Jvm.Free.XT.cmpL (0 : Int64) ((1 : Int32).toInt64)))]) _
  refine own_s_ifYes X269.here hx 71 (hb hby own_d8_45) (Jvm.Free.XT.ll_le_t ((by decide))) (by decide) (by decide) ?_
  refine own_by (fun tq_ kq_ => XS.iinc X269.here hx rfl (hb hby own_d8_71) rfl (l' := #[.val (.ref this), .val (.ref wn), .val (.ref b243), .val (.int ((1 : Int32) + (1 : Int32))), .val (.int ((64 : Int32) - (own_f11 x_)))]) rfl kq_) ?_
  show own_Go p e below T269 (mkF m 74 #[.val (.ref this), .val (.ref wn), .val (.ref b243), .val (.int ((1 : Int32) + (1 : Int32))), .val (.int ((64 : Int32) - (own_f11 x_)))] []) _
  show own_Go p e below T269 (mkF m 74 #[.val (.ref this), .val (.ref wn), .val (.ref b243), .val (.int (2 : Int32)), .val (.int ((64 : Int32) - (own_f11 x_)))] []) _
  refine own_s_goto X269.here hx 10 (hb hby own_d8_74) (by decide) (by decide) ?_
  refine own_s_iloadN X269.here hx (hb hby own_d8_10) rfl ?_
  refine own_s_aloadN X269.here hx (hb hby own_d8_11) rfl rfl ?_
  obtain ⟨T270, X270, e270, st270⟩ := getF X269 hx hZ hown (host := "") (Or.inl (hw _ (List.mem_of_getElem? (i := 30) rfl))) Via.refl e269 f266 (g := (mkF m 12 #[.val (.ref this), .val (.ref wn), .val (.ref b243), .val (.int (2 : Int32)), .val (.int ((64 : Int32) - (own_f11 x_)))] [(.ref this), (.int (2 : Int32))])) rfl rfl (hb hby own_d8_12)
  refine own_by st270 ?_
  show own_Go p e below T270 (mkF m 15 #[.val (.ref this), .val (.ref wn), .val (.ref b243), .val (.int (2 : Int32)), .val (.int ((64 : Int32) - (own_f11 x_)))] [(.ref am), (.int (2 : Int32))]) _
  refine own_by (fun tq_ kq_ => own_len X270 hx hZ e270 f267 (z := (3 : Int32)) rfl (g := (mkF m 15 #[.val (.ref this), .val (.ref wn), .val (.ref b243), .val (.int (2 : Int32)), .val (.int ((64 : Int32) - (own_f11 x_)))] [(.ref am), (.int (2 : Int32))])) rfl rfl (hb hby own_d8_15) tq_ kq_) ?_
  show own_Go p e below T270 (mkF m 16 #[.val (.ref this), .val (.ref wn), .val (.ref b243), .val (.int (2 : Int32)), .val (.int ((64 : Int32) - (own_f11 x_)))] [(.int (3 : Int32)), (.int (2 : Int32))]) _
  refine own_s_icmpNo X270.here hx (hb hby own_d8_16) (Jvm.Free.XT.ii_ge_f ((by decide))) ?_
  refine own_s_aloadN X270.here hx (hb hby own_d8_19) rfl rfl ?_
  refine own_s_iloadN X270.here hx (hb hby own_d8_20) rfl ?_
  refine own_s_bipush X270.here hx (32 : Int32) (hb hby own_d8_21) rfl ?_
  refine own_s_aloadN X270.here hx (hb hby own_d8_23) rfl rfl ?_
  obtain ⟨T271, X271, e271, st271⟩ := getF X270 hx hZ hown (host := "") (Or.inl (hw _ (List.mem_of_getElem? (i := 30) rfl))) Via.refl e270 f266 (g := (mkF m 24 #[.val (.ref this), .val (.ref wn), .val (.ref b243), .val (.int (2 : Int32)), .val (.int ((64 : Int32) - (own_f11 x_)))] [(.ref this), (.int (32 : Int32)), (.int (2 : Int32)), (.ref b243)])) rfl rfl (hb hby own_d8_24)
  refine own_by st271 ?_
  show own_Go p e below T271 (mkF m 27 #[.val (.ref this), .val (.ref wn), .val (.ref b243), .val (.int (2 : Int32)), .val (.int ((64 : Int32) - (own_f11 x_)))] [(.ref am), (.int (32 : Int32)), (.int (2 : Int32)), (.ref b243)]) _
  refine own_s_iloadN X271.here hx (hb hby own_d8_27) rfl ?_
  refine own_by (fun tq_ kq_ => own_ldI X271 hx hZ e271 f267 (k := 2) (v := (.int (1 : Int32))) (by decide) (by decide) rfl (g := (mkF m 28 #[.val (.ref this), .val (.ref wn), .val (.ref b243), .val (.int (2 : Int32)), .val (.int ((64 : Int32) - (own_f11 x_)))] [(.int (2 : Int32)), (.ref am), (.int (32 : Int32)), (.int (2 : Int32)), (.ref b243)])) rfl rfl (hb hby own_d8_28) tq_ kq_) ?_
  show own_Go p e below T271 (mkF m 29 #[.val (.ref this), .val (.ref wn), .val (.ref b243), .val (.int (2 : Int32)), .val (.int ((64 : Int32) - (own_f11 x_)))] [(.int (1 : Int32)), (.int (32 : Int32)), (.int (2 : Int32)), (.ref b243)]) _
  obtain ⟨_, _, ⟨T272, L272, k272, n272⟩, -, X272, ⟨Lc272, hQ272, l272, y272, z272⟩, st272⟩ := Jvm.LawKit.callS X271 hx (y := (⟨"java/lang/Integer", "numberOfLeadingZeros", "(I)I"⟩ : MethodName)) hown (mvT hZ (hw _ (List.mem_of_getElem? (i := 49) rfl))) (mvT hZ (hw _ (List.mem_of_getElem? (i := 50) rfl))) (mvT hZ (hw _ (List.mem_of_getElem? (i := 51) rfl))) (mvT hZ (hw _ (List.mem_of_getElem? (i := 52) rfl))) (by decide) (backOf (W := 3) (own_r10 l Z a0 hw [] (1 : Int32)  h265 n0 SZ265 ) hZ (hw _ (List.mem_of_getElem? (i := 52) rfl)) (hw _ (List.mem_of_getElem? (i := 51) rfl)) (by decide) (by decide)) (g := (mkF m 29 #[.val (.ref this), .val (.ref wn), .val (.ref b243), .val (.int (2 : Int32)), .val (.int ((64 : Int32) - (own_f11 x_)))] [(.int (1 : Int32)), (.int (32 : Int32)), (.int (2 : Int32)), (.ref b243)])) rfl (by rw [hml]; rfl) (argsL := [(.int (1 : Int32))]) (rest := [(.int (32 : Int32)), (.int (2 : Int32)), (.ref b243)]) (lenOf own_pd_9 rfl) rfl (by show 2 * 0 + _ ≤ _; exact Nat.le_of_eq rfl) (hb hby own_d8_29) (fun _ _ => ⟨rfl, e271, (by decide : 1 + 0 ≤ _), (by decide : 3 + 0 ≤ _)⟩)
  dsimp only [Pt.U, Pt.locs, Pt.cells, Pt.slots] at X272 l272 y272 z272 st272 hQ272
  subst l272 y272 z272
  obtain ⟨rfl, N272q, e272⟩ := hQ272
  have N272 := Fr.app N265 N272q
  refine own_by st272 ?_
  show own_Go p e below T272 (mkF m 32 #[.val (.ref this), .val (.ref wn), .val (.ref b243), .val (.int (2 : Int32)), .val (.int ((64 : Int32) - (own_f11 x_)))] [(.int (own_f10 (1 : Int32))), (.int (32 : Int32)), (.int (2 : Int32)), (.ref b243)]) _
  refine own_s_isub X272.here hx (hb hby own_d8_32) ?_
  rw [own_n1]
  show own_Go p e below T272 (mkF m 33 #[.val (.ref this), .val (.ref wn), .val (.ref b243), .val (.int (2 : Int32)), .val (.int ((64 : Int32) - (own_f11 x_)))] [(.int (1 : Int32)), (.int (2 : Int32)), (.ref b243)]) _
  obtain ⟨T273, h273, X273, e273, W273, fa273, st273⟩ := own_stI X272 hx hZ e272 fa265 (k := 2) (by decide) (by decide) (g := (mkF m 33 #[.val (.ref this), .val (.ref wn), .val (.ref b243), .val (.int (2 : Int32)), .val (.int ((64 : Int32) - (own_f11 x_)))] [(.int (1 : Int32)), (.int (2 : Int32)), (.ref b243)])) rfl rfl (hb hby own_d8_33)
  have f274 := f266.other W273 (Or.inl ne_this_b243)
  have f275 := f267.other W273 ne_am_b243
  have f276 := f268.other W273 ne_wn_b243
  have N273 := Fr.snoc X273 N272 ge_b243
  have SZ273 : n0 ≤ h273.size := by rw [W273.size]; exact SZ265
  have K273 := K265.wr W273 (Or.inr sz_b243)
  refine own_by st273 ?_
  show own_Go p e below T273 (mkF m 34 #[.val (.ref this), .val (.ref wn), .val (.ref b243), .val (.int (2 : Int32)), .val (.int ((64 : Int32) - (own_f11 x_)))] []) _
  refine own_s_aloadN X273.here hx (hb hby own_d8_34) rfl rfl ?_
  refine own_s_iloadN X273.here hx (hb hby own_d8_35) rfl ?_
  refine own_by (fun tq_ kq_ => own_ldJ X273 hx hZ e273 f276 (k := 2) (v := (.long (0 : Int64))) (by decide) (by decide) rfl (g := (mkF m 36 #[.val (.ref this), .val (.ref wn), .val (.ref b243), .val (.int (2 : Int32)), .val (.int ((64 : Int32) - (own_f11 x_)))] [(.int (2 : Int32)), (.ref wn)])) rfl rfl (hb hby own_d8_36) tq_ kq_) ?_
  show own_Go p e below T273 (mkF m 37 #[.val (.ref this), .val (.ref wn), .val (.ref b243), .val (.int (2 : Int32)), .val (.int ((64 : Int32) - (own_f11 x_)))] [(.long (0 : Int64))]) _
  refine own_s_aloadN X273.here hx (hb hby own_d8_37) rfl rfl ?_
  obtain ⟨T277, X277, e277, st277⟩ := getF X273 hx hZ hown (host := "") (Or.inl (hw _ (List.mem_of_getElem? (i := 30) rfl))) Via.refl e273 f274 (g := (mkF m 38 #[.val (.ref this), .val (.ref wn), .val (.ref b243), .val (.int (2 : Int32)), .val (.int ((64 : Int32) - (own_f11 x_)))] [(.ref this), (.long (0 : Int64))])) rfl rfl (hb hby own_d8_38)
  refine own_by st277 ?_
  show own_Go p e below T277 (mkF m 41 #[.val (.ref this), .val (.ref wn), .val (.ref b243), .val (.int (2 : Int32)), .val (.int ((64 : Int32) - (own_f11 x_)))] [(.ref am), (.long (0 : Int64))]) _
  refine own_s_iloadN X277.here hx (hb hby own_d8_41) rfl ?_
  refine own_by (fun tq_ kq_ => own_ldI X277 hx hZ e277 f275 (k := 2) (v := (.int (1 : Int32))) (by decide) (by decide) rfl (g := (mkF m 42 #[.val (.ref this), .val (.ref wn), .val (.ref b243), .val (.int (2 : Int32)), .val (.int ((64 : Int32) - (own_f11 x_)))] [(.int (2 : Int32)), (.ref am), (.long (0 : Int64))])) rfl rfl (hb hby own_d8_42) tq_ kq_) ?_
  show own_Go p e below T277 (mkF m 43 #[.val (.ref this), .val (.ref wn), .val (.ref b243), .val (.int (2 : Int32)), .val (.int ((64 : Int32) - (own_f11 x_)))] [(.int (1 : Int32)), (.long (0 : Int64))]) _
  refine own_s_i2l X277.here hx (hb hby own_d8_43) ?_
  refine own_s_lcmp X277.here hx (hb hby own_d8_44) ?_
  show own_Go p e below T277 (mkF m 45 #[.val (.ref this), .val (.ref wn), .val (.ref b243), .val (.int (2 : Int32)), .val (.int ((64 : Int32) - (own_f11 x_)))] [(.int (Jvm.Free.XT.cmpL (0 : Int64) ((1 : Int32).toInt64)))]) _
  refine own_s_ifYes X277.here hx 71 (hb hby own_d8_45) (Jvm.Free.XT.ll_le_t ((by decide))) (by decide) (by decide) ?_
  refine own_by (fun tq_ kq_ => XS.iinc X277.here hx rfl (hb hby own_d8_71) rfl (l' := #[.val (.ref this), .val (.ref wn), .val (.ref b243), .val (.int ((2 : Int32) + (1 : Int32))), .val (.int ((64 : Int32) - (own_f11 x_)))]) rfl kq_) ?_
  show own_Go p e below T277 (mkF m 74 #[.val (.ref this), .val (.ref wn), .val (.ref b243), .val (.int ((2 : Int32) + (1 : Int32))), .val (.int ((64 : Int32) - (own_f11 x_)))] []) _
  show own_Go p e below T277 (mkF m 74 #[.val (.ref this), .val (.ref wn), .val (.ref b243), .val (.int (3 : Int32)), .val (.int ((64 : Int32) - (own_f11 x_)))] []) _
  refine own_s_goto X277.here hx 10 (hb hby own_d8_74) (by decide) (by decide) ?_
  refine own_s_iloadN X277.here hx (hb hby own_d8_10) rfl ?_
  refine own_s_aloadN X277.here hx (hb hby own_d8_11) rfl rfl ?_
  obtain ⟨T278, X278, e278, st278⟩ := getF X277 hx hZ hown (host := "") (Or.inl (hw _ (List.mem_of_getElem? (i := 30) rfl))) Via.refl e277 f274 (g := (mkF m 12 #[.val (.ref this), .val (.ref wn), .val (.ref b243), .val (.int (3 : Int32)), .val (.int ((64 : Int32) - (own_f11 x_)))] [(.ref this), (.int (3 : Int32))])) rfl rfl (hb hby own_d8_12)
  refine own_by st278 ?_
  show own_Go p e below T278 (mkF m 15 #[.val (.ref this), .val (.ref wn), .val (.ref b243), .val (.int (3 : Int32)), .val (.int ((64 : Int32) - (own_f11 x_)))] [(.ref am), (.int (3 : Int32))]) _
  refine own_by (fun tq_ kq_ => own_len X278 hx hZ e278 f275 (z := (3 : Int32)) rfl (g := (mkF m 15 #[.val (.ref this), .val (.ref wn), .val (.ref b243), .val (.int (3 : Int32)), .val (.int ((64 : Int32) - (own_f11 x_)))] [(.ref am), (.int (3 : Int32))])) rfl rfl (hb hby own_d8_15) tq_ kq_) ?_
  show own_Go p e below T278 (mkF m 16 #[.val (.ref this), .val (.ref wn), .val (.ref b243), .val (.int (3 : Int32)), .val (.int ((64 : Int32) - (own_f11 x_)))] [(.int (3 : Int32)), (.int (3 : Int32))]) _
  refine own_s_icmpYes X278.here hx 77 (hb hby own_d8_16) (Jvm.Free.XT.ii_ge_t ((by decide))) (by decide) (by decide) ?_
  obtain ⟨T279, h279, X279, e279, E279, A279, D279, -, st279⟩ := newO X278 hx hZ hown (hw _ (List.mem_of_getElem? (i := 43) rfl)) (hw _ (List.mem_of_getElem? (i := 11) rfl)) (hw _ (List.mem_of_getElem? (i := 12) rfl)) e278 (g := (mkF m 77 #[.val (.ref this), .val (.ref wn), .val (.ref b243), .val (.int (3 : Int32)), .val (.int ((64 : Int32) - (own_f11 x_)))] [])) rfl (hb hby own_d8_77) (by decide) (by decide)
  obtain ⟨b279, g279⟩ : ∃ z, z = h273.size := ⟨_, rfl⟩
  rw [← g279] at A279 D279 st279
  have ge_b279 : n0 ≤ b279 := Nat.le_trans SZ273 (Nat.le_of_eq g279.symm)
  have sz_b279 : h0.size ≤ b279 := Nat.le_trans K273.1 (Nat.le_of_eq g279.symm)
  have ne_this_b279 : this ≠ b279 := Nat.ne_of_lt (Nat.lt_of_lt_of_le f274.lt (Nat.le_of_eq g279.symm))
  have ne_am_b279 : am ≠ b279 := Nat.ne_of_lt (Nat.lt_of_lt_of_le f275.lt (Nat.le_of_eq g279.symm))
  have ne_wn_b279 : wn ≠ b279 := Nat.ne_of_lt (Nat.lt_of_lt_of_le f276.lt (Nat.le_of_eq g279.symm))
  have ne_b243_b279 : b243 ≠ b279 := Nat.ne_of_lt (Nat.lt_of_lt_of_le fa273.lt (Nat.le_of_eq g279.symm))
  have f280 := f274.ext E279
  have f281 := f275.ext E279
  have f282 := f276.ext E279
  have f283 := fa273.ext E279
  have SZ279 : n0 ≤ h279.size := Nat.le_trans SZ273 E279.1
  have K279 := K273.ext E279
  have f284 : Fld Z h279 b279 "com/example/lapse/lapse/MarkingCode" "most" "[I" .null := D279 (Or.inr (hw _ (List.mem_of_getElem? (i := 31) rfl))) (ty := (.array .int)) (by decide)
  have f285 : Fld Z h279 b279 "com/example/lapse/lapse/MarkingCode" "words" "[I" .null := D279 (Or.inr (hw _ (List.mem_of_getElem? (i := 33) rfl))) (ty := (.array .int)) (by decide)
  have f286 : Fld Z h279 b279 "com/example/lapse/lapse/MarkingCode" "shifts" "[I" .null := D279 (Or.inr (hw _ (List.mem_of_getElem? (i := 35) rfl))) (ty := (.array .int)) (by decide)
  have f287 : Fld Z h279 b279 "com/example/lapse/lapse/MarkingCode" "length" "I" (.int (0 : Int32)) := D279 (Or.inr (hw _ (List.mem_of_getElem? (i := 37) rfl))) (ty := .int) (by decide)
  refine own_by st279 ?_
  show own_Go p e below T279 (mkF m 80 #[.val (.ref this), .val (.ref wn), .val (.ref b243), .val (.int (3 : Int32)), .val (.int ((64 : Int32) - (own_f11 x_)))] [(.ref b279)]) _
  refine own_s_dup X279.here hx (hb hby own_d8_80) rfl ?_
  refine own_s_aloadN X279.here hx (hb hby own_d8_81) rfl rfl ?_
  have f288 : own_Av Z h279 b243 .int 3 (fun j => .int (own_wdf (own_f1 (31 : Int32) (((64 : Int32) - (own_f11 x_)) + (1 : Int32))) j)) := f283.cong rfl (fun j hj => by
    match j, hj with
    | 0, _ => rfl
    | 1, _ => rfl
    | 2, _ => rfl)
  obtain ⟨_, _, ⟨T289, L289, k289, n289⟩, -, X289, ⟨Lc289, hQ289, l289, y289, z289⟩, st289⟩ := X279.specialBack hx (y := (⟨"com/example/lapse/lapse/MarkingCode", "<init>", "([I)V"⟩ : MethodName)) rfl hown (mvT hZ (hw _ (List.mem_of_getElem? (i := 24) rfl))) (mvT hZ (hw _ (List.mem_of_getElem? (i := 25) rfl))) (mvT hZ (hw _ (List.mem_of_getElem? (i := 26) rfl))) (by decide) (backOf (W := 1) (own_r6 l Z a0 hw [] b279 b243 3 (own_wdf (own_f1 (31 : Int32) (((64 : Int32) - (own_f11 x_)) + (1 : Int32)))) h279 n0 SZ279 (by decide) A279 f284 f285 f286 f287 ge_b279 f288 ne_b243_b279) hZ (hw _ (List.mem_of_getElem? (i := 26) rfl)) (hw _ (List.mem_of_getElem? (i := 12) rfl)) (by decide) (by decide)) (g := (mkF m 82 #[.val (.ref this), .val (.ref wn), .val (.ref b243), .val (.int (3 : Int32)), .val (.int ((64 : Int32) - (own_f11 x_)))] [(.ref b243), (.ref b279), (.ref b279)])) rfl (by rw [hml]; rfl) (Steps.refl _) (a := b279) (argsL := [(.ref b243)]) (rest := [(.ref b279)]) (lenOf own_pd_5 rfl) rfl (by show 2 * 0 + _ ≤ _; exact Nat.le_of_eq rfl) (hb hby own_d8_82) (fun _ _ => ⟨rfl, e279, (by decide : 2 + 3 ≤ _), (by decide : 7 + 9 ≤ _)⟩)
  dsimp only [Pt.U, Pt.locs, Pt.cells, Pt.slots] at X289 l289 y289 z289 st289 hQ289
  subst l289 y289 z289
  obtain ⟨rfl, N289q, K289, am289, aw289, as289, gm289, gw289, gs289, zm289, zw289, zs289, nmw289, nms289, nws289, fm289, Am289, fw289, Aw289, fs289, As289, fl289⟩ := hQ289
  have N289 := Fr.app N273 N289q
  have f290 := f280.keep K289 (ninS ne_this_b279 nin0)
  have f291 := f281.keep K289 (ninS ne_am_b279 nin0)
  have f292 := f282.keep K289 (ninS ne_wn_b279 nin0)
  have f293 := f288.keep K289 (ninS ne_b243_b279 nin0)
  have f294 := A279.keep K289
  have SZ289 : n0 ≤ T289.heap.size := Nat.le_trans SZ279 K289.1
  have KC289 := K279.trans K289 (allS (Or.inr sz_b279) all0)
  refine own_by (fun t k => st289.trans k) ?_
  have sz_am289 : h0.size ≤ am289 := Nat.le_trans K279.1 zm289
  have ne_this_am289 : this ≠ am289 := Nat.ne_of_lt (Nat.lt_of_lt_of_le f280.lt zm289)
  have ne_am_am289 : am ≠ am289 := Nat.ne_of_lt (Nat.lt_of_lt_of_le f281.lt zm289)
  have ne_wn_am289 : wn ≠ am289 := Nat.ne_of_lt (Nat.lt_of_lt_of_le f282.lt zm289)
  have ne_b243_am289 : b243 ≠ am289 := Nat.ne_of_lt (Nat.lt_of_lt_of_le f288.lt zm289)
  have ne_b279_am289 : b279 ≠ am289 := Nat.ne_of_lt (Nat.lt_of_lt_of_le A279.lt zm289)
  have sz_aw289 : h0.size ≤ aw289 := Nat.le_trans K279.1 zw289
  have ne_this_aw289 : this ≠ aw289 := Nat.ne_of_lt (Nat.lt_of_lt_of_le f280.lt zw289)
  have ne_am_aw289 : am ≠ aw289 := Nat.ne_of_lt (Nat.lt_of_lt_of_le f281.lt zw289)
  have ne_wn_aw289 : wn ≠ aw289 := Nat.ne_of_lt (Nat.lt_of_lt_of_le f282.lt zw289)
  have ne_b243_aw289 : b243 ≠ aw289 := Nat.ne_of_lt (Nat.lt_of_lt_of_le f288.lt zw289)
  have ne_b279_aw289 : b279 ≠ aw289 := Nat.ne_of_lt (Nat.lt_of_lt_of_le A279.lt zw289)
  have sz_as289 : h0.size ≤ as289 := Nat.le_trans K279.1 zs289
  have ne_this_as289 : this ≠ as289 := Nat.ne_of_lt (Nat.lt_of_lt_of_le f280.lt zs289)
  have ne_am_as289 : am ≠ as289 := Nat.ne_of_lt (Nat.lt_of_lt_of_le f281.lt zs289)
  have ne_wn_as289 : wn ≠ as289 := Nat.ne_of_lt (Nat.lt_of_lt_of_le f282.lt zs289)
  have ne_b243_as289 : b243 ≠ as289 := Nat.ne_of_lt (Nat.lt_of_lt_of_le f288.lt zs289)
  have ne_b279_as289 : b279 ≠ as289 := Nat.ne_of_lt (Nat.lt_of_lt_of_le A279.lt zs289)
  show own_Go p e below T289 (mkF m 85 #[.val (.ref this), .val (.ref wn), .val (.ref b243), .val (.int (3 : Int32)), .val (.int ((64 : Int32) - (own_f11 x_)))] [(.ref b279)]) _
  refine own_retA X289 hx hret hlk (hb hby own_d8_85) rfl rfl rfl (by decide) (by decide) ?_
  exact ⟨b279, rfl, N289, ge_b279, KC289, f294, am289, fm289, Am289⟩
theorem own_d9_0 : decode prog_21_method_4_code 0 = .ok (.iconst 0, 1) := by decide +kernel
theorem own_d9_1 : decode prog_21_method_4_code 1 = .ok (.istore_n 2, 1) := by decide +kernel
theorem own_d9_2 : decode prog_21_method_4_code 2 = .ok (.iload_n 2, 1) := by decide +kernel
theorem own_d9_3 : decode prog_21_method_4_code 3 = .ok (.aload_n 0, 1) := by decide +kernel
theorem own_d9_4 : decode prog_21_method_4_code 4 = .ok (.getfield 16, 3) := by decide +kernel
theorem own_d9_7 : decode prog_21_method_4_code 7 = .ok (.arraylength, 1) := by decide +kernel
theorem own_d9_8 : decode prog_21_method_4_code 8 = .ok (.if_icmp .ge 25, 3) := by decide +kernel
theorem own_d9_11 : decode prog_21_method_4_code 11 = .ok (.aload_n 1, 1) := by decide +kernel
theorem own_d9_12 : decode prog_21_method_4_code 12 = .ok (.iload_n 2, 1) := by decide +kernel
theorem own_d9_13 : decode prog_21_method_4_code 13 = .ok (.laload, 1) := by decide +kernel
theorem own_d9_14 : decode prog_21_method_4_code 14 = .ok (.aload_n 0, 1) := by decide +kernel
theorem own_d9_15 : decode prog_21_method_4_code 15 = .ok (.getfield 16, 3) := by decide +kernel
theorem own_d9_18 : decode prog_21_method_4_code 18 = .ok (.iload_n 2, 1) := by decide +kernel
theorem own_d9_19 : decode prog_21_method_4_code 19 = .ok (.iaload, 1) := by decide +kernel
theorem own_d9_20 : decode prog_21_method_4_code 20 = .ok (.i2l, 1) := by decide +kernel
theorem own_d9_21 : decode prog_21_method_4_code 21 = .ok (.lcmp, 1) := by decide +kernel
theorem own_d9_22 : decode prog_21_method_4_code 22 = .ok (.ifCond .le 5, 3) := by decide +kernel
theorem own_d9_25 : decode prog_21_method_4_code 25 = .ok (.iconst 0, 1) := by decide +kernel
theorem own_d9_26 : decode prog_21_method_4_code 26 = .ok (.ireturn, 1) := by decide +kernel
theorem own_d9_27 : decode prog_21_method_4_code 27 = .ok (.iinc 2 1, 3) := by decide +kernel
theorem own_d9_30 : decode prog_21_method_4_code 30 = .ok (.goto (-28), 3) := by decide +kernel
theorem own_d9_33 : decode prog_21_method_4_code 33 = .ok (.iconst 1, 1) := by decide +kernel
theorem own_d9_34 : decode prog_21_method_4_code 34 = .ok (.ireturn, 1) := by decide +kernel
theorem own_ef9 (m : MethodId) (this : Addr) (mk : Addr) : entryFrame m #[(.ref this), (.ref mk)] 3 = mkF m 0 #[.val (.ref this), .val (.ref mk), .unset] [] := by first | (simp [entryFrame, mkF, argsToLocals, Value.category]; done) | rfl
def own_q_own_ft0 (Z : State) (this : Addr) (mk : Addr) (am : Addr) (mo : Nat → Int32) (mv : Nat → Int64) (h0 : Heap) (n0 : Nat) (v : Option Value) (h : Heap) (L : List Loc) : Prop := v = some (.int (1 : Int32)) ∧ Fr n0 L ∧ h = h0
set_option maxRecDepth 65536 in
set_option maxHeartbeats 40000000 in
theorem own_ft0 (l : Launch) (Z : State) (a0 : Array Value) (hw : ∀ d ∈ tables_1, d.before a0 Z = true) (ws : List Jvm.Cond) (this : Addr) (mk : Addr) (am : Addr) (mo : Nat → Int32) (mv : Nat → Int64) (h0 : Heap) (n0 : Nat) (Z0 : n0 ≤ h0.size) (F_this_most : Fld Z h0 this "com/example/lapse/lapse/MarkingCode" "most" "[I" (.ref am)) (A_am : own_Av Z h0 am .int 0 (fun j => .int (mo j))) (A_mk : own_Av Z h0 mk .long 3 (fun j => .long (mv j))) :
    MetFree l (⟨"com/example/lapse/lapse/MarkingCode", "fits", "([J)Z"⟩ : MethodName) (head1 (Jvm.Cond.code (⟨"com/example/lapse/lapse/MarkingCode", "fits", "([J)Z"⟩ : MethodName) prog_21_method_4_code 3 (some .boolean) :: ws) ({ frames := 0, cells := 0, slots := 0, locals := 0 } : Room)) (fun aq Uq => aq = #[(.ref this), (.ref mk)] ∧ Z.Warmed39 Uq.vm ∧ Uq.heap = h0) (fun _ _ _ _ _ => True) (fun _ Uq oq Uq' => ∃ vq Lq, oq = .returned vq ∧ own_q_own_ft0 Z this mk am mo mv h0 n0 vq Uq'.heap Lq ∧ FrameEnd Uq oq Uq' Lq ({ frames := 0, cells := 0, slots := 0, locals := 0 } : Room).cells ({ frames := 0, cells := 0, slots := 0, locals := 0 } : Room).slots) := by
  refine MetFree.of_bodySF (plainFor_of_name own_pn_MarkingCode) hisR ?_
  intro p e s m args below meth c T0 Bd hml0 hP hK
  obtain ⟨rfl, hZ, hh⟩ := hP
  have hx := Bd.exec
  have hby := Bd.bytes
  have hml : c.maxLocals = 3 := hml0
  have hown : s.vm.findClass "com/example/lapse/lapse/MarkingCode" = some m.cls := findClass_of_methodNamed Bd.named
  have hnm := (name_of_methodNamed Bd.named Bd.method).1
  have hret : meth.sig.returnType = (some .boolean) := Bd.returns
  have hlk : meth.locks = false := BodyLoose.notSynchronized Bd
  have X0 : Stand p l e ({ frames := 0, cells := 0, slots := 0, locals := 0 } : Room) s m #[(.ref this), (.ref mk)] below meth c T0 [] 0 0 := Stand.of_body Bd
  have e0 : T0.heap = h0 := by rw [← hh, Bd.state]; rfl
  have N0 := Fr.nil n0
  refine own_start (own_ef9 m this mk) (Q := fun (v : Option Value) (h : Heap) (L : List Loc) => v = some (.int (1 : Int32)) ∧ Fr n0 L ∧ h = h0) (k := 0) (j := 0) ?_
  show own_Go p e below T0 (mkF m 0 #[.val (.ref this), .val (.ref mk), .unset] []) _
  refine own_s_iconst X0.here hx (0 : Int32) (hb hby own_d9_0) rfl ?_
  refine own_s_istoreN X0.here hx #[.val (.ref this), .val (.ref mk), .val (.int (0 : Int32))] (hb hby own_d9_1) rfl ?_
  refine own_s_iloadN X0.here hx (hb hby own_d9_2) rfl ?_
  refine own_s_aloadN X0.here hx (hb hby own_d9_3) rfl rfl ?_
  obtain ⟨T295, X295, e295, st295⟩ := getF X0 hx hZ hown (host := "") (Or.inl (hw _ (List.mem_of_getElem? (i := 30) rfl))) Via.refl e0 F_this_most (g := (mkF m 4 #[.val (.ref this), .val (.ref mk), .val (.int (0 : Int32))] [(.ref this), (.int (0 : Int32))])) rfl rfl (hb hby own_d9_4)
  refine own_by st295 ?_
  show own_Go p e below T295 (mkF m 7 #[.val (.ref this), .val (.ref mk), .val (.int (0 : Int32))] [(.ref am), (.int (0 : Int32))]) _
  refine own_by (fun tq_ kq_ => own_len X295 hx hZ e295 A_am (z := (0 : Int32)) rfl (g := (mkF m 7 #[.val (.ref this), .val (.ref mk), .val (.int (0 : Int32))] [(.ref am), (.int (0 : Int32))])) rfl rfl (hb hby own_d9_7) tq_ kq_) ?_
  show own_Go p e below T295 (mkF m 8 #[.val (.ref this), .val (.ref mk), .val (.int (0 : Int32))] [(.int (0 : Int32)), (.int (0 : Int32))]) _
  refine own_s_icmpYes X295.here hx 33 (hb hby own_d9_8) (Jvm.Free.XT.ii_ge_t ((by decide))) (by decide) (by decide) ?_
  refine own_s_iconst X295.here hx (1 : Int32) (hb hby own_d9_33) rfl ?_
  refine own_retZ X295 hx hret hlk (hb hby own_d9_34) rfl (by decide) (by decide) ?_
  exact ⟨rfl, N0, e295⟩
def own_q_own_ft1 (Z : State) (this : Addr) (mk : Addr) (am : Addr) (mo : Nat → Int32) (mv : Nat → Int64) (h0 : Heap) (n0 : Nat) (v : Option Value) (h : Heap) (L : List Loc) : Prop := v = some (.int (if ((mo 0).toInt64) < (mv 0) then (0 : Int32) else (1 : Int32))) ∧ Fr n0 L ∧ h = h0
set_option maxRecDepth 65536 in
set_option maxHeartbeats 40000000 in
theorem own_ft1 (l : Launch) (Z : State) (a0 : Array Value) (hw : ∀ d ∈ tables_1, d.before a0 Z = true) (ws : List Jvm.Cond) (this : Addr) (mk : Addr) (am : Addr) (mo : Nat → Int32) (mv : Nat → Int64) (h0 : Heap) (n0 : Nat) (Z0 : n0 ≤ h0.size) (F_this_most : Fld Z h0 this "com/example/lapse/lapse/MarkingCode" "most" "[I" (.ref am)) (A_am : own_Av Z h0 am .int 1 (fun j => .int (mo j))) (A_mk : own_Av Z h0 mk .long 3 (fun j => .long (mv j))) :
    MetFree l (⟨"com/example/lapse/lapse/MarkingCode", "fits", "([J)Z"⟩ : MethodName) (head1 (Jvm.Cond.code (⟨"com/example/lapse/lapse/MarkingCode", "fits", "([J)Z"⟩ : MethodName) prog_21_method_4_code 3 (some .boolean) :: ws) ({ frames := 0, cells := 0, slots := 0, locals := 0 } : Room)) (fun aq Uq => aq = #[(.ref this), (.ref mk)] ∧ Z.Warmed39 Uq.vm ∧ Uq.heap = h0) (fun _ _ _ _ _ => True) (fun _ Uq oq Uq' => ∃ vq Lq, oq = .returned vq ∧ own_q_own_ft1 Z this mk am mo mv h0 n0 vq Uq'.heap Lq ∧ FrameEnd Uq oq Uq' Lq ({ frames := 0, cells := 0, slots := 0, locals := 0 } : Room).cells ({ frames := 0, cells := 0, slots := 0, locals := 0 } : Room).slots) := by
  refine MetFree.of_bodySF (plainFor_of_name own_pn_MarkingCode) hisR ?_
  intro p e s m args below meth c T0 Bd hml0 hP hK
  obtain ⟨rfl, hZ, hh⟩ := hP
  have hx := Bd.exec
  have hby := Bd.bytes
  have hml : c.maxLocals = 3 := hml0
  have hown : s.vm.findClass "com/example/lapse/lapse/MarkingCode" = some m.cls := findClass_of_methodNamed Bd.named
  have hnm := (name_of_methodNamed Bd.named Bd.method).1
  have hret : meth.sig.returnType = (some .boolean) := Bd.returns
  have hlk : meth.locks = false := BodyLoose.notSynchronized Bd
  have X0 : Stand p l e ({ frames := 0, cells := 0, slots := 0, locals := 0 } : Room) s m #[(.ref this), (.ref mk)] below meth c T0 [] 0 0 := Stand.of_body Bd
  have e0 : T0.heap = h0 := by rw [← hh, Bd.state]; rfl
  have N0 := Fr.nil n0
  refine own_start (own_ef9 m this mk) (Q := fun (v : Option Value) (h : Heap) (L : List Loc) => v = some (.int (if ((mo 0).toInt64) < (mv 0) then (0 : Int32) else (1 : Int32))) ∧ Fr n0 L ∧ h = h0) (k := 0) (j := 0) ?_
  show own_Go p e below T0 (mkF m 0 #[.val (.ref this), .val (.ref mk), .unset] []) _
  refine own_s_iconst X0.here hx (0 : Int32) (hb hby own_d9_0) rfl ?_
  refine own_s_istoreN X0.here hx #[.val (.ref this), .val (.ref mk), .val (.int (0 : Int32))] (hb hby own_d9_1) rfl ?_
  refine own_s_iloadN X0.here hx (hb hby own_d9_2) rfl ?_
  refine own_s_aloadN X0.here hx (hb hby own_d9_3) rfl rfl ?_
  obtain ⟨T296, X296, e296, st296⟩ := getF X0 hx hZ hown (host := "") (Or.inl (hw _ (List.mem_of_getElem? (i := 30) rfl))) Via.refl e0 F_this_most (g := (mkF m 4 #[.val (.ref this), .val (.ref mk), .val (.int (0 : Int32))] [(.ref this), (.int (0 : Int32))])) rfl rfl (hb hby own_d9_4)
  refine own_by st296 ?_
  show own_Go p e below T296 (mkF m 7 #[.val (.ref this), .val (.ref mk), .val (.int (0 : Int32))] [(.ref am), (.int (0 : Int32))]) _
  refine own_by (fun tq_ kq_ => own_len X296 hx hZ e296 A_am (z := (1 : Int32)) rfl (g := (mkF m 7 #[.val (.ref this), .val (.ref mk), .val (.int (0 : Int32))] [(.ref am), (.int (0 : Int32))])) rfl rfl (hb hby own_d9_7) tq_ kq_) ?_
  show own_Go p e below T296 (mkF m 8 #[.val (.ref this), .val (.ref mk), .val (.int (0 : Int32))] [(.int (1 : Int32)), (.int (0 : Int32))]) _
  refine own_s_icmpNo X296.here hx (hb hby own_d9_8) (Jvm.Free.XT.ii_ge_f ((by decide))) ?_
  refine own_s_aloadN X296.here hx (hb hby own_d9_11) rfl rfl ?_
  refine own_s_iloadN X296.here hx (hb hby own_d9_12) rfl ?_
  refine own_by (fun tq_ kq_ => own_ldJ X296 hx hZ e296 A_mk (k := 0) (v := (.long (mv 0))) (by decide) (by decide) rfl (g := (mkF m 13 #[.val (.ref this), .val (.ref mk), .val (.int (0 : Int32))] [(.int (0 : Int32)), (.ref mk)])) rfl rfl (hb hby own_d9_13) tq_ kq_) ?_
  show own_Go p e below T296 (mkF m 14 #[.val (.ref this), .val (.ref mk), .val (.int (0 : Int32))] [(.long (mv 0))]) _
  refine own_s_aloadN X296.here hx (hb hby own_d9_14) rfl rfl ?_
  obtain ⟨T297, X297, e297, st297⟩ := getF X296 hx hZ hown (host := "") (Or.inl (hw _ (List.mem_of_getElem? (i := 30) rfl))) Via.refl e296 F_this_most (g := (mkF m 15 #[.val (.ref this), .val (.ref mk), .val (.int (0 : Int32))] [(.ref this), (.long (mv 0))])) rfl rfl (hb hby own_d9_15)
  refine own_by st297 ?_
  show own_Go p e below T297 (mkF m 18 #[.val (.ref this), .val (.ref mk), .val (.int (0 : Int32))] [(.ref am), (.long (mv 0))]) _
  refine own_s_iloadN X297.here hx (hb hby own_d9_18) rfl ?_
  refine own_by (fun tq_ kq_ => own_ldI X297 hx hZ e297 A_am (k := 0) (v := (.int (mo 0))) (by decide) (by decide) rfl (g := (mkF m 19 #[.val (.ref this), .val (.ref mk), .val (.int (0 : Int32))] [(.int (0 : Int32)), (.ref am), (.long (mv 0))])) rfl rfl (hb hby own_d9_19) tq_ kq_) ?_
  show own_Go p e below T297 (mkF m 20 #[.val (.ref this), .val (.ref mk), .val (.int (0 : Int32))] [(.int (mo 0)), (.long (mv 0))]) _
  refine own_s_i2l X297.here hx (hb hby own_d9_20) ?_
  refine own_s_lcmp X297.here hx (hb hby own_d9_21) ?_
  by_cases hq0 : ((mo 0).toInt64) < (mv 0)
  ·
    refine own_s_ifNo X297.here hx (hb hby own_d9_22) (Jvm.Free.XT.ll_le_f hq0) ?_
    refine own_s_iconst X297.here hx (0 : Int32) (hb hby own_d9_25) rfl ?_
    refine own_retZ X297 hx hret hlk (hb hby own_d9_26) rfl (by decide) (by decide) ?_
    exact ⟨by rw [if_pos hq0], N0, e297⟩
  ·
    show own_Go p e below T297 (mkF m 22 #[.val (.ref this), .val (.ref mk), .val (.int (0 : Int32))] [(.int (Jvm.Free.XT.cmpL (mv 0) ((mo 0).toInt64)))]) _
    refine own_s_ifYes X297.here hx 27 (hb hby own_d9_22) (Jvm.Free.XT.ll_le_t hq0) (by decide) (by decide) ?_
    refine own_by (fun tq_ kq_ => XS.iinc X297.here hx rfl (hb hby own_d9_27) rfl (l' := #[.val (.ref this), .val (.ref mk), .val (.int ((0 : Int32) + (1 : Int32)))]) rfl kq_) ?_
    show own_Go p e below T297 (mkF m 30 #[.val (.ref this), .val (.ref mk), .val (.int ((0 : Int32) + (1 : Int32)))] []) _
    show own_Go p e below T297 (mkF m 30 #[.val (.ref this), .val (.ref mk), .val (.int (1 : Int32))] []) _
    refine own_s_goto X297.here hx 2 (hb hby own_d9_30) (by decide) (by decide) ?_
    refine own_s_iloadN X297.here hx (hb hby own_d9_2) rfl ?_
    refine own_s_aloadN X297.here hx (hb hby own_d9_3) rfl rfl ?_
    obtain ⟨T298, X298, e298, st298⟩ := getF X297 hx hZ hown (host := "") (Or.inl (hw _ (List.mem_of_getElem? (i := 30) rfl))) Via.refl e297 F_this_most (g := (mkF m 4 #[.val (.ref this), .val (.ref mk), .val (.int (1 : Int32))] [(.ref this), (.int (1 : Int32))])) rfl rfl (hb hby own_d9_4)
    refine own_by st298 ?_
    show own_Go p e below T298 (mkF m 7 #[.val (.ref this), .val (.ref mk), .val (.int (1 : Int32))] [(.ref am), (.int (1 : Int32))]) _
    refine own_by (fun tq_ kq_ => own_len X298 hx hZ e298 A_am (z := (1 : Int32)) rfl (g := (mkF m 7 #[.val (.ref this), .val (.ref mk), .val (.int (1 : Int32))] [(.ref am), (.int (1 : Int32))])) rfl rfl (hb hby own_d9_7) tq_ kq_) ?_
    show own_Go p e below T298 (mkF m 8 #[.val (.ref this), .val (.ref mk), .val (.int (1 : Int32))] [(.int (1 : Int32)), (.int (1 : Int32))]) _
    refine own_s_icmpYes X298.here hx 33 (hb hby own_d9_8) (Jvm.Free.XT.ii_ge_t ((by decide))) (by decide) (by decide) ?_
    refine own_s_iconst X298.here hx (1 : Int32) (hb hby own_d9_33) rfl ?_
    refine own_retZ X298 hx hret hlk (hb hby own_d9_34) rfl (by decide) (by decide) ?_
    exact ⟨by rw [if_neg hq0], N0, e298⟩
def own_q_own_ft2 (Z : State) (this : Addr) (mk : Addr) (am : Addr) (mo : Nat → Int32) (mv : Nat → Int64) (h0 : Heap) (n0 : Nat) (v : Option Value) (h : Heap) (L : List Loc) : Prop := v = some (.int (if ((mo 0).toInt64) < (mv 0) then (0 : Int32) else (if ((mo 1).toInt64) < (mv 1) then (0 : Int32) else (1 : Int32)))) ∧ Fr n0 L ∧ h = h0
set_option maxRecDepth 65536 in
set_option maxHeartbeats 40000000 in
theorem own_ft2 (l : Launch) (Z : State) (a0 : Array Value) (hw : ∀ d ∈ tables_1, d.before a0 Z = true) (ws : List Jvm.Cond) (this : Addr) (mk : Addr) (am : Addr) (mo : Nat → Int32) (mv : Nat → Int64) (h0 : Heap) (n0 : Nat) (Z0 : n0 ≤ h0.size) (F_this_most : Fld Z h0 this "com/example/lapse/lapse/MarkingCode" "most" "[I" (.ref am)) (A_am : own_Av Z h0 am .int 2 (fun j => .int (mo j))) (A_mk : own_Av Z h0 mk .long 3 (fun j => .long (mv j))) :
    MetFree l (⟨"com/example/lapse/lapse/MarkingCode", "fits", "([J)Z"⟩ : MethodName) (head1 (Jvm.Cond.code (⟨"com/example/lapse/lapse/MarkingCode", "fits", "([J)Z"⟩ : MethodName) prog_21_method_4_code 3 (some .boolean) :: ws) ({ frames := 0, cells := 0, slots := 0, locals := 0 } : Room)) (fun aq Uq => aq = #[(.ref this), (.ref mk)] ∧ Z.Warmed39 Uq.vm ∧ Uq.heap = h0) (fun _ _ _ _ _ => True) (fun _ Uq oq Uq' => ∃ vq Lq, oq = .returned vq ∧ own_q_own_ft2 Z this mk am mo mv h0 n0 vq Uq'.heap Lq ∧ FrameEnd Uq oq Uq' Lq ({ frames := 0, cells := 0, slots := 0, locals := 0 } : Room).cells ({ frames := 0, cells := 0, slots := 0, locals := 0 } : Room).slots) := by
  refine MetFree.of_bodySF (plainFor_of_name own_pn_MarkingCode) hisR ?_
  intro p e s m args below meth c T0 Bd hml0 hP hK
  obtain ⟨rfl, hZ, hh⟩ := hP
  have hx := Bd.exec
  have hby := Bd.bytes
  have hml : c.maxLocals = 3 := hml0
  have hown : s.vm.findClass "com/example/lapse/lapse/MarkingCode" = some m.cls := findClass_of_methodNamed Bd.named
  have hnm := (name_of_methodNamed Bd.named Bd.method).1
  have hret : meth.sig.returnType = (some .boolean) := Bd.returns
  have hlk : meth.locks = false := BodyLoose.notSynchronized Bd
  have X0 : Stand p l e ({ frames := 0, cells := 0, slots := 0, locals := 0 } : Room) s m #[(.ref this), (.ref mk)] below meth c T0 [] 0 0 := Stand.of_body Bd
  have e0 : T0.heap = h0 := by rw [← hh, Bd.state]; rfl
  have N0 := Fr.nil n0
  refine own_start (own_ef9 m this mk) (Q := fun (v : Option Value) (h : Heap) (L : List Loc) => v = some (.int (if ((mo 0).toInt64) < (mv 0) then (0 : Int32) else (if ((mo 1).toInt64) < (mv 1) then (0 : Int32) else (1 : Int32)))) ∧ Fr n0 L ∧ h = h0) (k := 0) (j := 0) ?_
  show own_Go p e below T0 (mkF m 0 #[.val (.ref this), .val (.ref mk), .unset] []) _
  refine own_s_iconst X0.here hx (0 : Int32) (hb hby own_d9_0) rfl ?_
  refine own_s_istoreN X0.here hx #[.val (.ref this), .val (.ref mk), .val (.int (0 : Int32))] (hb hby own_d9_1) rfl ?_
  refine own_s_iloadN X0.here hx (hb hby own_d9_2) rfl ?_
  refine own_s_aloadN X0.here hx (hb hby own_d9_3) rfl rfl ?_
  obtain ⟨T299, X299, e299, st299⟩ := getF X0 hx hZ hown (host := "") (Or.inl (hw _ (List.mem_of_getElem? (i := 30) rfl))) Via.refl e0 F_this_most (g := (mkF m 4 #[.val (.ref this), .val (.ref mk), .val (.int (0 : Int32))] [(.ref this), (.int (0 : Int32))])) rfl rfl (hb hby own_d9_4)
  refine own_by st299 ?_
  show own_Go p e below T299 (mkF m 7 #[.val (.ref this), .val (.ref mk), .val (.int (0 : Int32))] [(.ref am), (.int (0 : Int32))]) _
  refine own_by (fun tq_ kq_ => own_len X299 hx hZ e299 A_am (z := (2 : Int32)) rfl (g := (mkF m 7 #[.val (.ref this), .val (.ref mk), .val (.int (0 : Int32))] [(.ref am), (.int (0 : Int32))])) rfl rfl (hb hby own_d9_7) tq_ kq_) ?_
  show own_Go p e below T299 (mkF m 8 #[.val (.ref this), .val (.ref mk), .val (.int (0 : Int32))] [(.int (2 : Int32)), (.int (0 : Int32))]) _
  refine own_s_icmpNo X299.here hx (hb hby own_d9_8) (Jvm.Free.XT.ii_ge_f ((by decide))) ?_
  refine own_s_aloadN X299.here hx (hb hby own_d9_11) rfl rfl ?_
  refine own_s_iloadN X299.here hx (hb hby own_d9_12) rfl ?_
  refine own_by (fun tq_ kq_ => own_ldJ X299 hx hZ e299 A_mk (k := 0) (v := (.long (mv 0))) (by decide) (by decide) rfl (g := (mkF m 13 #[.val (.ref this), .val (.ref mk), .val (.int (0 : Int32))] [(.int (0 : Int32)), (.ref mk)])) rfl rfl (hb hby own_d9_13) tq_ kq_) ?_
  show own_Go p e below T299 (mkF m 14 #[.val (.ref this), .val (.ref mk), .val (.int (0 : Int32))] [(.long (mv 0))]) _
  refine own_s_aloadN X299.here hx (hb hby own_d9_14) rfl rfl ?_
  obtain ⟨T300, X300, e300, st300⟩ := getF X299 hx hZ hown (host := "") (Or.inl (hw _ (List.mem_of_getElem? (i := 30) rfl))) Via.refl e299 F_this_most (g := (mkF m 15 #[.val (.ref this), .val (.ref mk), .val (.int (0 : Int32))] [(.ref this), (.long (mv 0))])) rfl rfl (hb hby own_d9_15)
  refine own_by st300 ?_
  show own_Go p e below T300 (mkF m 18 #[.val (.ref this), .val (.ref mk), .val (.int (0 : Int32))] [(.ref am), (.long (mv 0))]) _
  refine own_s_iloadN X300.here hx (hb hby own_d9_18) rfl ?_
  refine own_by (fun tq_ kq_ => own_ldI X300 hx hZ e300 A_am (k := 0) (v := (.int (mo 0))) (by decide) (by decide) rfl (g := (mkF m 19 #[.val (.ref this), .val (.ref mk), .val (.int (0 : Int32))] [(.int (0 : Int32)), (.ref am), (.long (mv 0))])) rfl rfl (hb hby own_d9_19) tq_ kq_) ?_
  show own_Go p e below T300 (mkF m 20 #[.val (.ref this), .val (.ref mk), .val (.int (0 : Int32))] [(.int (mo 0)), (.long (mv 0))]) _
  refine own_s_i2l X300.here hx (hb hby own_d9_20) ?_
  refine own_s_lcmp X300.here hx (hb hby own_d9_21) ?_
  by_cases hq0 : ((mo 0).toInt64) < (mv 0)
  ·
    refine own_s_ifNo X300.here hx (hb hby own_d9_22) (Jvm.Free.XT.ll_le_f hq0) ?_
    refine own_s_iconst X300.here hx (0 : Int32) (hb hby own_d9_25) rfl ?_
    refine own_retZ X300 hx hret hlk (hb hby own_d9_26) rfl (by decide) (by decide) ?_
    exact ⟨by rw [if_pos hq0], N0, e300⟩
  ·
    show own_Go p e below T300 (mkF m 22 #[.val (.ref this), .val (.ref mk), .val (.int (0 : Int32))] [(.int (Jvm.Free.XT.cmpL (mv 0) ((mo 0).toInt64)))]) _
    refine own_s_ifYes X300.here hx 27 (hb hby own_d9_22) (Jvm.Free.XT.ll_le_t hq0) (by decide) (by decide) ?_
    refine own_by (fun tq_ kq_ => XS.iinc X300.here hx rfl (hb hby own_d9_27) rfl (l' := #[.val (.ref this), .val (.ref mk), .val (.int ((0 : Int32) + (1 : Int32)))]) rfl kq_) ?_
    show own_Go p e below T300 (mkF m 30 #[.val (.ref this), .val (.ref mk), .val (.int ((0 : Int32) + (1 : Int32)))] []) _
    show own_Go p e below T300 (mkF m 30 #[.val (.ref this), .val (.ref mk), .val (.int (1 : Int32))] []) _
    refine own_s_goto X300.here hx 2 (hb hby own_d9_30) (by decide) (by decide) ?_
    refine own_s_iloadN X300.here hx (hb hby own_d9_2) rfl ?_
    refine own_s_aloadN X300.here hx (hb hby own_d9_3) rfl rfl ?_
    obtain ⟨T301, X301, e301, st301⟩ := getF X300 hx hZ hown (host := "") (Or.inl (hw _ (List.mem_of_getElem? (i := 30) rfl))) Via.refl e300 F_this_most (g := (mkF m 4 #[.val (.ref this), .val (.ref mk), .val (.int (1 : Int32))] [(.ref this), (.int (1 : Int32))])) rfl rfl (hb hby own_d9_4)
    refine own_by st301 ?_
    show own_Go p e below T301 (mkF m 7 #[.val (.ref this), .val (.ref mk), .val (.int (1 : Int32))] [(.ref am), (.int (1 : Int32))]) _
    refine own_by (fun tq_ kq_ => own_len X301 hx hZ e301 A_am (z := (2 : Int32)) rfl (g := (mkF m 7 #[.val (.ref this), .val (.ref mk), .val (.int (1 : Int32))] [(.ref am), (.int (1 : Int32))])) rfl rfl (hb hby own_d9_7) tq_ kq_) ?_
    show own_Go p e below T301 (mkF m 8 #[.val (.ref this), .val (.ref mk), .val (.int (1 : Int32))] [(.int (2 : Int32)), (.int (1 : Int32))]) _
    refine own_s_icmpNo X301.here hx (hb hby own_d9_8) (Jvm.Free.XT.ii_ge_f ((by decide))) ?_
    refine own_s_aloadN X301.here hx (hb hby own_d9_11) rfl rfl ?_
    refine own_s_iloadN X301.here hx (hb hby own_d9_12) rfl ?_
    refine own_by (fun tq_ kq_ => own_ldJ X301 hx hZ e301 A_mk (k := 1) (v := (.long (mv 1))) (by decide) (by decide) rfl (g := (mkF m 13 #[.val (.ref this), .val (.ref mk), .val (.int (1 : Int32))] [(.int (1 : Int32)), (.ref mk)])) rfl rfl (hb hby own_d9_13) tq_ kq_) ?_
    show own_Go p e below T301 (mkF m 14 #[.val (.ref this), .val (.ref mk), .val (.int (1 : Int32))] [(.long (mv 1))]) _
    refine own_s_aloadN X301.here hx (hb hby own_d9_14) rfl rfl ?_
    obtain ⟨T302, X302, e302, st302⟩ := getF X301 hx hZ hown (host := "") (Or.inl (hw _ (List.mem_of_getElem? (i := 30) rfl))) Via.refl e301 F_this_most (g := (mkF m 15 #[.val (.ref this), .val (.ref mk), .val (.int (1 : Int32))] [(.ref this), (.long (mv 1))])) rfl rfl (hb hby own_d9_15)
    refine own_by st302 ?_
    show own_Go p e below T302 (mkF m 18 #[.val (.ref this), .val (.ref mk), .val (.int (1 : Int32))] [(.ref am), (.long (mv 1))]) _
    refine own_s_iloadN X302.here hx (hb hby own_d9_18) rfl ?_
    refine own_by (fun tq_ kq_ => own_ldI X302 hx hZ e302 A_am (k := 1) (v := (.int (mo 1))) (by decide) (by decide) rfl (g := (mkF m 19 #[.val (.ref this), .val (.ref mk), .val (.int (1 : Int32))] [(.int (1 : Int32)), (.ref am), (.long (mv 1))])) rfl rfl (hb hby own_d9_19) tq_ kq_) ?_
    show own_Go p e below T302 (mkF m 20 #[.val (.ref this), .val (.ref mk), .val (.int (1 : Int32))] [(.int (mo 1)), (.long (mv 1))]) _
    refine own_s_i2l X302.here hx (hb hby own_d9_20) ?_
    refine own_s_lcmp X302.here hx (hb hby own_d9_21) ?_
    by_cases hq1 : ((mo 1).toInt64) < (mv 1)
    ·
      refine own_s_ifNo X302.here hx (hb hby own_d9_22) (Jvm.Free.XT.ll_le_f hq1) ?_
      refine own_s_iconst X302.here hx (0 : Int32) (hb hby own_d9_25) rfl ?_
      refine own_retZ X302 hx hret hlk (hb hby own_d9_26) rfl (by decide) (by decide) ?_
      exact ⟨by rw [if_neg hq0, if_pos hq1], N0, e302⟩
    ·
      show own_Go p e below T302 (mkF m 22 #[.val (.ref this), .val (.ref mk), .val (.int (1 : Int32))] [(.int (Jvm.Free.XT.cmpL (mv 1) ((mo 1).toInt64)))]) _
      refine own_s_ifYes X302.here hx 27 (hb hby own_d9_22) (Jvm.Free.XT.ll_le_t hq1) (by decide) (by decide) ?_
      refine own_by (fun tq_ kq_ => XS.iinc X302.here hx rfl (hb hby own_d9_27) rfl (l' := #[.val (.ref this), .val (.ref mk), .val (.int ((1 : Int32) + (1 : Int32)))]) rfl kq_) ?_
      show own_Go p e below T302 (mkF m 30 #[.val (.ref this), .val (.ref mk), .val (.int ((1 : Int32) + (1 : Int32)))] []) _
      show own_Go p e below T302 (mkF m 30 #[.val (.ref this), .val (.ref mk), .val (.int (2 : Int32))] []) _
      refine own_s_goto X302.here hx 2 (hb hby own_d9_30) (by decide) (by decide) ?_
      refine own_s_iloadN X302.here hx (hb hby own_d9_2) rfl ?_
      refine own_s_aloadN X302.here hx (hb hby own_d9_3) rfl rfl ?_
      obtain ⟨T303, X303, e303, st303⟩ := getF X302 hx hZ hown (host := "") (Or.inl (hw _ (List.mem_of_getElem? (i := 30) rfl))) Via.refl e302 F_this_most (g := (mkF m 4 #[.val (.ref this), .val (.ref mk), .val (.int (2 : Int32))] [(.ref this), (.int (2 : Int32))])) rfl rfl (hb hby own_d9_4)
      refine own_by st303 ?_
      show own_Go p e below T303 (mkF m 7 #[.val (.ref this), .val (.ref mk), .val (.int (2 : Int32))] [(.ref am), (.int (2 : Int32))]) _
      refine own_by (fun tq_ kq_ => own_len X303 hx hZ e303 A_am (z := (2 : Int32)) rfl (g := (mkF m 7 #[.val (.ref this), .val (.ref mk), .val (.int (2 : Int32))] [(.ref am), (.int (2 : Int32))])) rfl rfl (hb hby own_d9_7) tq_ kq_) ?_
      show own_Go p e below T303 (mkF m 8 #[.val (.ref this), .val (.ref mk), .val (.int (2 : Int32))] [(.int (2 : Int32)), (.int (2 : Int32))]) _
      refine own_s_icmpYes X303.here hx 33 (hb hby own_d9_8) (Jvm.Free.XT.ii_ge_t ((by decide))) (by decide) (by decide) ?_
      refine own_s_iconst X303.here hx (1 : Int32) (hb hby own_d9_33) rfl ?_
      refine own_retZ X303 hx hret hlk (hb hby own_d9_34) rfl (by decide) (by decide) ?_
      exact ⟨by rw [if_neg hq0, if_neg hq1], N0, e303⟩
def own_q_own_ft3 (Z : State) (this : Addr) (mk : Addr) (am : Addr) (mo : Nat → Int32) (mv : Nat → Int64) (h0 : Heap) (n0 : Nat) (v : Option Value) (h : Heap) (L : List Loc) : Prop := v = some (.int (if ((mo 0).toInt64) < (mv 0) then (0 : Int32) else (if ((mo 1).toInt64) < (mv 1) then (0 : Int32) else (if ((mo 2).toInt64) < (mv 2) then (0 : Int32) else (1 : Int32))))) ∧ Fr n0 L ∧ h = h0
set_option maxRecDepth 65536 in
set_option maxHeartbeats 40000000 in
theorem own_ft3 (l : Launch) (Z : State) (a0 : Array Value) (hw : ∀ d ∈ tables_1, d.before a0 Z = true) (ws : List Jvm.Cond) (this : Addr) (mk : Addr) (am : Addr) (mo : Nat → Int32) (mv : Nat → Int64) (h0 : Heap) (n0 : Nat) (Z0 : n0 ≤ h0.size) (F_this_most : Fld Z h0 this "com/example/lapse/lapse/MarkingCode" "most" "[I" (.ref am)) (A_am : own_Av Z h0 am .int 3 (fun j => .int (mo j))) (A_mk : own_Av Z h0 mk .long 3 (fun j => .long (mv j))) :
    MetFree l (⟨"com/example/lapse/lapse/MarkingCode", "fits", "([J)Z"⟩ : MethodName) (head1 (Jvm.Cond.code (⟨"com/example/lapse/lapse/MarkingCode", "fits", "([J)Z"⟩ : MethodName) prog_21_method_4_code 3 (some .boolean) :: ws) ({ frames := 0, cells := 0, slots := 0, locals := 0 } : Room)) (fun aq Uq => aq = #[(.ref this), (.ref mk)] ∧ Z.Warmed39 Uq.vm ∧ Uq.heap = h0) (fun _ _ _ _ _ => True) (fun _ Uq oq Uq' => ∃ vq Lq, oq = .returned vq ∧ own_q_own_ft3 Z this mk am mo mv h0 n0 vq Uq'.heap Lq ∧ FrameEnd Uq oq Uq' Lq ({ frames := 0, cells := 0, slots := 0, locals := 0 } : Room).cells ({ frames := 0, cells := 0, slots := 0, locals := 0 } : Room).slots) := by
  refine MetFree.of_bodySF (plainFor_of_name own_pn_MarkingCode) hisR ?_
  intro p e s m args below meth c T0 Bd hml0 hP hK
  obtain ⟨rfl, hZ, hh⟩ := hP
  have hx := Bd.exec
  have hby := Bd.bytes
  have hml : c.maxLocals = 3 := hml0
  have hown : s.vm.findClass "com/example/lapse/lapse/MarkingCode" = some m.cls := findClass_of_methodNamed Bd.named
  have hnm := (name_of_methodNamed Bd.named Bd.method).1
  have hret : meth.sig.returnType = (some .boolean) := Bd.returns
  have hlk : meth.locks = false := BodyLoose.notSynchronized Bd
  have X0 : Stand p l e ({ frames := 0, cells := 0, slots := 0, locals := 0 } : Room) s m #[(.ref this), (.ref mk)] below meth c T0 [] 0 0 := Stand.of_body Bd
  have e0 : T0.heap = h0 := by rw [← hh, Bd.state]; rfl
  have N0 := Fr.nil n0
  refine own_start (own_ef9 m this mk) (Q := fun (v : Option Value) (h : Heap) (L : List Loc) => v = some (.int (if ((mo 0).toInt64) < (mv 0) then (0 : Int32) else (if ((mo 1).toInt64) < (mv 1) then (0 : Int32) else (if ((mo 2).toInt64) < (mv 2) then (0 : Int32) else (1 : Int32))))) ∧ Fr n0 L ∧ h = h0) (k := 0) (j := 0) ?_
  show own_Go p e below T0 (mkF m 0 #[.val (.ref this), .val (.ref mk), .unset] []) _
  refine own_s_iconst X0.here hx (0 : Int32) (hb hby own_d9_0) rfl ?_
  refine own_s_istoreN X0.here hx #[.val (.ref this), .val (.ref mk), .val (.int (0 : Int32))] (hb hby own_d9_1) rfl ?_
  refine own_s_iloadN X0.here hx (hb hby own_d9_2) rfl ?_
  refine own_s_aloadN X0.here hx (hb hby own_d9_3) rfl rfl ?_
  obtain ⟨T304, X304, e304, st304⟩ := getF X0 hx hZ hown (host := "") (Or.inl (hw _ (List.mem_of_getElem? (i := 30) rfl))) Via.refl e0 F_this_most (g := (mkF m 4 #[.val (.ref this), .val (.ref mk), .val (.int (0 : Int32))] [(.ref this), (.int (0 : Int32))])) rfl rfl (hb hby own_d9_4)
  refine own_by st304 ?_
  show own_Go p e below T304 (mkF m 7 #[.val (.ref this), .val (.ref mk), .val (.int (0 : Int32))] [(.ref am), (.int (0 : Int32))]) _
  refine own_by (fun tq_ kq_ => own_len X304 hx hZ e304 A_am (z := (3 : Int32)) rfl (g := (mkF m 7 #[.val (.ref this), .val (.ref mk), .val (.int (0 : Int32))] [(.ref am), (.int (0 : Int32))])) rfl rfl (hb hby own_d9_7) tq_ kq_) ?_
  show own_Go p e below T304 (mkF m 8 #[.val (.ref this), .val (.ref mk), .val (.int (0 : Int32))] [(.int (3 : Int32)), (.int (0 : Int32))]) _
  refine own_s_icmpNo X304.here hx (hb hby own_d9_8) (Jvm.Free.XT.ii_ge_f ((by decide))) ?_
  refine own_s_aloadN X304.here hx (hb hby own_d9_11) rfl rfl ?_
  refine own_s_iloadN X304.here hx (hb hby own_d9_12) rfl ?_
  refine own_by (fun tq_ kq_ => own_ldJ X304 hx hZ e304 A_mk (k := 0) (v := (.long (mv 0))) (by decide) (by decide) rfl (g := (mkF m 13 #[.val (.ref this), .val (.ref mk), .val (.int (0 : Int32))] [(.int (0 : Int32)), (.ref mk)])) rfl rfl (hb hby own_d9_13) tq_ kq_) ?_
  show own_Go p e below T304 (mkF m 14 #[.val (.ref this), .val (.ref mk), .val (.int (0 : Int32))] [(.long (mv 0))]) _
  refine own_s_aloadN X304.here hx (hb hby own_d9_14) rfl rfl ?_
  obtain ⟨T305, X305, e305, st305⟩ := getF X304 hx hZ hown (host := "") (Or.inl (hw _ (List.mem_of_getElem? (i := 30) rfl))) Via.refl e304 F_this_most (g := (mkF m 15 #[.val (.ref this), .val (.ref mk), .val (.int (0 : Int32))] [(.ref this), (.long (mv 0))])) rfl rfl (hb hby own_d9_15)
  refine own_by st305 ?_
  show own_Go p e below T305 (mkF m 18 #[.val (.ref this), .val (.ref mk), .val (.int (0 : Int32))] [(.ref am), (.long (mv 0))]) _
  refine own_s_iloadN X305.here hx (hb hby own_d9_18) rfl ?_
  refine own_by (fun tq_ kq_ => own_ldI X305 hx hZ e305 A_am (k := 0) (v := (.int (mo 0))) (by decide) (by decide) rfl (g := (mkF m 19 #[.val (.ref this), .val (.ref mk), .val (.int (0 : Int32))] [(.int (0 : Int32)), (.ref am), (.long (mv 0))])) rfl rfl (hb hby own_d9_19) tq_ kq_) ?_
  show own_Go p e below T305 (mkF m 20 #[.val (.ref this), .val (.ref mk), .val (.int (0 : Int32))] [(.int (mo 0)), (.long (mv 0))]) _
  refine own_s_i2l X305.here hx (hb hby own_d9_20) ?_
  refine own_s_lcmp X305.here hx (hb hby own_d9_21) ?_
  by_cases hq0 : ((mo 0).toInt64) < (mv 0)
  ·
    refine own_s_ifNo X305.here hx (hb hby own_d9_22) (Jvm.Free.XT.ll_le_f hq0) ?_
    refine own_s_iconst X305.here hx (0 : Int32) (hb hby own_d9_25) rfl ?_
    refine own_retZ X305 hx hret hlk (hb hby own_d9_26) rfl (by decide) (by decide) ?_
    exact ⟨by rw [if_pos hq0], N0, e305⟩
  ·
    show own_Go p e below T305 (mkF m 22 #[.val (.ref this), .val (.ref mk), .val (.int (0 : Int32))] [(.int (Jvm.Free.XT.cmpL (mv 0) ((mo 0).toInt64)))]) _
    refine own_s_ifYes X305.here hx 27 (hb hby own_d9_22) (Jvm.Free.XT.ll_le_t hq0) (by decide) (by decide) ?_
    refine own_by (fun tq_ kq_ => XS.iinc X305.here hx rfl (hb hby own_d9_27) rfl (l' := #[.val (.ref this), .val (.ref mk), .val (.int ((0 : Int32) + (1 : Int32)))]) rfl kq_) ?_
    show own_Go p e below T305 (mkF m 30 #[.val (.ref this), .val (.ref mk), .val (.int ((0 : Int32) + (1 : Int32)))] []) _
    show own_Go p e below T305 (mkF m 30 #[.val (.ref this), .val (.ref mk), .val (.int (1 : Int32))] []) _
    refine own_s_goto X305.here hx 2 (hb hby own_d9_30) (by decide) (by decide) ?_
    refine own_s_iloadN X305.here hx (hb hby own_d9_2) rfl ?_
    refine own_s_aloadN X305.here hx (hb hby own_d9_3) rfl rfl ?_
    obtain ⟨T306, X306, e306, st306⟩ := getF X305 hx hZ hown (host := "") (Or.inl (hw _ (List.mem_of_getElem? (i := 30) rfl))) Via.refl e305 F_this_most (g := (mkF m 4 #[.val (.ref this), .val (.ref mk), .val (.int (1 : Int32))] [(.ref this), (.int (1 : Int32))])) rfl rfl (hb hby own_d9_4)
    refine own_by st306 ?_
    show own_Go p e below T306 (mkF m 7 #[.val (.ref this), .val (.ref mk), .val (.int (1 : Int32))] [(.ref am), (.int (1 : Int32))]) _
    refine own_by (fun tq_ kq_ => own_len X306 hx hZ e306 A_am (z := (3 : Int32)) rfl (g := (mkF m 7 #[.val (.ref this), .val (.ref mk), .val (.int (1 : Int32))] [(.ref am), (.int (1 : Int32))])) rfl rfl (hb hby own_d9_7) tq_ kq_) ?_
    show own_Go p e below T306 (mkF m 8 #[.val (.ref this), .val (.ref mk), .val (.int (1 : Int32))] [(.int (3 : Int32)), (.int (1 : Int32))]) _
    refine own_s_icmpNo X306.here hx (hb hby own_d9_8) (Jvm.Free.XT.ii_ge_f ((by decide))) ?_
    refine own_s_aloadN X306.here hx (hb hby own_d9_11) rfl rfl ?_
    refine own_s_iloadN X306.here hx (hb hby own_d9_12) rfl ?_
    refine own_by (fun tq_ kq_ => own_ldJ X306 hx hZ e306 A_mk (k := 1) (v := (.long (mv 1))) (by decide) (by decide) rfl (g := (mkF m 13 #[.val (.ref this), .val (.ref mk), .val (.int (1 : Int32))] [(.int (1 : Int32)), (.ref mk)])) rfl rfl (hb hby own_d9_13) tq_ kq_) ?_
    show own_Go p e below T306 (mkF m 14 #[.val (.ref this), .val (.ref mk), .val (.int (1 : Int32))] [(.long (mv 1))]) _
    refine own_s_aloadN X306.here hx (hb hby own_d9_14) rfl rfl ?_
    obtain ⟨T307, X307, e307, st307⟩ := getF X306 hx hZ hown (host := "") (Or.inl (hw _ (List.mem_of_getElem? (i := 30) rfl))) Via.refl e306 F_this_most (g := (mkF m 15 #[.val (.ref this), .val (.ref mk), .val (.int (1 : Int32))] [(.ref this), (.long (mv 1))])) rfl rfl (hb hby own_d9_15)
    refine own_by st307 ?_
    show own_Go p e below T307 (mkF m 18 #[.val (.ref this), .val (.ref mk), .val (.int (1 : Int32))] [(.ref am), (.long (mv 1))]) _
    refine own_s_iloadN X307.here hx (hb hby own_d9_18) rfl ?_
    refine own_by (fun tq_ kq_ => own_ldI X307 hx hZ e307 A_am (k := 1) (v := (.int (mo 1))) (by decide) (by decide) rfl (g := (mkF m 19 #[.val (.ref this), .val (.ref mk), .val (.int (1 : Int32))] [(.int (1 : Int32)), (.ref am), (.long (mv 1))])) rfl rfl (hb hby own_d9_19) tq_ kq_) ?_
    show own_Go p e below T307 (mkF m 20 #[.val (.ref this), .val (.ref mk), .val (.int (1 : Int32))] [(.int (mo 1)), (.long (mv 1))]) _
    refine own_s_i2l X307.here hx (hb hby own_d9_20) ?_
    refine own_s_lcmp X307.here hx (hb hby own_d9_21) ?_
    by_cases hq1 : ((mo 1).toInt64) < (mv 1)
    ·
      refine own_s_ifNo X307.here hx (hb hby own_d9_22) (Jvm.Free.XT.ll_le_f hq1) ?_
      refine own_s_iconst X307.here hx (0 : Int32) (hb hby own_d9_25) rfl ?_
      refine own_retZ X307 hx hret hlk (hb hby own_d9_26) rfl (by decide) (by decide) ?_
      exact ⟨by rw [if_neg hq0, if_pos hq1], N0, e307⟩
    ·
      show own_Go p e below T307 (mkF m 22 #[.val (.ref this), .val (.ref mk), .val (.int (1 : Int32))] [(.int (Jvm.Free.XT.cmpL (mv 1) ((mo 1).toInt64)))]) _
      refine own_s_ifYes X307.here hx 27 (hb hby own_d9_22) (Jvm.Free.XT.ll_le_t hq1) (by decide) (by decide) ?_
      refine own_by (fun tq_ kq_ => XS.iinc X307.here hx rfl (hb hby own_d9_27) rfl (l' := #[.val (.ref this), .val (.ref mk), .val (.int ((1 : Int32) + (1 : Int32)))]) rfl kq_) ?_
      show own_Go p e below T307 (mkF m 30 #[.val (.ref this), .val (.ref mk), .val (.int ((1 : Int32) + (1 : Int32)))] []) _
      show own_Go p e below T307 (mkF m 30 #[.val (.ref this), .val (.ref mk), .val (.int (2 : Int32))] []) _
      refine own_s_goto X307.here hx 2 (hb hby own_d9_30) (by decide) (by decide) ?_
      refine own_s_iloadN X307.here hx (hb hby own_d9_2) rfl ?_
      refine own_s_aloadN X307.here hx (hb hby own_d9_3) rfl rfl ?_
      obtain ⟨T308, X308, e308, st308⟩ := getF X307 hx hZ hown (host := "") (Or.inl (hw _ (List.mem_of_getElem? (i := 30) rfl))) Via.refl e307 F_this_most (g := (mkF m 4 #[.val (.ref this), .val (.ref mk), .val (.int (2 : Int32))] [(.ref this), (.int (2 : Int32))])) rfl rfl (hb hby own_d9_4)
      refine own_by st308 ?_
      show own_Go p e below T308 (mkF m 7 #[.val (.ref this), .val (.ref mk), .val (.int (2 : Int32))] [(.ref am), (.int (2 : Int32))]) _
      refine own_by (fun tq_ kq_ => own_len X308 hx hZ e308 A_am (z := (3 : Int32)) rfl (g := (mkF m 7 #[.val (.ref this), .val (.ref mk), .val (.int (2 : Int32))] [(.ref am), (.int (2 : Int32))])) rfl rfl (hb hby own_d9_7) tq_ kq_) ?_
      show own_Go p e below T308 (mkF m 8 #[.val (.ref this), .val (.ref mk), .val (.int (2 : Int32))] [(.int (3 : Int32)), (.int (2 : Int32))]) _
      refine own_s_icmpNo X308.here hx (hb hby own_d9_8) (Jvm.Free.XT.ii_ge_f ((by decide))) ?_
      refine own_s_aloadN X308.here hx (hb hby own_d9_11) rfl rfl ?_
      refine own_s_iloadN X308.here hx (hb hby own_d9_12) rfl ?_
      refine own_by (fun tq_ kq_ => own_ldJ X308 hx hZ e308 A_mk (k := 2) (v := (.long (mv 2))) (by decide) (by decide) rfl (g := (mkF m 13 #[.val (.ref this), .val (.ref mk), .val (.int (2 : Int32))] [(.int (2 : Int32)), (.ref mk)])) rfl rfl (hb hby own_d9_13) tq_ kq_) ?_
      show own_Go p e below T308 (mkF m 14 #[.val (.ref this), .val (.ref mk), .val (.int (2 : Int32))] [(.long (mv 2))]) _
      refine own_s_aloadN X308.here hx (hb hby own_d9_14) rfl rfl ?_
      obtain ⟨T309, X309, e309, st309⟩ := getF X308 hx hZ hown (host := "") (Or.inl (hw _ (List.mem_of_getElem? (i := 30) rfl))) Via.refl e308 F_this_most (g := (mkF m 15 #[.val (.ref this), .val (.ref mk), .val (.int (2 : Int32))] [(.ref this), (.long (mv 2))])) rfl rfl (hb hby own_d9_15)
      refine own_by st309 ?_
      show own_Go p e below T309 (mkF m 18 #[.val (.ref this), .val (.ref mk), .val (.int (2 : Int32))] [(.ref am), (.long (mv 2))]) _
      refine own_s_iloadN X309.here hx (hb hby own_d9_18) rfl ?_
      refine own_by (fun tq_ kq_ => own_ldI X309 hx hZ e309 A_am (k := 2) (v := (.int (mo 2))) (by decide) (by decide) rfl (g := (mkF m 19 #[.val (.ref this), .val (.ref mk), .val (.int (2 : Int32))] [(.int (2 : Int32)), (.ref am), (.long (mv 2))])) rfl rfl (hb hby own_d9_19) tq_ kq_) ?_
      show own_Go p e below T309 (mkF m 20 #[.val (.ref this), .val (.ref mk), .val (.int (2 : Int32))] [(.int (mo 2)), (.long (mv 2))]) _
      refine own_s_i2l X309.here hx (hb hby own_d9_20) ?_
      refine own_s_lcmp X309.here hx (hb hby own_d9_21) ?_
      by_cases hq2 : ((mo 2).toInt64) < (mv 2)
      ·
        refine own_s_ifNo X309.here hx (hb hby own_d9_22) (Jvm.Free.XT.ll_le_f hq2) ?_
        refine own_s_iconst X309.here hx (0 : Int32) (hb hby own_d9_25) rfl ?_
        refine own_retZ X309 hx hret hlk (hb hby own_d9_26) rfl (by decide) (by decide) ?_
        exact ⟨by rw [if_neg hq0, if_neg hq1, if_pos hq2], N0, e309⟩
      ·
        show own_Go p e below T309 (mkF m 22 #[.val (.ref this), .val (.ref mk), .val (.int (2 : Int32))] [(.int (Jvm.Free.XT.cmpL (mv 2) ((mo 2).toInt64)))]) _
        refine own_s_ifYes X309.here hx 27 (hb hby own_d9_22) (Jvm.Free.XT.ll_le_t hq2) (by decide) (by decide) ?_
        refine own_by (fun tq_ kq_ => XS.iinc X309.here hx rfl (hb hby own_d9_27) rfl (l' := #[.val (.ref this), .val (.ref mk), .val (.int ((2 : Int32) + (1 : Int32)))]) rfl kq_) ?_
        show own_Go p e below T309 (mkF m 30 #[.val (.ref this), .val (.ref mk), .val (.int ((2 : Int32) + (1 : Int32)))] []) _
        show own_Go p e below T309 (mkF m 30 #[.val (.ref this), .val (.ref mk), .val (.int (3 : Int32))] []) _
        refine own_s_goto X309.here hx 2 (hb hby own_d9_30) (by decide) (by decide) ?_
        refine own_s_iloadN X309.here hx (hb hby own_d9_2) rfl ?_
        refine own_s_aloadN X309.here hx (hb hby own_d9_3) rfl rfl ?_
        obtain ⟨T310, X310, e310, st310⟩ := getF X309 hx hZ hown (host := "") (Or.inl (hw _ (List.mem_of_getElem? (i := 30) rfl))) Via.refl e309 F_this_most (g := (mkF m 4 #[.val (.ref this), .val (.ref mk), .val (.int (3 : Int32))] [(.ref this), (.int (3 : Int32))])) rfl rfl (hb hby own_d9_4)
        refine own_by st310 ?_
        show own_Go p e below T310 (mkF m 7 #[.val (.ref this), .val (.ref mk), .val (.int (3 : Int32))] [(.ref am), (.int (3 : Int32))]) _
        refine own_by (fun tq_ kq_ => own_len X310 hx hZ e310 A_am (z := (3 : Int32)) rfl (g := (mkF m 7 #[.val (.ref this), .val (.ref mk), .val (.int (3 : Int32))] [(.ref am), (.int (3 : Int32))])) rfl rfl (hb hby own_d9_7) tq_ kq_) ?_
        show own_Go p e below T310 (mkF m 8 #[.val (.ref this), .val (.ref mk), .val (.int (3 : Int32))] [(.int (3 : Int32)), (.int (3 : Int32))]) _
        refine own_s_icmpYes X310.here hx 33 (hb hby own_d9_8) (Jvm.Free.XT.ii_ge_t ((by decide))) (by decide) (by decide) ?_
        refine own_s_iconst X310.here hx (1 : Int32) (hb hby own_d9_33) rfl ?_
        refine own_retZ X310 hx hret hlk (hb hby own_d9_34) rfl (by decide) (by decide) ?_
        exact ⟨by rw [if_neg hq0, if_neg hq1, if_neg hq2], N0, e310⟩
theorem own_pd_8 : parseMethodDescriptor "([J)Z" = some ⟨[(.array .long)], some .boolean⟩ := by decide +kernel
set_option maxRecDepth 65536 in
set_option maxHeartbeats 40000000 in
theorem own_t0n {p : Program} {l : Launch} {e : Env} {s : State} {m : MethodId} {args : Array Value} {below : List Frame} {meth : Method} {c : Code} {Z : State} {a0 : Array Value} {n0 : Nat} (hx : p.tables.exec = Jvm.exec) (hZ : Z.Warmed39 s.vm) (hw : ∀ d ∈ tables_1, d.before a0 Z = true) (hby : c.code = code) (hml : c.maxLocals = 17) (hown : s.vm.findClass "com/example/lapse/lapse/MarkingCodeFitsPinLaw" = some m.cls) (hnm : meth.name = "law") (hret : meth.sig.returnType = (some .boolean)) (hlk : meth.locks = false) (w0 g0 wd k_ : Int32) (a_ b_ c_ mt : Int64) (mk wn cd am : Addr) (mo : Nat → Int32) (mv : Nat → Int64) {T0 : State} {locs : List Loc} {h0 : Heap} (X0 : Stand p l e room_1 s m args below meth c T0 locs 7 22) (e0 : T0.heap = h0) (N0 : Fr n0 locs) (Z0 : n0 ≤ h0.size) (E_cd : Exa Z h0 cd "com/example/lapse/lapse/MarkingCode") (F_cd_most : Fld Z h0 cd "com/example/lapse/lapse/MarkingCode" "most" "[I" (.ref am)) (A_am : own_Av Z h0 am .int 0 (fun j => .int (mo j))) (A_mk : own_Av Z h0 mk .long 3 (fun j => .long (mv j))) :
    own_Go p e below T0 (mkF m 128 #[.val (.int w0), .val (.int g0), .val (.long a_), .second, .val (.long b_), .second, .val (.long c_), .second, .val (.int (0 : Int32)), .val (.int wd), .val (.int k_), .val (.long mt), .second, .val (.ref mk), .val (.ref wn), .val (.ref cd), .unset] []) (own_Fin s (fun (v : Option Value) (h : Heap) (L : List Loc) => v = some (.int 1) ∧ Fr n0 L) 32 192) := by
  show own_Go p e below T0 (mkF m 128 #[.val (.int w0), .val (.int g0), .val (.long a_), .second, .val (.long b_), .second, .val (.long c_), .second, .val (.int (0 : Int32)), .val (.int wd), .val (.int k_), .val (.long mt), .second, .val (.ref mk), .val (.ref wn), .val (.ref cd), .unset] []) _
  refine own_s_iload X0.here hx (hb hby at_128) rfl ?_
  refine own_s_iconst X0.here hx (1 : Int32) (hb hby at_130) rfl ?_
  show own_Go p e below T0 (mkF m 131 #[.val (.int w0), .val (.int g0), .val (.long a_), .second, .val (.long b_), .second, .val (.long c_), .second, .val (.int (0 : Int32)), .val (.int wd), .val (.int k_), .val (.long mt), .second, .val (.ref mk), .val (.ref wn), .val (.ref cd), .unset] [(.int (1 : Int32)), (.int (0 : Int32))]) _
  refine own_s_icmpYes X0.here hx 144 (hb hby at_131) (Jvm.Free.XT.ii_lt_t ((by decide))) (by decide) (by decide) ?_
  refine own_s_iload X0.here hx (hb hby at_144) rfl ?_
  refine own_s_iconst X0.here hx (2 : Int32) (hb hby at_146) rfl ?_
  show own_Go p e below T0 (mkF m 147 #[.val (.int w0), .val (.int g0), .val (.long a_), .second, .val (.long b_), .second, .val (.long c_), .second, .val (.int (0 : Int32)), .val (.int wd), .val (.int k_), .val (.long mt), .second, .val (.ref mk), .val (.ref wn), .val (.ref cd), .unset] [(.int (2 : Int32)), (.int (0 : Int32))]) _
  refine own_s_icmpYes X0.here hx 159 (hb hby at_147) (Jvm.Free.XT.ii_lt_t ((by decide))) (by decide) (by decide) ?_
  refine own_s_iload X0.here hx (hb hby at_159) rfl ?_
  refine own_s_iconst X0.here hx (3 : Int32) (hb hby at_161) rfl ?_
  show own_Go p e below T0 (mkF m 162 #[.val (.int w0), .val (.int g0), .val (.long a_), .second, .val (.long b_), .second, .val (.long c_), .second, .val (.int (0 : Int32)), .val (.int wd), .val (.int k_), .val (.long mt), .second, .val (.ref mk), .val (.ref wn), .val (.ref cd), .unset] [(.int (3 : Int32)), (.int (0 : Int32))]) _
  refine own_s_icmpYes X0.here hx 174 (hb hby at_162) (Jvm.Free.XT.ii_lt_t ((by decide))) (by decide) (by decide) ?_
  refine own_s_iconst X0.here hx (1 : Int32) (hb hby at_174) rfl ?_
  show own_Go p e below T0 (mkF m 175 #[.val (.int w0), .val (.int g0), .val (.long a_), .second, .val (.long b_), .second, .val (.long c_), .second, .val (.int (0 : Int32)), .val (.int wd), .val (.int k_), .val (.long mt), .second, .val (.ref mk), .val (.ref wn), .val (.ref cd), .unset] [(.int (1 : Int32))]) _
  refine own_s_goto X0.here hx 179 (hb hby at_175) (by decide) (by decide) ?_
  refine own_s_istore X0.here hx #[.val (.int w0), .val (.int g0), .val (.long a_), .second, .val (.long b_), .second, .val (.long c_), .second, .val (.int (0 : Int32)), .val (.int wd), .val (.int k_), .val (.long mt), .second, .val (.ref mk), .val (.ref wn), .val (.ref cd), .val (.int (1 : Int32))] (hb hby at_179) rfl ?_
  refine own_s_aload X0.here hx (hb hby at_181) rfl rfl ?_
  refine own_s_aload X0.here hx (hb hby at_183) rfl rfl ?_
  obtain ⟨cq311, kq311, q311a, q311b, q311c⟩ := isOf hZ e0 E_cd
  obtain ⟨_, _, ⟨T311, L311, k311, n311⟩, -, X311, ⟨Lc311, hQ311, l311, y311, z311⟩, st311⟩ := X0.virtualBack hx (y := (⟨"com/example/lapse/lapse/MarkingCode", "fits", "([J)Z"⟩ : MethodName)) (z := (⟨"com/example/lapse/lapse/MarkingCode", "fits", "([J)Z"⟩ : MethodName)) hown (mvT hZ (hw _ (List.mem_of_getElem? (i := 44) rfl))) (mvT hZ (hw _ (List.mem_of_getElem? (i := 45) rfl))) (notFace_of_selects (args := #[]) (mvT hZ (hw _ (List.mem_of_getElem? (i := 47) rfl)))) (mvT hZ (hw _ (List.mem_of_getElem? (i := 47) rfl))) (mvT hZ (hw _ (List.mem_of_getElem? (i := 46) rfl))) (by decide) (backOf (W := 0) (own_ft0 l Z a0 hw [] cd mk am mo mv h0 n0 Z0 F_cd_most A_am A_mk) hZ (hw _ (List.mem_of_getElem? (i := 48) rfl)) (hw _ (List.mem_of_getElem? (i := 12) rfl)) (by decide) (by decide)) q311a q311c (g := (mkF m 185 #[.val (.int w0), .val (.int g0), .val (.long a_), .second, .val (.long b_), .second, .val (.long c_), .second, .val (.int (0 : Int32)), .val (.int wd), .val (.int k_), .val (.long mt), .second, .val (.ref mk), .val (.ref wn), .val (.ref cd), .val (.int (1 : Int32))] [(.ref mk), (.ref cd)])) rfl (by rw [hml]; rfl) (Steps.refl _) (argsL := [(.ref mk)]) (rest := []) (lenOf own_pd_8 rfl) rfl (by show 2 * 0 + _ ≤ _; exact Nat.le_of_eq rfl) (hb hby at_185) (fun _ _ => ⟨rfl, e0, (by decide : 7 + 0 ≤ _), (by decide : 22 + 0 ≤ _)⟩)
  dsimp only [Pt.U, Pt.locs, Pt.cells, Pt.slots] at X311 l311 y311 z311 st311 hQ311
  subst l311 y311 z311
  obtain ⟨rfl, N311q, e311⟩ := hQ311
  have N311 := Fr.app N0 N311q
  refine own_by (fun t k => st311.trans k) ?_
  show own_Go p e below T311 (mkF m 188 #[.val (.int w0), .val (.int g0), .val (.long a_), .second, .val (.long b_), .second, .val (.long c_), .second, .val (.int (0 : Int32)), .val (.int wd), .val (.int k_), .val (.long mt), .second, .val (.ref mk), .val (.ref wn), .val (.ref cd), .val (.int (1 : Int32))] [(.int (1 : Int32))]) _
  refine own_s_iload X311.here hx (hb hby at_188) rfl ?_
  refine own_s_icmpNo X311.here hx (hb hby at_190) (Jvm.Free.XT.ii_ne_f rfl) ?_
  refine own_s_iconst X311.here hx (1 : Int32) (hb hby at_193) rfl ?_
  show own_Go p e below T311 (mkF m 194 #[.val (.int w0), .val (.int g0), .val (.long a_), .second, .val (.long b_), .second, .val (.long c_), .second, .val (.int (0 : Int32)), .val (.int wd), .val (.int k_), .val (.long mt), .second, .val (.ref mk), .val (.ref wn), .val (.ref cd), .val (.int (1 : Int32))] [(.int (1 : Int32))]) _
  refine own_s_goto X311.here hx 198 (hb hby at_194) (by decide) (by decide) ?_
  refine own_retZ X311 hx hret hlk (hb hby at_198) rfl (by decide) (by decide) ?_
  exact ⟨rfl, N311⟩
set_option maxRecDepth 65536 in
set_option maxHeartbeats 40000000 in
theorem own_t0w {p : Program} {l : Launch} {e : Env} {s : State} {m : MethodId} {args : Array Value} {below : List Frame} {meth : Method} {c : Code} {Z : State} {a0 : Array Value} {n0 : Nat} (hx : p.tables.exec = Jvm.exec) (hZ : Z.Warmed39 s.vm) (hw : ∀ d ∈ tables_1, d.before a0 Z = true) (hby : c.code = code) (hml : c.maxLocals = 17) (hown : s.vm.findClass "com/example/lapse/lapse/MarkingCodeFitsPinLaw" = some m.cls) (hnm : meth.name = "law") (hret : meth.sig.returnType = (some .boolean)) (hlk : meth.locks = false) (w0 g0 wd k_ : Int32) (a_ b_ c_ mt : Int64) (mk wn cd am : Addr) (mo : Nat → Int32) (mv : Nat → Int64) {T0 : State} {locs : List Loc} {h0 : Heap} (X0 : Stand p l e room_1 s m args below meth c T0 locs 12 35) (e0 : T0.heap = h0) (N0 : Fr n0 locs) (Z0 : n0 ≤ h0.size) (E_cd : Exa Z h0 cd "com/example/lapse/lapse/MarkingCode") (F_cd_most : Fld Z h0 cd "com/example/lapse/lapse/MarkingCode" "most" "[I" (.ref am)) (A_am : own_Av Z h0 am .int 0 (fun j => .int (mo j))) (A_mk : own_Av Z h0 mk .long 3 (fun j => .long (mv j))) :
    own_Go p e below T0 (mkF m 128 #[.val (.int w0), .val (.int g0), .val (.long a_), .second, .val (.long b_), .second, .val (.long c_), .second, .val (.int (0 : Int32)), .val (.int wd), .val (.int k_), .val (.long mt), .second, .val (.ref mk), .val (.ref wn), .val (.ref cd), .unset] []) (own_Fin s (fun (v : Option Value) (h : Heap) (L : List Loc) => v = some (.int 1) ∧ Fr n0 L) 32 192) := by
  show own_Go p e below T0 (mkF m 128 #[.val (.int w0), .val (.int g0), .val (.long a_), .second, .val (.long b_), .second, .val (.long c_), .second, .val (.int (0 : Int32)), .val (.int wd), .val (.int k_), .val (.long mt), .second, .val (.ref mk), .val (.ref wn), .val (.ref cd), .unset] []) _
  refine own_s_iload X0.here hx (hb hby at_128) rfl ?_
  refine own_s_iconst X0.here hx (1 : Int32) (hb hby at_130) rfl ?_
  show own_Go p e below T0 (mkF m 131 #[.val (.int w0), .val (.int g0), .val (.long a_), .second, .val (.long b_), .second, .val (.long c_), .second, .val (.int (0 : Int32)), .val (.int wd), .val (.int k_), .val (.long mt), .second, .val (.ref mk), .val (.ref wn), .val (.ref cd), .unset] [(.int (1 : Int32)), (.int (0 : Int32))]) _
  refine own_s_icmpYes X0.here hx 144 (hb hby at_131) (Jvm.Free.XT.ii_lt_t ((by decide))) (by decide) (by decide) ?_
  refine own_s_iload X0.here hx (hb hby at_144) rfl ?_
  refine own_s_iconst X0.here hx (2 : Int32) (hb hby at_146) rfl ?_
  show own_Go p e below T0 (mkF m 147 #[.val (.int w0), .val (.int g0), .val (.long a_), .second, .val (.long b_), .second, .val (.long c_), .second, .val (.int (0 : Int32)), .val (.int wd), .val (.int k_), .val (.long mt), .second, .val (.ref mk), .val (.ref wn), .val (.ref cd), .unset] [(.int (2 : Int32)), (.int (0 : Int32))]) _
  refine own_s_icmpYes X0.here hx 159 (hb hby at_147) (Jvm.Free.XT.ii_lt_t ((by decide))) (by decide) (by decide) ?_
  refine own_s_iload X0.here hx (hb hby at_159) rfl ?_
  refine own_s_iconst X0.here hx (3 : Int32) (hb hby at_161) rfl ?_
  show own_Go p e below T0 (mkF m 162 #[.val (.int w0), .val (.int g0), .val (.long a_), .second, .val (.long b_), .second, .val (.long c_), .second, .val (.int (0 : Int32)), .val (.int wd), .val (.int k_), .val (.long mt), .second, .val (.ref mk), .val (.ref wn), .val (.ref cd), .unset] [(.int (3 : Int32)), (.int (0 : Int32))]) _
  refine own_s_icmpYes X0.here hx 174 (hb hby at_162) (Jvm.Free.XT.ii_lt_t ((by decide))) (by decide) (by decide) ?_
  refine own_s_iconst X0.here hx (1 : Int32) (hb hby at_174) rfl ?_
  show own_Go p e below T0 (mkF m 175 #[.val (.int w0), .val (.int g0), .val (.long a_), .second, .val (.long b_), .second, .val (.long c_), .second, .val (.int (0 : Int32)), .val (.int wd), .val (.int k_), .val (.long mt), .second, .val (.ref mk), .val (.ref wn), .val (.ref cd), .unset] [(.int (1 : Int32))]) _
  refine own_s_goto X0.here hx 179 (hb hby at_175) (by decide) (by decide) ?_
  refine own_s_istore X0.here hx #[.val (.int w0), .val (.int g0), .val (.long a_), .second, .val (.long b_), .second, .val (.long c_), .second, .val (.int (0 : Int32)), .val (.int wd), .val (.int k_), .val (.long mt), .second, .val (.ref mk), .val (.ref wn), .val (.ref cd), .val (.int (1 : Int32))] (hb hby at_179) rfl ?_
  refine own_s_aload X0.here hx (hb hby at_181) rfl rfl ?_
  refine own_s_aload X0.here hx (hb hby at_183) rfl rfl ?_
  obtain ⟨cq312, kq312, q312a, q312b, q312c⟩ := isOf hZ e0 E_cd
  obtain ⟨_, _, ⟨T312, L312, k312, n312⟩, -, X312, ⟨Lc312, hQ312, l312, y312, z312⟩, st312⟩ := X0.virtualBack hx (y := (⟨"com/example/lapse/lapse/MarkingCode", "fits", "([J)Z"⟩ : MethodName)) (z := (⟨"com/example/lapse/lapse/MarkingCode", "fits", "([J)Z"⟩ : MethodName)) hown (mvT hZ (hw _ (List.mem_of_getElem? (i := 44) rfl))) (mvT hZ (hw _ (List.mem_of_getElem? (i := 45) rfl))) (notFace_of_selects (args := #[]) (mvT hZ (hw _ (List.mem_of_getElem? (i := 47) rfl)))) (mvT hZ (hw _ (List.mem_of_getElem? (i := 47) rfl))) (mvT hZ (hw _ (List.mem_of_getElem? (i := 46) rfl))) (by decide) (backOf (W := 0) (own_ft0 l Z a0 hw [] cd mk am mo mv h0 n0 Z0 F_cd_most A_am A_mk) hZ (hw _ (List.mem_of_getElem? (i := 48) rfl)) (hw _ (List.mem_of_getElem? (i := 12) rfl)) (by decide) (by decide)) q312a q312c (g := (mkF m 185 #[.val (.int w0), .val (.int g0), .val (.long a_), .second, .val (.long b_), .second, .val (.long c_), .second, .val (.int (0 : Int32)), .val (.int wd), .val (.int k_), .val (.long mt), .second, .val (.ref mk), .val (.ref wn), .val (.ref cd), .val (.int (1 : Int32))] [(.ref mk), (.ref cd)])) rfl (by rw [hml]; rfl) (Steps.refl _) (argsL := [(.ref mk)]) (rest := []) (lenOf own_pd_8 rfl) rfl (by show 2 * 0 + _ ≤ _; exact Nat.le_of_eq rfl) (hb hby at_185) (fun _ _ => ⟨rfl, e0, (by decide : 12 + 0 ≤ _), (by decide : 35 + 0 ≤ _)⟩)
  dsimp only [Pt.U, Pt.locs, Pt.cells, Pt.slots] at X312 l312 y312 z312 st312 hQ312
  subst l312 y312 z312
  obtain ⟨rfl, N312q, e312⟩ := hQ312
  have N312 := Fr.app N0 N312q
  refine own_by (fun t k => st312.trans k) ?_
  show own_Go p e below T312 (mkF m 188 #[.val (.int w0), .val (.int g0), .val (.long a_), .second, .val (.long b_), .second, .val (.long c_), .second, .val (.int (0 : Int32)), .val (.int wd), .val (.int k_), .val (.long mt), .second, .val (.ref mk), .val (.ref wn), .val (.ref cd), .val (.int (1 : Int32))] [(.int (1 : Int32))]) _
  refine own_s_iload X312.here hx (hb hby at_188) rfl ?_
  refine own_s_icmpNo X312.here hx (hb hby at_190) (Jvm.Free.XT.ii_ne_f rfl) ?_
  refine own_s_iconst X312.here hx (1 : Int32) (hb hby at_193) rfl ?_
  show own_Go p e below T312 (mkF m 194 #[.val (.int w0), .val (.int g0), .val (.long a_), .second, .val (.long b_), .second, .val (.long c_), .second, .val (.int (0 : Int32)), .val (.int wd), .val (.int k_), .val (.long mt), .second, .val (.ref mk), .val (.ref wn), .val (.ref cd), .val (.int (1 : Int32))] [(.int (1 : Int32))]) _
  refine own_s_goto X312.here hx 198 (hb hby at_194) (by decide) (by decide) ?_
  refine own_retZ X312 hx hret hlk (hb hby at_198) rfl (by decide) (by decide) ?_
  exact ⟨rfl, N312⟩
set_option maxRecDepth 65536 in
set_option maxHeartbeats 40000000 in
theorem own_t1n {p : Program} {l : Launch} {e : Env} {s : State} {m : MethodId} {args : Array Value} {below : List Frame} {meth : Method} {c : Code} {Z : State} {a0 : Array Value} {n0 : Nat} (hx : p.tables.exec = Jvm.exec) (hZ : Z.Warmed39 s.vm) (hw : ∀ d ∈ tables_1, d.before a0 Z = true) (hby : c.code = code) (hml : c.maxLocals = 17) (hown : s.vm.findClass "com/example/lapse/lapse/MarkingCodeFitsPinLaw" = some m.cls) (hnm : meth.name = "law") (hret : meth.sig.returnType = (some .boolean)) (hlk : meth.locks = false) (w0 g0 wd k_ : Int32) (a_ b_ c_ mt : Int64) (mk wn cd am : Addr) (mo : Nat → Int32) (mv : Nat → Int64) {T0 : State} {locs : List Loc} {h0 : Heap} (X0 : Stand p l e room_1 s m args below meth c T0 locs 7 22) (e0 : T0.heap = h0) (N0 : Fr n0 locs) (Z0 : n0 ≤ h0.size) (hm0 : ((mo 0).toInt64) = mt) (E_cd : Exa Z h0 cd "com/example/lapse/lapse/MarkingCode") (F_cd_most : Fld Z h0 cd "com/example/lapse/lapse/MarkingCode" "most" "[I" (.ref am)) (A_am : own_Av Z h0 am .int 1 (fun j => .int (mo j))) (A_mk : own_Av Z h0 mk .long 3 (fun j => .long (mv j))) :
    own_Go p e below T0 (mkF m 128 #[.val (.int w0), .val (.int g0), .val (.long a_), .second, .val (.long b_), .second, .val (.long c_), .second, .val (.int (1 : Int32)), .val (.int wd), .val (.int k_), .val (.long mt), .second, .val (.ref mk), .val (.ref wn), .val (.ref cd), .unset] []) (own_Fin s (fun (v : Option Value) (h : Heap) (L : List Loc) => v = some (.int 1) ∧ Fr n0 L) 32 192) := by
  show own_Go p e below T0 (mkF m 128 #[.val (.int w0), .val (.int g0), .val (.long a_), .second, .val (.long b_), .second, .val (.long c_), .second, .val (.int (1 : Int32)), .val (.int wd), .val (.int k_), .val (.long mt), .second, .val (.ref mk), .val (.ref wn), .val (.ref cd), .unset] []) _
  refine own_s_iload X0.here hx (hb hby at_128) rfl ?_
  refine own_s_iconst X0.here hx (1 : Int32) (hb hby at_130) rfl ?_
  refine own_s_icmpNo X0.here hx (hb hby at_131) (Jvm.Free.XT.ii_lt_f ((by decide))) ?_
  refine own_s_aload X0.here hx (hb hby at_134) rfl rfl ?_
  refine own_s_iconst X0.here hx (0 : Int32) (hb hby at_136) rfl ?_
  refine own_by (fun tq_ kq_ => own_ldJ X0 hx hZ e0 A_mk (k := 0) (v := (.long (mv 0))) (by decide) (by decide) rfl (g := (mkF m 137 #[.val (.int w0), .val (.int g0), .val (.long a_), .second, .val (.long b_), .second, .val (.long c_), .second, .val (.int (1 : Int32)), .val (.int wd), .val (.int k_), .val (.long mt), .second, .val (.ref mk), .val (.ref wn), .val (.ref cd), .unset] [(.int (0 : Int32)), (.ref mk)])) rfl rfl (hb hby at_137) tq_ kq_) ?_
  show own_Go p e below T0 (mkF m 138 #[.val (.int w0), .val (.int g0), .val (.long a_), .second, .val (.long b_), .second, .val (.long c_), .second, .val (.int (1 : Int32)), .val (.int wd), .val (.int k_), .val (.long mt), .second, .val (.ref mk), .val (.ref wn), .val (.ref cd), .unset] [(.long (mv 0))]) _
  refine own_s_lload X0.here hx (hb hby at_138) rfl ?_
  refine own_s_lcmp X0.here hx (hb hby at_140) ?_
  by_cases hc141 : mt < (mv 0)
  ·
    show own_Go p e below T0 (mkF m 141 #[.val (.int w0), .val (.int g0), .val (.long a_), .second, .val (.long b_), .second, .val (.long c_), .second, .val (.int (1 : Int32)), .val (.int wd), .val (.int k_), .val (.long mt), .second, .val (.ref mk), .val (.ref wn), .val (.ref cd), .unset] [(.int (Jvm.Free.XT.cmpL (mv 0) mt))]) _
    refine own_s_ifYes X0.here hx 178 (hb hby at_141) (Jvm.Free.XT.ll_gt_t hc141) (by decide) (by decide) ?_
    refine own_s_iconst X0.here hx (0 : Int32) (hb hby at_178) rfl ?_
    refine own_s_istore X0.here hx #[.val (.int w0), .val (.int g0), .val (.long a_), .second, .val (.long b_), .second, .val (.long c_), .second, .val (.int (1 : Int32)), .val (.int wd), .val (.int k_), .val (.long mt), .second, .val (.ref mk), .val (.ref wn), .val (.ref cd), .val (.int (0 : Int32))] (hb hby at_179) rfl ?_
    refine own_s_aload X0.here hx (hb hby at_181) rfl rfl ?_
    refine own_s_aload X0.here hx (hb hby at_183) rfl rfl ?_
    obtain ⟨cq313, kq313, q313a, q313b, q313c⟩ := isOf hZ e0 E_cd
    obtain ⟨_, _, ⟨T313, L313, k313, n313⟩, -, X313, ⟨Lc313, hQ313, l313, y313, z313⟩, st313⟩ := X0.virtualBack hx (y := (⟨"com/example/lapse/lapse/MarkingCode", "fits", "([J)Z"⟩ : MethodName)) (z := (⟨"com/example/lapse/lapse/MarkingCode", "fits", "([J)Z"⟩ : MethodName)) hown (mvT hZ (hw _ (List.mem_of_getElem? (i := 44) rfl))) (mvT hZ (hw _ (List.mem_of_getElem? (i := 45) rfl))) (notFace_of_selects (args := #[]) (mvT hZ (hw _ (List.mem_of_getElem? (i := 47) rfl)))) (mvT hZ (hw _ (List.mem_of_getElem? (i := 47) rfl))) (mvT hZ (hw _ (List.mem_of_getElem? (i := 46) rfl))) (by decide) (backOf (W := 0) (own_ft1 l Z a0 hw [] cd mk am mo mv h0 n0 Z0 F_cd_most A_am A_mk) hZ (hw _ (List.mem_of_getElem? (i := 48) rfl)) (hw _ (List.mem_of_getElem? (i := 12) rfl)) (by decide) (by decide)) q313a q313c (g := (mkF m 185 #[.val (.int w0), .val (.int g0), .val (.long a_), .second, .val (.long b_), .second, .val (.long c_), .second, .val (.int (1 : Int32)), .val (.int wd), .val (.int k_), .val (.long mt), .second, .val (.ref mk), .val (.ref wn), .val (.ref cd), .val (.int (0 : Int32))] [(.ref mk), (.ref cd)])) rfl (by rw [hml]; rfl) (Steps.refl _) (argsL := [(.ref mk)]) (rest := []) (lenOf own_pd_8 rfl) rfl (by show 2 * 0 + _ ≤ _; exact Nat.le_of_eq rfl) (hb hby at_185) (fun _ _ => ⟨rfl, e0, (by decide : 7 + 0 ≤ _), (by decide : 22 + 0 ≤ _)⟩)
    dsimp only [Pt.U, Pt.locs, Pt.cells, Pt.slots] at X313 l313 y313 z313 st313 hQ313
    subst l313 y313 z313
    obtain ⟨rfl, N313q, e313⟩ := hQ313
    have N313 := Fr.app N0 N313q
    refine own_by (fun t k => st313.trans k) ?_
    show own_Go p e below T313 (mkF m 188 #[.val (.int w0), .val (.int g0), .val (.long a_), .second, .val (.long b_), .second, .val (.long c_), .second, .val (.int (1 : Int32)), .val (.int wd), .val (.int k_), .val (.long mt), .second, .val (.ref mk), .val (.ref wn), .val (.ref cd), .val (.int (0 : Int32))] [(.int (if ((mo 0).toInt64) < (mv 0) then (0 : Int32) else (1 : Int32)))]) _
    refine own_s_iload X313.here hx (hb hby at_188) rfl ?_
    refine own_s_icmpNo X313.here hx (hb hby at_190) (Jvm.Free.XT.ii_ne_f ((by rw [hm0, if_pos hc141]))) ?_
    refine own_s_iconst X313.here hx (1 : Int32) (hb hby at_193) rfl ?_
    show own_Go p e below T313 (mkF m 194 #[.val (.int w0), .val (.int g0), .val (.long a_), .second, .val (.long b_), .second, .val (.long c_), .second, .val (.int (1 : Int32)), .val (.int wd), .val (.int k_), .val (.long mt), .second, .val (.ref mk), .val (.ref wn), .val (.ref cd), .val (.int (0 : Int32))] [(.int (1 : Int32))]) _
    refine own_s_goto X313.here hx 198 (hb hby at_194) (by decide) (by decide) ?_
    refine own_retZ X313 hx hret hlk (hb hby at_198) rfl (by decide) (by decide) ?_
    exact ⟨rfl, N313⟩
  ·
    refine own_s_ifNo X0.here hx (hb hby at_141) (Jvm.Free.XT.ll_gt_f hc141) ?_
    refine own_s_iload X0.here hx (hb hby at_144) rfl ?_
    refine own_s_iconst X0.here hx (2 : Int32) (hb hby at_146) rfl ?_
    show own_Go p e below T0 (mkF m 147 #[.val (.int w0), .val (.int g0), .val (.long a_), .second, .val (.long b_), .second, .val (.long c_), .second, .val (.int (1 : Int32)), .val (.int wd), .val (.int k_), .val (.long mt), .second, .val (.ref mk), .val (.ref wn), .val (.ref cd), .unset] [(.int (2 : Int32)), (.int (1 : Int32))]) _
    refine own_s_icmpYes X0.here hx 159 (hb hby at_147) (Jvm.Free.XT.ii_lt_t ((by decide))) (by decide) (by decide) ?_
    refine own_s_iload X0.here hx (hb hby at_159) rfl ?_
    refine own_s_iconst X0.here hx (3 : Int32) (hb hby at_161) rfl ?_
    show own_Go p e below T0 (mkF m 162 #[.val (.int w0), .val (.int g0), .val (.long a_), .second, .val (.long b_), .second, .val (.long c_), .second, .val (.int (1 : Int32)), .val (.int wd), .val (.int k_), .val (.long mt), .second, .val (.ref mk), .val (.ref wn), .val (.ref cd), .unset] [(.int (3 : Int32)), (.int (1 : Int32))]) _
    refine own_s_icmpYes X0.here hx 174 (hb hby at_162) (Jvm.Free.XT.ii_lt_t ((by decide))) (by decide) (by decide) ?_
    refine own_s_iconst X0.here hx (1 : Int32) (hb hby at_174) rfl ?_
    show own_Go p e below T0 (mkF m 175 #[.val (.int w0), .val (.int g0), .val (.long a_), .second, .val (.long b_), .second, .val (.long c_), .second, .val (.int (1 : Int32)), .val (.int wd), .val (.int k_), .val (.long mt), .second, .val (.ref mk), .val (.ref wn), .val (.ref cd), .unset] [(.int (1 : Int32))]) _
    refine own_s_goto X0.here hx 179 (hb hby at_175) (by decide) (by decide) ?_
    refine own_s_istore X0.here hx #[.val (.int w0), .val (.int g0), .val (.long a_), .second, .val (.long b_), .second, .val (.long c_), .second, .val (.int (1 : Int32)), .val (.int wd), .val (.int k_), .val (.long mt), .second, .val (.ref mk), .val (.ref wn), .val (.ref cd), .val (.int (1 : Int32))] (hb hby at_179) rfl ?_
    refine own_s_aload X0.here hx (hb hby at_181) rfl rfl ?_
    refine own_s_aload X0.here hx (hb hby at_183) rfl rfl ?_
    obtain ⟨cq314, kq314, q314a, q314b, q314c⟩ := isOf hZ e0 E_cd
    obtain ⟨_, _, ⟨T314, L314, k314, n314⟩, -, X314, ⟨Lc314, hQ314, l314, y314, z314⟩, st314⟩ := X0.virtualBack hx (y := (⟨"com/example/lapse/lapse/MarkingCode", "fits", "([J)Z"⟩ : MethodName)) (z := (⟨"com/example/lapse/lapse/MarkingCode", "fits", "([J)Z"⟩ : MethodName)) hown (mvT hZ (hw _ (List.mem_of_getElem? (i := 44) rfl))) (mvT hZ (hw _ (List.mem_of_getElem? (i := 45) rfl))) (notFace_of_selects (args := #[]) (mvT hZ (hw _ (List.mem_of_getElem? (i := 47) rfl)))) (mvT hZ (hw _ (List.mem_of_getElem? (i := 47) rfl))) (mvT hZ (hw _ (List.mem_of_getElem? (i := 46) rfl))) (by decide) (backOf (W := 0) (own_ft1 l Z a0 hw [] cd mk am mo mv h0 n0 Z0 F_cd_most A_am A_mk) hZ (hw _ (List.mem_of_getElem? (i := 48) rfl)) (hw _ (List.mem_of_getElem? (i := 12) rfl)) (by decide) (by decide)) q314a q314c (g := (mkF m 185 #[.val (.int w0), .val (.int g0), .val (.long a_), .second, .val (.long b_), .second, .val (.long c_), .second, .val (.int (1 : Int32)), .val (.int wd), .val (.int k_), .val (.long mt), .second, .val (.ref mk), .val (.ref wn), .val (.ref cd), .val (.int (1 : Int32))] [(.ref mk), (.ref cd)])) rfl (by rw [hml]; rfl) (Steps.refl _) (argsL := [(.ref mk)]) (rest := []) (lenOf own_pd_8 rfl) rfl (by show 2 * 0 + _ ≤ _; exact Nat.le_of_eq rfl) (hb hby at_185) (fun _ _ => ⟨rfl, e0, (by decide : 7 + 0 ≤ _), (by decide : 22 + 0 ≤ _)⟩)
    dsimp only [Pt.U, Pt.locs, Pt.cells, Pt.slots] at X314 l314 y314 z314 st314 hQ314
    subst l314 y314 z314
    obtain ⟨rfl, N314q, e314⟩ := hQ314
    have N314 := Fr.app N0 N314q
    refine own_by (fun t k => st314.trans k) ?_
    show own_Go p e below T314 (mkF m 188 #[.val (.int w0), .val (.int g0), .val (.long a_), .second, .val (.long b_), .second, .val (.long c_), .second, .val (.int (1 : Int32)), .val (.int wd), .val (.int k_), .val (.long mt), .second, .val (.ref mk), .val (.ref wn), .val (.ref cd), .val (.int (1 : Int32))] [(.int (if ((mo 0).toInt64) < (mv 0) then (0 : Int32) else (1 : Int32)))]) _
    refine own_s_iload X314.here hx (hb hby at_188) rfl ?_
    refine own_s_icmpNo X314.here hx (hb hby at_190) (Jvm.Free.XT.ii_ne_f ((by rw [hm0, if_neg hc141]))) ?_
    refine own_s_iconst X314.here hx (1 : Int32) (hb hby at_193) rfl ?_
    show own_Go p e below T314 (mkF m 194 #[.val (.int w0), .val (.int g0), .val (.long a_), .second, .val (.long b_), .second, .val (.long c_), .second, .val (.int (1 : Int32)), .val (.int wd), .val (.int k_), .val (.long mt), .second, .val (.ref mk), .val (.ref wn), .val (.ref cd), .val (.int (1 : Int32))] [(.int (1 : Int32))]) _
    refine own_s_goto X314.here hx 198 (hb hby at_194) (by decide) (by decide) ?_
    refine own_retZ X314 hx hret hlk (hb hby at_198) rfl (by decide) (by decide) ?_
    exact ⟨rfl, N314⟩
set_option maxRecDepth 65536 in
set_option maxHeartbeats 40000000 in
theorem own_t1w {p : Program} {l : Launch} {e : Env} {s : State} {m : MethodId} {args : Array Value} {below : List Frame} {meth : Method} {c : Code} {Z : State} {a0 : Array Value} {n0 : Nat} (hx : p.tables.exec = Jvm.exec) (hZ : Z.Warmed39 s.vm) (hw : ∀ d ∈ tables_1, d.before a0 Z = true) (hby : c.code = code) (hml : c.maxLocals = 17) (hown : s.vm.findClass "com/example/lapse/lapse/MarkingCodeFitsPinLaw" = some m.cls) (hnm : meth.name = "law") (hret : meth.sig.returnType = (some .boolean)) (hlk : meth.locks = false) (w0 g0 wd k_ : Int32) (a_ b_ c_ mt : Int64) (mk wn cd am : Addr) (mo : Nat → Int32) (mv : Nat → Int64) {T0 : State} {locs : List Loc} {h0 : Heap} (X0 : Stand p l e room_1 s m args below meth c T0 locs 12 36) (e0 : T0.heap = h0) (N0 : Fr n0 locs) (Z0 : n0 ≤ h0.size) (hm0 : ((mo 0).toInt64) = mt) (E_cd : Exa Z h0 cd "com/example/lapse/lapse/MarkingCode") (F_cd_most : Fld Z h0 cd "com/example/lapse/lapse/MarkingCode" "most" "[I" (.ref am)) (A_am : own_Av Z h0 am .int 1 (fun j => .int (mo j))) (A_mk : own_Av Z h0 mk .long 3 (fun j => .long (mv j))) :
    own_Go p e below T0 (mkF m 128 #[.val (.int w0), .val (.int g0), .val (.long a_), .second, .val (.long b_), .second, .val (.long c_), .second, .val (.int (1 : Int32)), .val (.int wd), .val (.int k_), .val (.long mt), .second, .val (.ref mk), .val (.ref wn), .val (.ref cd), .unset] []) (own_Fin s (fun (v : Option Value) (h : Heap) (L : List Loc) => v = some (.int 1) ∧ Fr n0 L) 32 192) := by
  show own_Go p e below T0 (mkF m 128 #[.val (.int w0), .val (.int g0), .val (.long a_), .second, .val (.long b_), .second, .val (.long c_), .second, .val (.int (1 : Int32)), .val (.int wd), .val (.int k_), .val (.long mt), .second, .val (.ref mk), .val (.ref wn), .val (.ref cd), .unset] []) _
  refine own_s_iload X0.here hx (hb hby at_128) rfl ?_
  refine own_s_iconst X0.here hx (1 : Int32) (hb hby at_130) rfl ?_
  refine own_s_icmpNo X0.here hx (hb hby at_131) (Jvm.Free.XT.ii_lt_f ((by decide))) ?_
  refine own_s_aload X0.here hx (hb hby at_134) rfl rfl ?_
  refine own_s_iconst X0.here hx (0 : Int32) (hb hby at_136) rfl ?_
  refine own_by (fun tq_ kq_ => own_ldJ X0 hx hZ e0 A_mk (k := 0) (v := (.long (mv 0))) (by decide) (by decide) rfl (g := (mkF m 137 #[.val (.int w0), .val (.int g0), .val (.long a_), .second, .val (.long b_), .second, .val (.long c_), .second, .val (.int (1 : Int32)), .val (.int wd), .val (.int k_), .val (.long mt), .second, .val (.ref mk), .val (.ref wn), .val (.ref cd), .unset] [(.int (0 : Int32)), (.ref mk)])) rfl rfl (hb hby at_137) tq_ kq_) ?_
  show own_Go p e below T0 (mkF m 138 #[.val (.int w0), .val (.int g0), .val (.long a_), .second, .val (.long b_), .second, .val (.long c_), .second, .val (.int (1 : Int32)), .val (.int wd), .val (.int k_), .val (.long mt), .second, .val (.ref mk), .val (.ref wn), .val (.ref cd), .unset] [(.long (mv 0))]) _
  refine own_s_lload X0.here hx (hb hby at_138) rfl ?_
  refine own_s_lcmp X0.here hx (hb hby at_140) ?_
  by_cases hc141 : mt < (mv 0)
  ·
    show own_Go p e below T0 (mkF m 141 #[.val (.int w0), .val (.int g0), .val (.long a_), .second, .val (.long b_), .second, .val (.long c_), .second, .val (.int (1 : Int32)), .val (.int wd), .val (.int k_), .val (.long mt), .second, .val (.ref mk), .val (.ref wn), .val (.ref cd), .unset] [(.int (Jvm.Free.XT.cmpL (mv 0) mt))]) _
    refine own_s_ifYes X0.here hx 178 (hb hby at_141) (Jvm.Free.XT.ll_gt_t hc141) (by decide) (by decide) ?_
    refine own_s_iconst X0.here hx (0 : Int32) (hb hby at_178) rfl ?_
    refine own_s_istore X0.here hx #[.val (.int w0), .val (.int g0), .val (.long a_), .second, .val (.long b_), .second, .val (.long c_), .second, .val (.int (1 : Int32)), .val (.int wd), .val (.int k_), .val (.long mt), .second, .val (.ref mk), .val (.ref wn), .val (.ref cd), .val (.int (0 : Int32))] (hb hby at_179) rfl ?_
    refine own_s_aload X0.here hx (hb hby at_181) rfl rfl ?_
    refine own_s_aload X0.here hx (hb hby at_183) rfl rfl ?_
    obtain ⟨cq315, kq315, q315a, q315b, q315c⟩ := isOf hZ e0 E_cd
    obtain ⟨_, _, ⟨T315, L315, k315, n315⟩, -, X315, ⟨Lc315, hQ315, l315, y315, z315⟩, st315⟩ := X0.virtualBack hx (y := (⟨"com/example/lapse/lapse/MarkingCode", "fits", "([J)Z"⟩ : MethodName)) (z := (⟨"com/example/lapse/lapse/MarkingCode", "fits", "([J)Z"⟩ : MethodName)) hown (mvT hZ (hw _ (List.mem_of_getElem? (i := 44) rfl))) (mvT hZ (hw _ (List.mem_of_getElem? (i := 45) rfl))) (notFace_of_selects (args := #[]) (mvT hZ (hw _ (List.mem_of_getElem? (i := 47) rfl)))) (mvT hZ (hw _ (List.mem_of_getElem? (i := 47) rfl))) (mvT hZ (hw _ (List.mem_of_getElem? (i := 46) rfl))) (by decide) (backOf (W := 0) (own_ft1 l Z a0 hw [] cd mk am mo mv h0 n0 Z0 F_cd_most A_am A_mk) hZ (hw _ (List.mem_of_getElem? (i := 48) rfl)) (hw _ (List.mem_of_getElem? (i := 12) rfl)) (by decide) (by decide)) q315a q315c (g := (mkF m 185 #[.val (.int w0), .val (.int g0), .val (.long a_), .second, .val (.long b_), .second, .val (.long c_), .second, .val (.int (1 : Int32)), .val (.int wd), .val (.int k_), .val (.long mt), .second, .val (.ref mk), .val (.ref wn), .val (.ref cd), .val (.int (0 : Int32))] [(.ref mk), (.ref cd)])) rfl (by rw [hml]; rfl) (Steps.refl _) (argsL := [(.ref mk)]) (rest := []) (lenOf own_pd_8 rfl) rfl (by show 2 * 0 + _ ≤ _; exact Nat.le_of_eq rfl) (hb hby at_185) (fun _ _ => ⟨rfl, e0, (by decide : 12 + 0 ≤ _), (by decide : 36 + 0 ≤ _)⟩)
    dsimp only [Pt.U, Pt.locs, Pt.cells, Pt.slots] at X315 l315 y315 z315 st315 hQ315
    subst l315 y315 z315
    obtain ⟨rfl, N315q, e315⟩ := hQ315
    have N315 := Fr.app N0 N315q
    refine own_by (fun t k => st315.trans k) ?_
    show own_Go p e below T315 (mkF m 188 #[.val (.int w0), .val (.int g0), .val (.long a_), .second, .val (.long b_), .second, .val (.long c_), .second, .val (.int (1 : Int32)), .val (.int wd), .val (.int k_), .val (.long mt), .second, .val (.ref mk), .val (.ref wn), .val (.ref cd), .val (.int (0 : Int32))] [(.int (if ((mo 0).toInt64) < (mv 0) then (0 : Int32) else (1 : Int32)))]) _
    refine own_s_iload X315.here hx (hb hby at_188) rfl ?_
    refine own_s_icmpNo X315.here hx (hb hby at_190) (Jvm.Free.XT.ii_ne_f ((by rw [hm0, if_pos hc141]))) ?_
    refine own_s_iconst X315.here hx (1 : Int32) (hb hby at_193) rfl ?_
    show own_Go p e below T315 (mkF m 194 #[.val (.int w0), .val (.int g0), .val (.long a_), .second, .val (.long b_), .second, .val (.long c_), .second, .val (.int (1 : Int32)), .val (.int wd), .val (.int k_), .val (.long mt), .second, .val (.ref mk), .val (.ref wn), .val (.ref cd), .val (.int (0 : Int32))] [(.int (1 : Int32))]) _
    refine own_s_goto X315.here hx 198 (hb hby at_194) (by decide) (by decide) ?_
    refine own_retZ X315 hx hret hlk (hb hby at_198) rfl (by decide) (by decide) ?_
    exact ⟨rfl, N315⟩
  ·
    refine own_s_ifNo X0.here hx (hb hby at_141) (Jvm.Free.XT.ll_gt_f hc141) ?_
    refine own_s_iload X0.here hx (hb hby at_144) rfl ?_
    refine own_s_iconst X0.here hx (2 : Int32) (hb hby at_146) rfl ?_
    show own_Go p e below T0 (mkF m 147 #[.val (.int w0), .val (.int g0), .val (.long a_), .second, .val (.long b_), .second, .val (.long c_), .second, .val (.int (1 : Int32)), .val (.int wd), .val (.int k_), .val (.long mt), .second, .val (.ref mk), .val (.ref wn), .val (.ref cd), .unset] [(.int (2 : Int32)), (.int (1 : Int32))]) _
    refine own_s_icmpYes X0.here hx 159 (hb hby at_147) (Jvm.Free.XT.ii_lt_t ((by decide))) (by decide) (by decide) ?_
    refine own_s_iload X0.here hx (hb hby at_159) rfl ?_
    refine own_s_iconst X0.here hx (3 : Int32) (hb hby at_161) rfl ?_
    show own_Go p e below T0 (mkF m 162 #[.val (.int w0), .val (.int g0), .val (.long a_), .second, .val (.long b_), .second, .val (.long c_), .second, .val (.int (1 : Int32)), .val (.int wd), .val (.int k_), .val (.long mt), .second, .val (.ref mk), .val (.ref wn), .val (.ref cd), .unset] [(.int (3 : Int32)), (.int (1 : Int32))]) _
    refine own_s_icmpYes X0.here hx 174 (hb hby at_162) (Jvm.Free.XT.ii_lt_t ((by decide))) (by decide) (by decide) ?_
    refine own_s_iconst X0.here hx (1 : Int32) (hb hby at_174) rfl ?_
    show own_Go p e below T0 (mkF m 175 #[.val (.int w0), .val (.int g0), .val (.long a_), .second, .val (.long b_), .second, .val (.long c_), .second, .val (.int (1 : Int32)), .val (.int wd), .val (.int k_), .val (.long mt), .second, .val (.ref mk), .val (.ref wn), .val (.ref cd), .unset] [(.int (1 : Int32))]) _
    refine own_s_goto X0.here hx 179 (hb hby at_175) (by decide) (by decide) ?_
    refine own_s_istore X0.here hx #[.val (.int w0), .val (.int g0), .val (.long a_), .second, .val (.long b_), .second, .val (.long c_), .second, .val (.int (1 : Int32)), .val (.int wd), .val (.int k_), .val (.long mt), .second, .val (.ref mk), .val (.ref wn), .val (.ref cd), .val (.int (1 : Int32))] (hb hby at_179) rfl ?_
    refine own_s_aload X0.here hx (hb hby at_181) rfl rfl ?_
    refine own_s_aload X0.here hx (hb hby at_183) rfl rfl ?_
    obtain ⟨cq316, kq316, q316a, q316b, q316c⟩ := isOf hZ e0 E_cd
    obtain ⟨_, _, ⟨T316, L316, k316, n316⟩, -, X316, ⟨Lc316, hQ316, l316, y316, z316⟩, st316⟩ := X0.virtualBack hx (y := (⟨"com/example/lapse/lapse/MarkingCode", "fits", "([J)Z"⟩ : MethodName)) (z := (⟨"com/example/lapse/lapse/MarkingCode", "fits", "([J)Z"⟩ : MethodName)) hown (mvT hZ (hw _ (List.mem_of_getElem? (i := 44) rfl))) (mvT hZ (hw _ (List.mem_of_getElem? (i := 45) rfl))) (notFace_of_selects (args := #[]) (mvT hZ (hw _ (List.mem_of_getElem? (i := 47) rfl)))) (mvT hZ (hw _ (List.mem_of_getElem? (i := 47) rfl))) (mvT hZ (hw _ (List.mem_of_getElem? (i := 46) rfl))) (by decide) (backOf (W := 0) (own_ft1 l Z a0 hw [] cd mk am mo mv h0 n0 Z0 F_cd_most A_am A_mk) hZ (hw _ (List.mem_of_getElem? (i := 48) rfl)) (hw _ (List.mem_of_getElem? (i := 12) rfl)) (by decide) (by decide)) q316a q316c (g := (mkF m 185 #[.val (.int w0), .val (.int g0), .val (.long a_), .second, .val (.long b_), .second, .val (.long c_), .second, .val (.int (1 : Int32)), .val (.int wd), .val (.int k_), .val (.long mt), .second, .val (.ref mk), .val (.ref wn), .val (.ref cd), .val (.int (1 : Int32))] [(.ref mk), (.ref cd)])) rfl (by rw [hml]; rfl) (Steps.refl _) (argsL := [(.ref mk)]) (rest := []) (lenOf own_pd_8 rfl) rfl (by show 2 * 0 + _ ≤ _; exact Nat.le_of_eq rfl) (hb hby at_185) (fun _ _ => ⟨rfl, e0, (by decide : 12 + 0 ≤ _), (by decide : 36 + 0 ≤ _)⟩)
    dsimp only [Pt.U, Pt.locs, Pt.cells, Pt.slots] at X316 l316 y316 z316 st316 hQ316
    subst l316 y316 z316
    obtain ⟨rfl, N316q, e316⟩ := hQ316
    have N316 := Fr.app N0 N316q
    refine own_by (fun t k => st316.trans k) ?_
    show own_Go p e below T316 (mkF m 188 #[.val (.int w0), .val (.int g0), .val (.long a_), .second, .val (.long b_), .second, .val (.long c_), .second, .val (.int (1 : Int32)), .val (.int wd), .val (.int k_), .val (.long mt), .second, .val (.ref mk), .val (.ref wn), .val (.ref cd), .val (.int (1 : Int32))] [(.int (if ((mo 0).toInt64) < (mv 0) then (0 : Int32) else (1 : Int32)))]) _
    refine own_s_iload X316.here hx (hb hby at_188) rfl ?_
    refine own_s_icmpNo X316.here hx (hb hby at_190) (Jvm.Free.XT.ii_ne_f ((by rw [hm0, if_neg hc141]))) ?_
    refine own_s_iconst X316.here hx (1 : Int32) (hb hby at_193) rfl ?_
    show own_Go p e below T316 (mkF m 194 #[.val (.int w0), .val (.int g0), .val (.long a_), .second, .val (.long b_), .second, .val (.long c_), .second, .val (.int (1 : Int32)), .val (.int wd), .val (.int k_), .val (.long mt), .second, .val (.ref mk), .val (.ref wn), .val (.ref cd), .val (.int (1 : Int32))] [(.int (1 : Int32))]) _
    refine own_s_goto X316.here hx 198 (hb hby at_194) (by decide) (by decide) ?_
    refine own_retZ X316 hx hret hlk (hb hby at_198) rfl (by decide) (by decide) ?_
    exact ⟨rfl, N316⟩
set_option maxRecDepth 65536 in
set_option maxHeartbeats 40000000 in
theorem own_t2n {p : Program} {l : Launch} {e : Env} {s : State} {m : MethodId} {args : Array Value} {below : List Frame} {meth : Method} {c : Code} {Z : State} {a0 : Array Value} {n0 : Nat} (hx : p.tables.exec = Jvm.exec) (hZ : Z.Warmed39 s.vm) (hw : ∀ d ∈ tables_1, d.before a0 Z = true) (hby : c.code = code) (hml : c.maxLocals = 17) (hown : s.vm.findClass "com/example/lapse/lapse/MarkingCodeFitsPinLaw" = some m.cls) (hnm : meth.name = "law") (hret : meth.sig.returnType = (some .boolean)) (hlk : meth.locks = false) (w0 g0 wd k_ : Int32) (a_ b_ c_ mt : Int64) (mk wn cd am : Addr) (mo : Nat → Int32) (mv : Nat → Int64) {T0 : State} {locs : List Loc} {h0 : Heap} (X0 : Stand p l e room_1 s m args below meth c T0 locs 7 22) (e0 : T0.heap = h0) (N0 : Fr n0 locs) (Z0 : n0 ≤ h0.size) (hm0 : ((mo 0).toInt64) = mt) (hm1 : ((mo 1).toInt64) = (1 : Int64)) (E_cd : Exa Z h0 cd "com/example/lapse/lapse/MarkingCode") (F_cd_most : Fld Z h0 cd "com/example/lapse/lapse/MarkingCode" "most" "[I" (.ref am)) (A_am : own_Av Z h0 am .int 2 (fun j => .int (mo j))) (A_mk : own_Av Z h0 mk .long 3 (fun j => .long (mv j))) :
    own_Go p e below T0 (mkF m 128 #[.val (.int w0), .val (.int g0), .val (.long a_), .second, .val (.long b_), .second, .val (.long c_), .second, .val (.int (2 : Int32)), .val (.int wd), .val (.int k_), .val (.long mt), .second, .val (.ref mk), .val (.ref wn), .val (.ref cd), .unset] []) (own_Fin s (fun (v : Option Value) (h : Heap) (L : List Loc) => v = some (.int 1) ∧ Fr n0 L) 32 192) := by
  show own_Go p e below T0 (mkF m 128 #[.val (.int w0), .val (.int g0), .val (.long a_), .second, .val (.long b_), .second, .val (.long c_), .second, .val (.int (2 : Int32)), .val (.int wd), .val (.int k_), .val (.long mt), .second, .val (.ref mk), .val (.ref wn), .val (.ref cd), .unset] []) _
  refine own_s_iload X0.here hx (hb hby at_128) rfl ?_
  refine own_s_iconst X0.here hx (1 : Int32) (hb hby at_130) rfl ?_
  refine own_s_icmpNo X0.here hx (hb hby at_131) (Jvm.Free.XT.ii_lt_f ((by decide))) ?_
  refine own_s_aload X0.here hx (hb hby at_134) rfl rfl ?_
  refine own_s_iconst X0.here hx (0 : Int32) (hb hby at_136) rfl ?_
  refine own_by (fun tq_ kq_ => own_ldJ X0 hx hZ e0 A_mk (k := 0) (v := (.long (mv 0))) (by decide) (by decide) rfl (g := (mkF m 137 #[.val (.int w0), .val (.int g0), .val (.long a_), .second, .val (.long b_), .second, .val (.long c_), .second, .val (.int (2 : Int32)), .val (.int wd), .val (.int k_), .val (.long mt), .second, .val (.ref mk), .val (.ref wn), .val (.ref cd), .unset] [(.int (0 : Int32)), (.ref mk)])) rfl rfl (hb hby at_137) tq_ kq_) ?_
  show own_Go p e below T0 (mkF m 138 #[.val (.int w0), .val (.int g0), .val (.long a_), .second, .val (.long b_), .second, .val (.long c_), .second, .val (.int (2 : Int32)), .val (.int wd), .val (.int k_), .val (.long mt), .second, .val (.ref mk), .val (.ref wn), .val (.ref cd), .unset] [(.long (mv 0))]) _
  refine own_s_lload X0.here hx (hb hby at_138) rfl ?_
  refine own_s_lcmp X0.here hx (hb hby at_140) ?_
  by_cases hc141 : mt < (mv 0)
  ·
    show own_Go p e below T0 (mkF m 141 #[.val (.int w0), .val (.int g0), .val (.long a_), .second, .val (.long b_), .second, .val (.long c_), .second, .val (.int (2 : Int32)), .val (.int wd), .val (.int k_), .val (.long mt), .second, .val (.ref mk), .val (.ref wn), .val (.ref cd), .unset] [(.int (Jvm.Free.XT.cmpL (mv 0) mt))]) _
    refine own_s_ifYes X0.here hx 178 (hb hby at_141) (Jvm.Free.XT.ll_gt_t hc141) (by decide) (by decide) ?_
    refine own_s_iconst X0.here hx (0 : Int32) (hb hby at_178) rfl ?_
    refine own_s_istore X0.here hx #[.val (.int w0), .val (.int g0), .val (.long a_), .second, .val (.long b_), .second, .val (.long c_), .second, .val (.int (2 : Int32)), .val (.int wd), .val (.int k_), .val (.long mt), .second, .val (.ref mk), .val (.ref wn), .val (.ref cd), .val (.int (0 : Int32))] (hb hby at_179) rfl ?_
    refine own_s_aload X0.here hx (hb hby at_181) rfl rfl ?_
    refine own_s_aload X0.here hx (hb hby at_183) rfl rfl ?_
    obtain ⟨cq317, kq317, q317a, q317b, q317c⟩ := isOf hZ e0 E_cd
    obtain ⟨_, _, ⟨T317, L317, k317, n317⟩, -, X317, ⟨Lc317, hQ317, l317, y317, z317⟩, st317⟩ := X0.virtualBack hx (y := (⟨"com/example/lapse/lapse/MarkingCode", "fits", "([J)Z"⟩ : MethodName)) (z := (⟨"com/example/lapse/lapse/MarkingCode", "fits", "([J)Z"⟩ : MethodName)) hown (mvT hZ (hw _ (List.mem_of_getElem? (i := 44) rfl))) (mvT hZ (hw _ (List.mem_of_getElem? (i := 45) rfl))) (notFace_of_selects (args := #[]) (mvT hZ (hw _ (List.mem_of_getElem? (i := 47) rfl)))) (mvT hZ (hw _ (List.mem_of_getElem? (i := 47) rfl))) (mvT hZ (hw _ (List.mem_of_getElem? (i := 46) rfl))) (by decide) (backOf (W := 0) (own_ft2 l Z a0 hw [] cd mk am mo mv h0 n0 Z0 F_cd_most A_am A_mk) hZ (hw _ (List.mem_of_getElem? (i := 48) rfl)) (hw _ (List.mem_of_getElem? (i := 12) rfl)) (by decide) (by decide)) q317a q317c (g := (mkF m 185 #[.val (.int w0), .val (.int g0), .val (.long a_), .second, .val (.long b_), .second, .val (.long c_), .second, .val (.int (2 : Int32)), .val (.int wd), .val (.int k_), .val (.long mt), .second, .val (.ref mk), .val (.ref wn), .val (.ref cd), .val (.int (0 : Int32))] [(.ref mk), (.ref cd)])) rfl (by rw [hml]; rfl) (Steps.refl _) (argsL := [(.ref mk)]) (rest := []) (lenOf own_pd_8 rfl) rfl (by show 2 * 0 + _ ≤ _; exact Nat.le_of_eq rfl) (hb hby at_185) (fun _ _ => ⟨rfl, e0, (by decide : 7 + 0 ≤ _), (by decide : 22 + 0 ≤ _)⟩)
    dsimp only [Pt.U, Pt.locs, Pt.cells, Pt.slots] at X317 l317 y317 z317 st317 hQ317
    subst l317 y317 z317
    obtain ⟨rfl, N317q, e317⟩ := hQ317
    have N317 := Fr.app N0 N317q
    refine own_by (fun t k => st317.trans k) ?_
    show own_Go p e below T317 (mkF m 188 #[.val (.int w0), .val (.int g0), .val (.long a_), .second, .val (.long b_), .second, .val (.long c_), .second, .val (.int (2 : Int32)), .val (.int wd), .val (.int k_), .val (.long mt), .second, .val (.ref mk), .val (.ref wn), .val (.ref cd), .val (.int (0 : Int32))] [(.int (if ((mo 0).toInt64) < (mv 0) then (0 : Int32) else (if ((mo 1).toInt64) < (mv 1) then (0 : Int32) else (1 : Int32))))]) _
    refine own_s_iload X317.here hx (hb hby at_188) rfl ?_
    refine own_s_icmpNo X317.here hx (hb hby at_190) (Jvm.Free.XT.ii_ne_f ((by rw [hm0, hm1, if_pos hc141]))) ?_
    refine own_s_iconst X317.here hx (1 : Int32) (hb hby at_193) rfl ?_
    show own_Go p e below T317 (mkF m 194 #[.val (.int w0), .val (.int g0), .val (.long a_), .second, .val (.long b_), .second, .val (.long c_), .second, .val (.int (2 : Int32)), .val (.int wd), .val (.int k_), .val (.long mt), .second, .val (.ref mk), .val (.ref wn), .val (.ref cd), .val (.int (0 : Int32))] [(.int (1 : Int32))]) _
    refine own_s_goto X317.here hx 198 (hb hby at_194) (by decide) (by decide) ?_
    refine own_retZ X317 hx hret hlk (hb hby at_198) rfl (by decide) (by decide) ?_
    exact ⟨rfl, N317⟩
  ·
    refine own_s_ifNo X0.here hx (hb hby at_141) (Jvm.Free.XT.ll_gt_f hc141) ?_
    refine own_s_iload X0.here hx (hb hby at_144) rfl ?_
    refine own_s_iconst X0.here hx (2 : Int32) (hb hby at_146) rfl ?_
    refine own_s_icmpNo X0.here hx (hb hby at_147) (Jvm.Free.XT.ii_lt_f ((by decide))) ?_
    refine own_s_aload X0.here hx (hb hby at_150) rfl rfl ?_
    refine own_s_iconst X0.here hx (1 : Int32) (hb hby at_152) rfl ?_
    refine own_by (fun tq_ kq_ => own_ldJ X0 hx hZ e0 A_mk (k := 1) (v := (.long (mv 1))) (by decide) (by decide) rfl (g := (mkF m 153 #[.val (.int w0), .val (.int g0), .val (.long a_), .second, .val (.long b_), .second, .val (.long c_), .second, .val (.int (2 : Int32)), .val (.int wd), .val (.int k_), .val (.long mt), .second, .val (.ref mk), .val (.ref wn), .val (.ref cd), .unset] [(.int (1 : Int32)), (.ref mk)])) rfl rfl (hb hby at_153) tq_ kq_) ?_
    show own_Go p e below T0 (mkF m 154 #[.val (.int w0), .val (.int g0), .val (.long a_), .second, .val (.long b_), .second, .val (.long c_), .second, .val (.int (2 : Int32)), .val (.int wd), .val (.int k_), .val (.long mt), .second, .val (.ref mk), .val (.ref wn), .val (.ref cd), .unset] [(.long (mv 1))]) _
    refine own_s_lconst X0.here hx (1 : Int64) (hb hby at_154) rfl ?_
    refine own_s_lcmp X0.here hx (hb hby at_155) ?_
    by_cases hc156 : (1 : Int64) < (mv 1)
    ·
      show own_Go p e below T0 (mkF m 156 #[.val (.int w0), .val (.int g0), .val (.long a_), .second, .val (.long b_), .second, .val (.long c_), .second, .val (.int (2 : Int32)), .val (.int wd), .val (.int k_), .val (.long mt), .second, .val (.ref mk), .val (.ref wn), .val (.ref cd), .unset] [(.int (Jvm.Free.XT.cmpL (mv 1) (1 : Int64)))]) _
      refine own_s_ifYes X0.here hx 178 (hb hby at_156) (Jvm.Free.XT.ll_gt_t hc156) (by decide) (by decide) ?_
      refine own_s_iconst X0.here hx (0 : Int32) (hb hby at_178) rfl ?_
      refine own_s_istore X0.here hx #[.val (.int w0), .val (.int g0), .val (.long a_), .second, .val (.long b_), .second, .val (.long c_), .second, .val (.int (2 : Int32)), .val (.int wd), .val (.int k_), .val (.long mt), .second, .val (.ref mk), .val (.ref wn), .val (.ref cd), .val (.int (0 : Int32))] (hb hby at_179) rfl ?_
      refine own_s_aload X0.here hx (hb hby at_181) rfl rfl ?_
      refine own_s_aload X0.here hx (hb hby at_183) rfl rfl ?_
      obtain ⟨cq318, kq318, q318a, q318b, q318c⟩ := isOf hZ e0 E_cd
      obtain ⟨_, _, ⟨T318, L318, k318, n318⟩, -, X318, ⟨Lc318, hQ318, l318, y318, z318⟩, st318⟩ := X0.virtualBack hx (y := (⟨"com/example/lapse/lapse/MarkingCode", "fits", "([J)Z"⟩ : MethodName)) (z := (⟨"com/example/lapse/lapse/MarkingCode", "fits", "([J)Z"⟩ : MethodName)) hown (mvT hZ (hw _ (List.mem_of_getElem? (i := 44) rfl))) (mvT hZ (hw _ (List.mem_of_getElem? (i := 45) rfl))) (notFace_of_selects (args := #[]) (mvT hZ (hw _ (List.mem_of_getElem? (i := 47) rfl)))) (mvT hZ (hw _ (List.mem_of_getElem? (i := 47) rfl))) (mvT hZ (hw _ (List.mem_of_getElem? (i := 46) rfl))) (by decide) (backOf (W := 0) (own_ft2 l Z a0 hw [] cd mk am mo mv h0 n0 Z0 F_cd_most A_am A_mk) hZ (hw _ (List.mem_of_getElem? (i := 48) rfl)) (hw _ (List.mem_of_getElem? (i := 12) rfl)) (by decide) (by decide)) q318a q318c (g := (mkF m 185 #[.val (.int w0), .val (.int g0), .val (.long a_), .second, .val (.long b_), .second, .val (.long c_), .second, .val (.int (2 : Int32)), .val (.int wd), .val (.int k_), .val (.long mt), .second, .val (.ref mk), .val (.ref wn), .val (.ref cd), .val (.int (0 : Int32))] [(.ref mk), (.ref cd)])) rfl (by rw [hml]; rfl) (Steps.refl _) (argsL := [(.ref mk)]) (rest := []) (lenOf own_pd_8 rfl) rfl (by show 2 * 0 + _ ≤ _; exact Nat.le_of_eq rfl) (hb hby at_185) (fun _ _ => ⟨rfl, e0, (by decide : 7 + 0 ≤ _), (by decide : 22 + 0 ≤ _)⟩)
      dsimp only [Pt.U, Pt.locs, Pt.cells, Pt.slots] at X318 l318 y318 z318 st318 hQ318
      subst l318 y318 z318
      obtain ⟨rfl, N318q, e318⟩ := hQ318
      have N318 := Fr.app N0 N318q
      refine own_by (fun t k => st318.trans k) ?_
      show own_Go p e below T318 (mkF m 188 #[.val (.int w0), .val (.int g0), .val (.long a_), .second, .val (.long b_), .second, .val (.long c_), .second, .val (.int (2 : Int32)), .val (.int wd), .val (.int k_), .val (.long mt), .second, .val (.ref mk), .val (.ref wn), .val (.ref cd), .val (.int (0 : Int32))] [(.int (if ((mo 0).toInt64) < (mv 0) then (0 : Int32) else (if ((mo 1).toInt64) < (mv 1) then (0 : Int32) else (1 : Int32))))]) _
      refine own_s_iload X318.here hx (hb hby at_188) rfl ?_
      refine own_s_icmpNo X318.here hx (hb hby at_190) (Jvm.Free.XT.ii_ne_f ((by rw [hm0, hm1, if_neg hc141, if_pos hc156]))) ?_
      refine own_s_iconst X318.here hx (1 : Int32) (hb hby at_193) rfl ?_
      show own_Go p e below T318 (mkF m 194 #[.val (.int w0), .val (.int g0), .val (.long a_), .second, .val (.long b_), .second, .val (.long c_), .second, .val (.int (2 : Int32)), .val (.int wd), .val (.int k_), .val (.long mt), .second, .val (.ref mk), .val (.ref wn), .val (.ref cd), .val (.int (0 : Int32))] [(.int (1 : Int32))]) _
      refine own_s_goto X318.here hx 198 (hb hby at_194) (by decide) (by decide) ?_
      refine own_retZ X318 hx hret hlk (hb hby at_198) rfl (by decide) (by decide) ?_
      exact ⟨rfl, N318⟩
    ·
      refine own_s_ifNo X0.here hx (hb hby at_156) (Jvm.Free.XT.ll_gt_f hc156) ?_
      refine own_s_iload X0.here hx (hb hby at_159) rfl ?_
      refine own_s_iconst X0.here hx (3 : Int32) (hb hby at_161) rfl ?_
      show own_Go p e below T0 (mkF m 162 #[.val (.int w0), .val (.int g0), .val (.long a_), .second, .val (.long b_), .second, .val (.long c_), .second, .val (.int (2 : Int32)), .val (.int wd), .val (.int k_), .val (.long mt), .second, .val (.ref mk), .val (.ref wn), .val (.ref cd), .unset] [(.int (3 : Int32)), (.int (2 : Int32))]) _
      refine own_s_icmpYes X0.here hx 174 (hb hby at_162) (Jvm.Free.XT.ii_lt_t ((by decide))) (by decide) (by decide) ?_
      refine own_s_iconst X0.here hx (1 : Int32) (hb hby at_174) rfl ?_
      show own_Go p e below T0 (mkF m 175 #[.val (.int w0), .val (.int g0), .val (.long a_), .second, .val (.long b_), .second, .val (.long c_), .second, .val (.int (2 : Int32)), .val (.int wd), .val (.int k_), .val (.long mt), .second, .val (.ref mk), .val (.ref wn), .val (.ref cd), .unset] [(.int (1 : Int32))]) _
      refine own_s_goto X0.here hx 179 (hb hby at_175) (by decide) (by decide) ?_
      refine own_s_istore X0.here hx #[.val (.int w0), .val (.int g0), .val (.long a_), .second, .val (.long b_), .second, .val (.long c_), .second, .val (.int (2 : Int32)), .val (.int wd), .val (.int k_), .val (.long mt), .second, .val (.ref mk), .val (.ref wn), .val (.ref cd), .val (.int (1 : Int32))] (hb hby at_179) rfl ?_
      refine own_s_aload X0.here hx (hb hby at_181) rfl rfl ?_
      refine own_s_aload X0.here hx (hb hby at_183) rfl rfl ?_
      obtain ⟨cq319, kq319, q319a, q319b, q319c⟩ := isOf hZ e0 E_cd
      obtain ⟨_, _, ⟨T319, L319, k319, n319⟩, -, X319, ⟨Lc319, hQ319, l319, y319, z319⟩, st319⟩ := X0.virtualBack hx (y := (⟨"com/example/lapse/lapse/MarkingCode", "fits", "([J)Z"⟩ : MethodName)) (z := (⟨"com/example/lapse/lapse/MarkingCode", "fits", "([J)Z"⟩ : MethodName)) hown (mvT hZ (hw _ (List.mem_of_getElem? (i := 44) rfl))) (mvT hZ (hw _ (List.mem_of_getElem? (i := 45) rfl))) (notFace_of_selects (args := #[]) (mvT hZ (hw _ (List.mem_of_getElem? (i := 47) rfl)))) (mvT hZ (hw _ (List.mem_of_getElem? (i := 47) rfl))) (mvT hZ (hw _ (List.mem_of_getElem? (i := 46) rfl))) (by decide) (backOf (W := 0) (own_ft2 l Z a0 hw [] cd mk am mo mv h0 n0 Z0 F_cd_most A_am A_mk) hZ (hw _ (List.mem_of_getElem? (i := 48) rfl)) (hw _ (List.mem_of_getElem? (i := 12) rfl)) (by decide) (by decide)) q319a q319c (g := (mkF m 185 #[.val (.int w0), .val (.int g0), .val (.long a_), .second, .val (.long b_), .second, .val (.long c_), .second, .val (.int (2 : Int32)), .val (.int wd), .val (.int k_), .val (.long mt), .second, .val (.ref mk), .val (.ref wn), .val (.ref cd), .val (.int (1 : Int32))] [(.ref mk), (.ref cd)])) rfl (by rw [hml]; rfl) (Steps.refl _) (argsL := [(.ref mk)]) (rest := []) (lenOf own_pd_8 rfl) rfl (by show 2 * 0 + _ ≤ _; exact Nat.le_of_eq rfl) (hb hby at_185) (fun _ _ => ⟨rfl, e0, (by decide : 7 + 0 ≤ _), (by decide : 22 + 0 ≤ _)⟩)
      dsimp only [Pt.U, Pt.locs, Pt.cells, Pt.slots] at X319 l319 y319 z319 st319 hQ319
      subst l319 y319 z319
      obtain ⟨rfl, N319q, e319⟩ := hQ319
      have N319 := Fr.app N0 N319q
      refine own_by (fun t k => st319.trans k) ?_
      show own_Go p e below T319 (mkF m 188 #[.val (.int w0), .val (.int g0), .val (.long a_), .second, .val (.long b_), .second, .val (.long c_), .second, .val (.int (2 : Int32)), .val (.int wd), .val (.int k_), .val (.long mt), .second, .val (.ref mk), .val (.ref wn), .val (.ref cd), .val (.int (1 : Int32))] [(.int (if ((mo 0).toInt64) < (mv 0) then (0 : Int32) else (if ((mo 1).toInt64) < (mv 1) then (0 : Int32) else (1 : Int32))))]) _
      refine own_s_iload X319.here hx (hb hby at_188) rfl ?_
      refine own_s_icmpNo X319.here hx (hb hby at_190) (Jvm.Free.XT.ii_ne_f ((by rw [hm0, hm1, if_neg hc141, if_neg hc156]))) ?_
      refine own_s_iconst X319.here hx (1 : Int32) (hb hby at_193) rfl ?_
      show own_Go p e below T319 (mkF m 194 #[.val (.int w0), .val (.int g0), .val (.long a_), .second, .val (.long b_), .second, .val (.long c_), .second, .val (.int (2 : Int32)), .val (.int wd), .val (.int k_), .val (.long mt), .second, .val (.ref mk), .val (.ref wn), .val (.ref cd), .val (.int (1 : Int32))] [(.int (1 : Int32))]) _
      refine own_s_goto X319.here hx 198 (hb hby at_194) (by decide) (by decide) ?_
      refine own_retZ X319 hx hret hlk (hb hby at_198) rfl (by decide) (by decide) ?_
      exact ⟨rfl, N319⟩
set_option maxRecDepth 65536 in
set_option maxHeartbeats 40000000 in
theorem own_t2w {p : Program} {l : Launch} {e : Env} {s : State} {m : MethodId} {args : Array Value} {below : List Frame} {meth : Method} {c : Code} {Z : State} {a0 : Array Value} {n0 : Nat} (hx : p.tables.exec = Jvm.exec) (hZ : Z.Warmed39 s.vm) (hw : ∀ d ∈ tables_1, d.before a0 Z = true) (hby : c.code = code) (hml : c.maxLocals = 17) (hown : s.vm.findClass "com/example/lapse/lapse/MarkingCodeFitsPinLaw" = some m.cls) (hnm : meth.name = "law") (hret : meth.sig.returnType = (some .boolean)) (hlk : meth.locks = false) (w0 g0 wd k_ : Int32) (a_ b_ c_ mt : Int64) (mk wn cd am : Addr) (mo : Nat → Int32) (mv : Nat → Int64) {T0 : State} {locs : List Loc} {h0 : Heap} (X0 : Stand p l e room_1 s m args below meth c T0 locs 12 37) (e0 : T0.heap = h0) (N0 : Fr n0 locs) (Z0 : n0 ≤ h0.size) (hm0 : ((mo 0).toInt64) = mt) (hm1 : ((mo 1).toInt64) = (1 : Int64)) (E_cd : Exa Z h0 cd "com/example/lapse/lapse/MarkingCode") (F_cd_most : Fld Z h0 cd "com/example/lapse/lapse/MarkingCode" "most" "[I" (.ref am)) (A_am : own_Av Z h0 am .int 2 (fun j => .int (mo j))) (A_mk : own_Av Z h0 mk .long 3 (fun j => .long (mv j))) :
    own_Go p e below T0 (mkF m 128 #[.val (.int w0), .val (.int g0), .val (.long a_), .second, .val (.long b_), .second, .val (.long c_), .second, .val (.int (2 : Int32)), .val (.int wd), .val (.int k_), .val (.long mt), .second, .val (.ref mk), .val (.ref wn), .val (.ref cd), .unset] []) (own_Fin s (fun (v : Option Value) (h : Heap) (L : List Loc) => v = some (.int 1) ∧ Fr n0 L) 32 192) := by
  show own_Go p e below T0 (mkF m 128 #[.val (.int w0), .val (.int g0), .val (.long a_), .second, .val (.long b_), .second, .val (.long c_), .second, .val (.int (2 : Int32)), .val (.int wd), .val (.int k_), .val (.long mt), .second, .val (.ref mk), .val (.ref wn), .val (.ref cd), .unset] []) _
  refine own_s_iload X0.here hx (hb hby at_128) rfl ?_
  refine own_s_iconst X0.here hx (1 : Int32) (hb hby at_130) rfl ?_
  refine own_s_icmpNo X0.here hx (hb hby at_131) (Jvm.Free.XT.ii_lt_f ((by decide))) ?_
  refine own_s_aload X0.here hx (hb hby at_134) rfl rfl ?_
  refine own_s_iconst X0.here hx (0 : Int32) (hb hby at_136) rfl ?_
  refine own_by (fun tq_ kq_ => own_ldJ X0 hx hZ e0 A_mk (k := 0) (v := (.long (mv 0))) (by decide) (by decide) rfl (g := (mkF m 137 #[.val (.int w0), .val (.int g0), .val (.long a_), .second, .val (.long b_), .second, .val (.long c_), .second, .val (.int (2 : Int32)), .val (.int wd), .val (.int k_), .val (.long mt), .second, .val (.ref mk), .val (.ref wn), .val (.ref cd), .unset] [(.int (0 : Int32)), (.ref mk)])) rfl rfl (hb hby at_137) tq_ kq_) ?_
  show own_Go p e below T0 (mkF m 138 #[.val (.int w0), .val (.int g0), .val (.long a_), .second, .val (.long b_), .second, .val (.long c_), .second, .val (.int (2 : Int32)), .val (.int wd), .val (.int k_), .val (.long mt), .second, .val (.ref mk), .val (.ref wn), .val (.ref cd), .unset] [(.long (mv 0))]) _
  refine own_s_lload X0.here hx (hb hby at_138) rfl ?_
  refine own_s_lcmp X0.here hx (hb hby at_140) ?_
  by_cases hc141 : mt < (mv 0)
  ·
    show own_Go p e below T0 (mkF m 141 #[.val (.int w0), .val (.int g0), .val (.long a_), .second, .val (.long b_), .second, .val (.long c_), .second, .val (.int (2 : Int32)), .val (.int wd), .val (.int k_), .val (.long mt), .second, .val (.ref mk), .val (.ref wn), .val (.ref cd), .unset] [(.int (Jvm.Free.XT.cmpL (mv 0) mt))]) _
    refine own_s_ifYes X0.here hx 178 (hb hby at_141) (Jvm.Free.XT.ll_gt_t hc141) (by decide) (by decide) ?_
    refine own_s_iconst X0.here hx (0 : Int32) (hb hby at_178) rfl ?_
    refine own_s_istore X0.here hx #[.val (.int w0), .val (.int g0), .val (.long a_), .second, .val (.long b_), .second, .val (.long c_), .second, .val (.int (2 : Int32)), .val (.int wd), .val (.int k_), .val (.long mt), .second, .val (.ref mk), .val (.ref wn), .val (.ref cd), .val (.int (0 : Int32))] (hb hby at_179) rfl ?_
    refine own_s_aload X0.here hx (hb hby at_181) rfl rfl ?_
    refine own_s_aload X0.here hx (hb hby at_183) rfl rfl ?_
    obtain ⟨cq320, kq320, q320a, q320b, q320c⟩ := isOf hZ e0 E_cd
    obtain ⟨_, _, ⟨T320, L320, k320, n320⟩, -, X320, ⟨Lc320, hQ320, l320, y320, z320⟩, st320⟩ := X0.virtualBack hx (y := (⟨"com/example/lapse/lapse/MarkingCode", "fits", "([J)Z"⟩ : MethodName)) (z := (⟨"com/example/lapse/lapse/MarkingCode", "fits", "([J)Z"⟩ : MethodName)) hown (mvT hZ (hw _ (List.mem_of_getElem? (i := 44) rfl))) (mvT hZ (hw _ (List.mem_of_getElem? (i := 45) rfl))) (notFace_of_selects (args := #[]) (mvT hZ (hw _ (List.mem_of_getElem? (i := 47) rfl)))) (mvT hZ (hw _ (List.mem_of_getElem? (i := 47) rfl))) (mvT hZ (hw _ (List.mem_of_getElem? (i := 46) rfl))) (by decide) (backOf (W := 0) (own_ft2 l Z a0 hw [] cd mk am mo mv h0 n0 Z0 F_cd_most A_am A_mk) hZ (hw _ (List.mem_of_getElem? (i := 48) rfl)) (hw _ (List.mem_of_getElem? (i := 12) rfl)) (by decide) (by decide)) q320a q320c (g := (mkF m 185 #[.val (.int w0), .val (.int g0), .val (.long a_), .second, .val (.long b_), .second, .val (.long c_), .second, .val (.int (2 : Int32)), .val (.int wd), .val (.int k_), .val (.long mt), .second, .val (.ref mk), .val (.ref wn), .val (.ref cd), .val (.int (0 : Int32))] [(.ref mk), (.ref cd)])) rfl (by rw [hml]; rfl) (Steps.refl _) (argsL := [(.ref mk)]) (rest := []) (lenOf own_pd_8 rfl) rfl (by show 2 * 0 + _ ≤ _; exact Nat.le_of_eq rfl) (hb hby at_185) (fun _ _ => ⟨rfl, e0, (by decide : 12 + 0 ≤ _), (by decide : 37 + 0 ≤ _)⟩)
    dsimp only [Pt.U, Pt.locs, Pt.cells, Pt.slots] at X320 l320 y320 z320 st320 hQ320
    subst l320 y320 z320
    obtain ⟨rfl, N320q, e320⟩ := hQ320
    have N320 := Fr.app N0 N320q
    refine own_by (fun t k => st320.trans k) ?_
    show own_Go p e below T320 (mkF m 188 #[.val (.int w0), .val (.int g0), .val (.long a_), .second, .val (.long b_), .second, .val (.long c_), .second, .val (.int (2 : Int32)), .val (.int wd), .val (.int k_), .val (.long mt), .second, .val (.ref mk), .val (.ref wn), .val (.ref cd), .val (.int (0 : Int32))] [(.int (if ((mo 0).toInt64) < (mv 0) then (0 : Int32) else (if ((mo 1).toInt64) < (mv 1) then (0 : Int32) else (1 : Int32))))]) _
    refine own_s_iload X320.here hx (hb hby at_188) rfl ?_
    refine own_s_icmpNo X320.here hx (hb hby at_190) (Jvm.Free.XT.ii_ne_f ((by rw [hm0, hm1, if_pos hc141]))) ?_
    refine own_s_iconst X320.here hx (1 : Int32) (hb hby at_193) rfl ?_
    show own_Go p e below T320 (mkF m 194 #[.val (.int w0), .val (.int g0), .val (.long a_), .second, .val (.long b_), .second, .val (.long c_), .second, .val (.int (2 : Int32)), .val (.int wd), .val (.int k_), .val (.long mt), .second, .val (.ref mk), .val (.ref wn), .val (.ref cd), .val (.int (0 : Int32))] [(.int (1 : Int32))]) _
    refine own_s_goto X320.here hx 198 (hb hby at_194) (by decide) (by decide) ?_
    refine own_retZ X320 hx hret hlk (hb hby at_198) rfl (by decide) (by decide) ?_
    exact ⟨rfl, N320⟩
  ·
    refine own_s_ifNo X0.here hx (hb hby at_141) (Jvm.Free.XT.ll_gt_f hc141) ?_
    refine own_s_iload X0.here hx (hb hby at_144) rfl ?_
    refine own_s_iconst X0.here hx (2 : Int32) (hb hby at_146) rfl ?_
    refine own_s_icmpNo X0.here hx (hb hby at_147) (Jvm.Free.XT.ii_lt_f ((by decide))) ?_
    refine own_s_aload X0.here hx (hb hby at_150) rfl rfl ?_
    refine own_s_iconst X0.here hx (1 : Int32) (hb hby at_152) rfl ?_
    refine own_by (fun tq_ kq_ => own_ldJ X0 hx hZ e0 A_mk (k := 1) (v := (.long (mv 1))) (by decide) (by decide) rfl (g := (mkF m 153 #[.val (.int w0), .val (.int g0), .val (.long a_), .second, .val (.long b_), .second, .val (.long c_), .second, .val (.int (2 : Int32)), .val (.int wd), .val (.int k_), .val (.long mt), .second, .val (.ref mk), .val (.ref wn), .val (.ref cd), .unset] [(.int (1 : Int32)), (.ref mk)])) rfl rfl (hb hby at_153) tq_ kq_) ?_
    show own_Go p e below T0 (mkF m 154 #[.val (.int w0), .val (.int g0), .val (.long a_), .second, .val (.long b_), .second, .val (.long c_), .second, .val (.int (2 : Int32)), .val (.int wd), .val (.int k_), .val (.long mt), .second, .val (.ref mk), .val (.ref wn), .val (.ref cd), .unset] [(.long (mv 1))]) _
    refine own_s_lconst X0.here hx (1 : Int64) (hb hby at_154) rfl ?_
    refine own_s_lcmp X0.here hx (hb hby at_155) ?_
    by_cases hc156 : (1 : Int64) < (mv 1)
    ·
      show own_Go p e below T0 (mkF m 156 #[.val (.int w0), .val (.int g0), .val (.long a_), .second, .val (.long b_), .second, .val (.long c_), .second, .val (.int (2 : Int32)), .val (.int wd), .val (.int k_), .val (.long mt), .second, .val (.ref mk), .val (.ref wn), .val (.ref cd), .unset] [(.int (Jvm.Free.XT.cmpL (mv 1) (1 : Int64)))]) _
      refine own_s_ifYes X0.here hx 178 (hb hby at_156) (Jvm.Free.XT.ll_gt_t hc156) (by decide) (by decide) ?_
      refine own_s_iconst X0.here hx (0 : Int32) (hb hby at_178) rfl ?_
      refine own_s_istore X0.here hx #[.val (.int w0), .val (.int g0), .val (.long a_), .second, .val (.long b_), .second, .val (.long c_), .second, .val (.int (2 : Int32)), .val (.int wd), .val (.int k_), .val (.long mt), .second, .val (.ref mk), .val (.ref wn), .val (.ref cd), .val (.int (0 : Int32))] (hb hby at_179) rfl ?_
      refine own_s_aload X0.here hx (hb hby at_181) rfl rfl ?_
      refine own_s_aload X0.here hx (hb hby at_183) rfl rfl ?_
      obtain ⟨cq321, kq321, q321a, q321b, q321c⟩ := isOf hZ e0 E_cd
      obtain ⟨_, _, ⟨T321, L321, k321, n321⟩, -, X321, ⟨Lc321, hQ321, l321, y321, z321⟩, st321⟩ := X0.virtualBack hx (y := (⟨"com/example/lapse/lapse/MarkingCode", "fits", "([J)Z"⟩ : MethodName)) (z := (⟨"com/example/lapse/lapse/MarkingCode", "fits", "([J)Z"⟩ : MethodName)) hown (mvT hZ (hw _ (List.mem_of_getElem? (i := 44) rfl))) (mvT hZ (hw _ (List.mem_of_getElem? (i := 45) rfl))) (notFace_of_selects (args := #[]) (mvT hZ (hw _ (List.mem_of_getElem? (i := 47) rfl)))) (mvT hZ (hw _ (List.mem_of_getElem? (i := 47) rfl))) (mvT hZ (hw _ (List.mem_of_getElem? (i := 46) rfl))) (by decide) (backOf (W := 0) (own_ft2 l Z a0 hw [] cd mk am mo mv h0 n0 Z0 F_cd_most A_am A_mk) hZ (hw _ (List.mem_of_getElem? (i := 48) rfl)) (hw _ (List.mem_of_getElem? (i := 12) rfl)) (by decide) (by decide)) q321a q321c (g := (mkF m 185 #[.val (.int w0), .val (.int g0), .val (.long a_), .second, .val (.long b_), .second, .val (.long c_), .second, .val (.int (2 : Int32)), .val (.int wd), .val (.int k_), .val (.long mt), .second, .val (.ref mk), .val (.ref wn), .val (.ref cd), .val (.int (0 : Int32))] [(.ref mk), (.ref cd)])) rfl (by rw [hml]; rfl) (Steps.refl _) (argsL := [(.ref mk)]) (rest := []) (lenOf own_pd_8 rfl) rfl (by show 2 * 0 + _ ≤ _; exact Nat.le_of_eq rfl) (hb hby at_185) (fun _ _ => ⟨rfl, e0, (by decide : 12 + 0 ≤ _), (by decide : 37 + 0 ≤ _)⟩)
      dsimp only [Pt.U, Pt.locs, Pt.cells, Pt.slots] at X321 l321 y321 z321 st321 hQ321
      subst l321 y321 z321
      obtain ⟨rfl, N321q, e321⟩ := hQ321
      have N321 := Fr.app N0 N321q
      refine own_by (fun t k => st321.trans k) ?_
      show own_Go p e below T321 (mkF m 188 #[.val (.int w0), .val (.int g0), .val (.long a_), .second, .val (.long b_), .second, .val (.long c_), .second, .val (.int (2 : Int32)), .val (.int wd), .val (.int k_), .val (.long mt), .second, .val (.ref mk), .val (.ref wn), .val (.ref cd), .val (.int (0 : Int32))] [(.int (if ((mo 0).toInt64) < (mv 0) then (0 : Int32) else (if ((mo 1).toInt64) < (mv 1) then (0 : Int32) else (1 : Int32))))]) _
      refine own_s_iload X321.here hx (hb hby at_188) rfl ?_
      refine own_s_icmpNo X321.here hx (hb hby at_190) (Jvm.Free.XT.ii_ne_f ((by rw [hm0, hm1, if_neg hc141, if_pos hc156]))) ?_
      refine own_s_iconst X321.here hx (1 : Int32) (hb hby at_193) rfl ?_
      show own_Go p e below T321 (mkF m 194 #[.val (.int w0), .val (.int g0), .val (.long a_), .second, .val (.long b_), .second, .val (.long c_), .second, .val (.int (2 : Int32)), .val (.int wd), .val (.int k_), .val (.long mt), .second, .val (.ref mk), .val (.ref wn), .val (.ref cd), .val (.int (0 : Int32))] [(.int (1 : Int32))]) _
      refine own_s_goto X321.here hx 198 (hb hby at_194) (by decide) (by decide) ?_
      refine own_retZ X321 hx hret hlk (hb hby at_198) rfl (by decide) (by decide) ?_
      exact ⟨rfl, N321⟩
    ·
      refine own_s_ifNo X0.here hx (hb hby at_156) (Jvm.Free.XT.ll_gt_f hc156) ?_
      refine own_s_iload X0.here hx (hb hby at_159) rfl ?_
      refine own_s_iconst X0.here hx (3 : Int32) (hb hby at_161) rfl ?_
      show own_Go p e below T0 (mkF m 162 #[.val (.int w0), .val (.int g0), .val (.long a_), .second, .val (.long b_), .second, .val (.long c_), .second, .val (.int (2 : Int32)), .val (.int wd), .val (.int k_), .val (.long mt), .second, .val (.ref mk), .val (.ref wn), .val (.ref cd), .unset] [(.int (3 : Int32)), (.int (2 : Int32))]) _
      refine own_s_icmpYes X0.here hx 174 (hb hby at_162) (Jvm.Free.XT.ii_lt_t ((by decide))) (by decide) (by decide) ?_
      refine own_s_iconst X0.here hx (1 : Int32) (hb hby at_174) rfl ?_
      show own_Go p e below T0 (mkF m 175 #[.val (.int w0), .val (.int g0), .val (.long a_), .second, .val (.long b_), .second, .val (.long c_), .second, .val (.int (2 : Int32)), .val (.int wd), .val (.int k_), .val (.long mt), .second, .val (.ref mk), .val (.ref wn), .val (.ref cd), .unset] [(.int (1 : Int32))]) _
      refine own_s_goto X0.here hx 179 (hb hby at_175) (by decide) (by decide) ?_
      refine own_s_istore X0.here hx #[.val (.int w0), .val (.int g0), .val (.long a_), .second, .val (.long b_), .second, .val (.long c_), .second, .val (.int (2 : Int32)), .val (.int wd), .val (.int k_), .val (.long mt), .second, .val (.ref mk), .val (.ref wn), .val (.ref cd), .val (.int (1 : Int32))] (hb hby at_179) rfl ?_
      refine own_s_aload X0.here hx (hb hby at_181) rfl rfl ?_
      refine own_s_aload X0.here hx (hb hby at_183) rfl rfl ?_
      obtain ⟨cq322, kq322, q322a, q322b, q322c⟩ := isOf hZ e0 E_cd
      obtain ⟨_, _, ⟨T322, L322, k322, n322⟩, -, X322, ⟨Lc322, hQ322, l322, y322, z322⟩, st322⟩ := X0.virtualBack hx (y := (⟨"com/example/lapse/lapse/MarkingCode", "fits", "([J)Z"⟩ : MethodName)) (z := (⟨"com/example/lapse/lapse/MarkingCode", "fits", "([J)Z"⟩ : MethodName)) hown (mvT hZ (hw _ (List.mem_of_getElem? (i := 44) rfl))) (mvT hZ (hw _ (List.mem_of_getElem? (i := 45) rfl))) (notFace_of_selects (args := #[]) (mvT hZ (hw _ (List.mem_of_getElem? (i := 47) rfl)))) (mvT hZ (hw _ (List.mem_of_getElem? (i := 47) rfl))) (mvT hZ (hw _ (List.mem_of_getElem? (i := 46) rfl))) (by decide) (backOf (W := 0) (own_ft2 l Z a0 hw [] cd mk am mo mv h0 n0 Z0 F_cd_most A_am A_mk) hZ (hw _ (List.mem_of_getElem? (i := 48) rfl)) (hw _ (List.mem_of_getElem? (i := 12) rfl)) (by decide) (by decide)) q322a q322c (g := (mkF m 185 #[.val (.int w0), .val (.int g0), .val (.long a_), .second, .val (.long b_), .second, .val (.long c_), .second, .val (.int (2 : Int32)), .val (.int wd), .val (.int k_), .val (.long mt), .second, .val (.ref mk), .val (.ref wn), .val (.ref cd), .val (.int (1 : Int32))] [(.ref mk), (.ref cd)])) rfl (by rw [hml]; rfl) (Steps.refl _) (argsL := [(.ref mk)]) (rest := []) (lenOf own_pd_8 rfl) rfl (by show 2 * 0 + _ ≤ _; exact Nat.le_of_eq rfl) (hb hby at_185) (fun _ _ => ⟨rfl, e0, (by decide : 12 + 0 ≤ _), (by decide : 37 + 0 ≤ _)⟩)
      dsimp only [Pt.U, Pt.locs, Pt.cells, Pt.slots] at X322 l322 y322 z322 st322 hQ322
      subst l322 y322 z322
      obtain ⟨rfl, N322q, e322⟩ := hQ322
      have N322 := Fr.app N0 N322q
      refine own_by (fun t k => st322.trans k) ?_
      show own_Go p e below T322 (mkF m 188 #[.val (.int w0), .val (.int g0), .val (.long a_), .second, .val (.long b_), .second, .val (.long c_), .second, .val (.int (2 : Int32)), .val (.int wd), .val (.int k_), .val (.long mt), .second, .val (.ref mk), .val (.ref wn), .val (.ref cd), .val (.int (1 : Int32))] [(.int (if ((mo 0).toInt64) < (mv 0) then (0 : Int32) else (if ((mo 1).toInt64) < (mv 1) then (0 : Int32) else (1 : Int32))))]) _
      refine own_s_iload X322.here hx (hb hby at_188) rfl ?_
      refine own_s_icmpNo X322.here hx (hb hby at_190) (Jvm.Free.XT.ii_ne_f ((by rw [hm0, hm1, if_neg hc141, if_neg hc156]))) ?_
      refine own_s_iconst X322.here hx (1 : Int32) (hb hby at_193) rfl ?_
      show own_Go p e below T322 (mkF m 194 #[.val (.int w0), .val (.int g0), .val (.long a_), .second, .val (.long b_), .second, .val (.long c_), .second, .val (.int (2 : Int32)), .val (.int wd), .val (.int k_), .val (.long mt), .second, .val (.ref mk), .val (.ref wn), .val (.ref cd), .val (.int (1 : Int32))] [(.int (1 : Int32))]) _
      refine own_s_goto X322.here hx 198 (hb hby at_194) (by decide) (by decide) ?_
      refine own_retZ X322 hx hret hlk (hb hby at_198) rfl (by decide) (by decide) ?_
      exact ⟨rfl, N322⟩
set_option maxRecDepth 65536 in
set_option maxHeartbeats 40000000 in
theorem own_t3n {p : Program} {l : Launch} {e : Env} {s : State} {m : MethodId} {args : Array Value} {below : List Frame} {meth : Method} {c : Code} {Z : State} {a0 : Array Value} {n0 : Nat} (hx : p.tables.exec = Jvm.exec) (hZ : Z.Warmed39 s.vm) (hw : ∀ d ∈ tables_1, d.before a0 Z = true) (hby : c.code = code) (hml : c.maxLocals = 17) (hown : s.vm.findClass "com/example/lapse/lapse/MarkingCodeFitsPinLaw" = some m.cls) (hnm : meth.name = "law") (hret : meth.sig.returnType = (some .boolean)) (hlk : meth.locks = false) (w0 g0 wd k_ : Int32) (a_ b_ c_ mt : Int64) (mk wn cd am : Addr) (mo : Nat → Int32) (mv : Nat → Int64) {T0 : State} {locs : List Loc} {h0 : Heap} (X0 : Stand p l e room_1 s m args below meth c T0 locs 7 22) (e0 : T0.heap = h0) (N0 : Fr n0 locs) (Z0 : n0 ≤ h0.size) (hm0 : ((mo 0).toInt64) = mt) (hm1 : ((mo 1).toInt64) = (1 : Int64)) (hm2 : ((mo 2).toInt64) = (1 : Int64)) (E_cd : Exa Z h0 cd "com/example/lapse/lapse/MarkingCode") (F_cd_most : Fld Z h0 cd "com/example/lapse/lapse/MarkingCode" "most" "[I" (.ref am)) (A_am : own_Av Z h0 am .int 3 (fun j => .int (mo j))) (A_mk : own_Av Z h0 mk .long 3 (fun j => .long (mv j))) :
    own_Go p e below T0 (mkF m 128 #[.val (.int w0), .val (.int g0), .val (.long a_), .second, .val (.long b_), .second, .val (.long c_), .second, .val (.int (3 : Int32)), .val (.int wd), .val (.int k_), .val (.long mt), .second, .val (.ref mk), .val (.ref wn), .val (.ref cd), .unset] []) (own_Fin s (fun (v : Option Value) (h : Heap) (L : List Loc) => v = some (.int 1) ∧ Fr n0 L) 32 192) := by
  show own_Go p e below T0 (mkF m 128 #[.val (.int w0), .val (.int g0), .val (.long a_), .second, .val (.long b_), .second, .val (.long c_), .second, .val (.int (3 : Int32)), .val (.int wd), .val (.int k_), .val (.long mt), .second, .val (.ref mk), .val (.ref wn), .val (.ref cd), .unset] []) _
  refine own_s_iload X0.here hx (hb hby at_128) rfl ?_
  refine own_s_iconst X0.here hx (1 : Int32) (hb hby at_130) rfl ?_
  refine own_s_icmpNo X0.here hx (hb hby at_131) (Jvm.Free.XT.ii_lt_f ((by decide))) ?_
  refine own_s_aload X0.here hx (hb hby at_134) rfl rfl ?_
  refine own_s_iconst X0.here hx (0 : Int32) (hb hby at_136) rfl ?_
  refine own_by (fun tq_ kq_ => own_ldJ X0 hx hZ e0 A_mk (k := 0) (v := (.long (mv 0))) (by decide) (by decide) rfl (g := (mkF m 137 #[.val (.int w0), .val (.int g0), .val (.long a_), .second, .val (.long b_), .second, .val (.long c_), .second, .val (.int (3 : Int32)), .val (.int wd), .val (.int k_), .val (.long mt), .second, .val (.ref mk), .val (.ref wn), .val (.ref cd), .unset] [(.int (0 : Int32)), (.ref mk)])) rfl rfl (hb hby at_137) tq_ kq_) ?_
  show own_Go p e below T0 (mkF m 138 #[.val (.int w0), .val (.int g0), .val (.long a_), .second, .val (.long b_), .second, .val (.long c_), .second, .val (.int (3 : Int32)), .val (.int wd), .val (.int k_), .val (.long mt), .second, .val (.ref mk), .val (.ref wn), .val (.ref cd), .unset] [(.long (mv 0))]) _
  refine own_s_lload X0.here hx (hb hby at_138) rfl ?_
  refine own_s_lcmp X0.here hx (hb hby at_140) ?_
  by_cases hc141 : mt < (mv 0)
  ·
    show own_Go p e below T0 (mkF m 141 #[.val (.int w0), .val (.int g0), .val (.long a_), .second, .val (.long b_), .second, .val (.long c_), .second, .val (.int (3 : Int32)), .val (.int wd), .val (.int k_), .val (.long mt), .second, .val (.ref mk), .val (.ref wn), .val (.ref cd), .unset] [(.int (Jvm.Free.XT.cmpL (mv 0) mt))]) _
    refine own_s_ifYes X0.here hx 178 (hb hby at_141) (Jvm.Free.XT.ll_gt_t hc141) (by decide) (by decide) ?_
    refine own_s_iconst X0.here hx (0 : Int32) (hb hby at_178) rfl ?_
    refine own_s_istore X0.here hx #[.val (.int w0), .val (.int g0), .val (.long a_), .second, .val (.long b_), .second, .val (.long c_), .second, .val (.int (3 : Int32)), .val (.int wd), .val (.int k_), .val (.long mt), .second, .val (.ref mk), .val (.ref wn), .val (.ref cd), .val (.int (0 : Int32))] (hb hby at_179) rfl ?_
    refine own_s_aload X0.here hx (hb hby at_181) rfl rfl ?_
    refine own_s_aload X0.here hx (hb hby at_183) rfl rfl ?_
    obtain ⟨cq323, kq323, q323a, q323b, q323c⟩ := isOf hZ e0 E_cd
    obtain ⟨_, _, ⟨T323, L323, k323, n323⟩, -, X323, ⟨Lc323, hQ323, l323, y323, z323⟩, st323⟩ := X0.virtualBack hx (y := (⟨"com/example/lapse/lapse/MarkingCode", "fits", "([J)Z"⟩ : MethodName)) (z := (⟨"com/example/lapse/lapse/MarkingCode", "fits", "([J)Z"⟩ : MethodName)) hown (mvT hZ (hw _ (List.mem_of_getElem? (i := 44) rfl))) (mvT hZ (hw _ (List.mem_of_getElem? (i := 45) rfl))) (notFace_of_selects (args := #[]) (mvT hZ (hw _ (List.mem_of_getElem? (i := 47) rfl)))) (mvT hZ (hw _ (List.mem_of_getElem? (i := 47) rfl))) (mvT hZ (hw _ (List.mem_of_getElem? (i := 46) rfl))) (by decide) (backOf (W := 0) (own_ft3 l Z a0 hw [] cd mk am mo mv h0 n0 Z0 F_cd_most A_am A_mk) hZ (hw _ (List.mem_of_getElem? (i := 48) rfl)) (hw _ (List.mem_of_getElem? (i := 12) rfl)) (by decide) (by decide)) q323a q323c (g := (mkF m 185 #[.val (.int w0), .val (.int g0), .val (.long a_), .second, .val (.long b_), .second, .val (.long c_), .second, .val (.int (3 : Int32)), .val (.int wd), .val (.int k_), .val (.long mt), .second, .val (.ref mk), .val (.ref wn), .val (.ref cd), .val (.int (0 : Int32))] [(.ref mk), (.ref cd)])) rfl (by rw [hml]; rfl) (Steps.refl _) (argsL := [(.ref mk)]) (rest := []) (lenOf own_pd_8 rfl) rfl (by show 2 * 0 + _ ≤ _; exact Nat.le_of_eq rfl) (hb hby at_185) (fun _ _ => ⟨rfl, e0, (by decide : 7 + 0 ≤ _), (by decide : 22 + 0 ≤ _)⟩)
    dsimp only [Pt.U, Pt.locs, Pt.cells, Pt.slots] at X323 l323 y323 z323 st323 hQ323
    subst l323 y323 z323
    obtain ⟨rfl, N323q, e323⟩ := hQ323
    have N323 := Fr.app N0 N323q
    refine own_by (fun t k => st323.trans k) ?_
    show own_Go p e below T323 (mkF m 188 #[.val (.int w0), .val (.int g0), .val (.long a_), .second, .val (.long b_), .second, .val (.long c_), .second, .val (.int (3 : Int32)), .val (.int wd), .val (.int k_), .val (.long mt), .second, .val (.ref mk), .val (.ref wn), .val (.ref cd), .val (.int (0 : Int32))] [(.int (if ((mo 0).toInt64) < (mv 0) then (0 : Int32) else (if ((mo 1).toInt64) < (mv 1) then (0 : Int32) else (if ((mo 2).toInt64) < (mv 2) then (0 : Int32) else (1 : Int32)))))]) _
    refine own_s_iload X323.here hx (hb hby at_188) rfl ?_
    refine own_s_icmpNo X323.here hx (hb hby at_190) (Jvm.Free.XT.ii_ne_f ((by rw [hm0, hm1, hm2, if_pos hc141]))) ?_
    refine own_s_iconst X323.here hx (1 : Int32) (hb hby at_193) rfl ?_
    show own_Go p e below T323 (mkF m 194 #[.val (.int w0), .val (.int g0), .val (.long a_), .second, .val (.long b_), .second, .val (.long c_), .second, .val (.int (3 : Int32)), .val (.int wd), .val (.int k_), .val (.long mt), .second, .val (.ref mk), .val (.ref wn), .val (.ref cd), .val (.int (0 : Int32))] [(.int (1 : Int32))]) _
    refine own_s_goto X323.here hx 198 (hb hby at_194) (by decide) (by decide) ?_
    refine own_retZ X323 hx hret hlk (hb hby at_198) rfl (by decide) (by decide) ?_
    exact ⟨rfl, N323⟩
  ·
    refine own_s_ifNo X0.here hx (hb hby at_141) (Jvm.Free.XT.ll_gt_f hc141) ?_
    refine own_s_iload X0.here hx (hb hby at_144) rfl ?_
    refine own_s_iconst X0.here hx (2 : Int32) (hb hby at_146) rfl ?_
    refine own_s_icmpNo X0.here hx (hb hby at_147) (Jvm.Free.XT.ii_lt_f ((by decide))) ?_
    refine own_s_aload X0.here hx (hb hby at_150) rfl rfl ?_
    refine own_s_iconst X0.here hx (1 : Int32) (hb hby at_152) rfl ?_
    refine own_by (fun tq_ kq_ => own_ldJ X0 hx hZ e0 A_mk (k := 1) (v := (.long (mv 1))) (by decide) (by decide) rfl (g := (mkF m 153 #[.val (.int w0), .val (.int g0), .val (.long a_), .second, .val (.long b_), .second, .val (.long c_), .second, .val (.int (3 : Int32)), .val (.int wd), .val (.int k_), .val (.long mt), .second, .val (.ref mk), .val (.ref wn), .val (.ref cd), .unset] [(.int (1 : Int32)), (.ref mk)])) rfl rfl (hb hby at_153) tq_ kq_) ?_
    show own_Go p e below T0 (mkF m 154 #[.val (.int w0), .val (.int g0), .val (.long a_), .second, .val (.long b_), .second, .val (.long c_), .second, .val (.int (3 : Int32)), .val (.int wd), .val (.int k_), .val (.long mt), .second, .val (.ref mk), .val (.ref wn), .val (.ref cd), .unset] [(.long (mv 1))]) _
    refine own_s_lconst X0.here hx (1 : Int64) (hb hby at_154) rfl ?_
    refine own_s_lcmp X0.here hx (hb hby at_155) ?_
    by_cases hc156 : (1 : Int64) < (mv 1)
    ·
      show own_Go p e below T0 (mkF m 156 #[.val (.int w0), .val (.int g0), .val (.long a_), .second, .val (.long b_), .second, .val (.long c_), .second, .val (.int (3 : Int32)), .val (.int wd), .val (.int k_), .val (.long mt), .second, .val (.ref mk), .val (.ref wn), .val (.ref cd), .unset] [(.int (Jvm.Free.XT.cmpL (mv 1) (1 : Int64)))]) _
      refine own_s_ifYes X0.here hx 178 (hb hby at_156) (Jvm.Free.XT.ll_gt_t hc156) (by decide) (by decide) ?_
      refine own_s_iconst X0.here hx (0 : Int32) (hb hby at_178) rfl ?_
      refine own_s_istore X0.here hx #[.val (.int w0), .val (.int g0), .val (.long a_), .second, .val (.long b_), .second, .val (.long c_), .second, .val (.int (3 : Int32)), .val (.int wd), .val (.int k_), .val (.long mt), .second, .val (.ref mk), .val (.ref wn), .val (.ref cd), .val (.int (0 : Int32))] (hb hby at_179) rfl ?_
      refine own_s_aload X0.here hx (hb hby at_181) rfl rfl ?_
      refine own_s_aload X0.here hx (hb hby at_183) rfl rfl ?_
      obtain ⟨cq324, kq324, q324a, q324b, q324c⟩ := isOf hZ e0 E_cd
      obtain ⟨_, _, ⟨T324, L324, k324, n324⟩, -, X324, ⟨Lc324, hQ324, l324, y324, z324⟩, st324⟩ := X0.virtualBack hx (y := (⟨"com/example/lapse/lapse/MarkingCode", "fits", "([J)Z"⟩ : MethodName)) (z := (⟨"com/example/lapse/lapse/MarkingCode", "fits", "([J)Z"⟩ : MethodName)) hown (mvT hZ (hw _ (List.mem_of_getElem? (i := 44) rfl))) (mvT hZ (hw _ (List.mem_of_getElem? (i := 45) rfl))) (notFace_of_selects (args := #[]) (mvT hZ (hw _ (List.mem_of_getElem? (i := 47) rfl)))) (mvT hZ (hw _ (List.mem_of_getElem? (i := 47) rfl))) (mvT hZ (hw _ (List.mem_of_getElem? (i := 46) rfl))) (by decide) (backOf (W := 0) (own_ft3 l Z a0 hw [] cd mk am mo mv h0 n0 Z0 F_cd_most A_am A_mk) hZ (hw _ (List.mem_of_getElem? (i := 48) rfl)) (hw _ (List.mem_of_getElem? (i := 12) rfl)) (by decide) (by decide)) q324a q324c (g := (mkF m 185 #[.val (.int w0), .val (.int g0), .val (.long a_), .second, .val (.long b_), .second, .val (.long c_), .second, .val (.int (3 : Int32)), .val (.int wd), .val (.int k_), .val (.long mt), .second, .val (.ref mk), .val (.ref wn), .val (.ref cd), .val (.int (0 : Int32))] [(.ref mk), (.ref cd)])) rfl (by rw [hml]; rfl) (Steps.refl _) (argsL := [(.ref mk)]) (rest := []) (lenOf own_pd_8 rfl) rfl (by show 2 * 0 + _ ≤ _; exact Nat.le_of_eq rfl) (hb hby at_185) (fun _ _ => ⟨rfl, e0, (by decide : 7 + 0 ≤ _), (by decide : 22 + 0 ≤ _)⟩)
      dsimp only [Pt.U, Pt.locs, Pt.cells, Pt.slots] at X324 l324 y324 z324 st324 hQ324
      subst l324 y324 z324
      obtain ⟨rfl, N324q, e324⟩ := hQ324
      have N324 := Fr.app N0 N324q
      refine own_by (fun t k => st324.trans k) ?_
      show own_Go p e below T324 (mkF m 188 #[.val (.int w0), .val (.int g0), .val (.long a_), .second, .val (.long b_), .second, .val (.long c_), .second, .val (.int (3 : Int32)), .val (.int wd), .val (.int k_), .val (.long mt), .second, .val (.ref mk), .val (.ref wn), .val (.ref cd), .val (.int (0 : Int32))] [(.int (if ((mo 0).toInt64) < (mv 0) then (0 : Int32) else (if ((mo 1).toInt64) < (mv 1) then (0 : Int32) else (if ((mo 2).toInt64) < (mv 2) then (0 : Int32) else (1 : Int32)))))]) _
      refine own_s_iload X324.here hx (hb hby at_188) rfl ?_
      refine own_s_icmpNo X324.here hx (hb hby at_190) (Jvm.Free.XT.ii_ne_f ((by rw [hm0, hm1, hm2, if_neg hc141, if_pos hc156]))) ?_
      refine own_s_iconst X324.here hx (1 : Int32) (hb hby at_193) rfl ?_
      show own_Go p e below T324 (mkF m 194 #[.val (.int w0), .val (.int g0), .val (.long a_), .second, .val (.long b_), .second, .val (.long c_), .second, .val (.int (3 : Int32)), .val (.int wd), .val (.int k_), .val (.long mt), .second, .val (.ref mk), .val (.ref wn), .val (.ref cd), .val (.int (0 : Int32))] [(.int (1 : Int32))]) _
      refine own_s_goto X324.here hx 198 (hb hby at_194) (by decide) (by decide) ?_
      refine own_retZ X324 hx hret hlk (hb hby at_198) rfl (by decide) (by decide) ?_
      exact ⟨rfl, N324⟩
    ·
      refine own_s_ifNo X0.here hx (hb hby at_156) (Jvm.Free.XT.ll_gt_f hc156) ?_
      refine own_s_iload X0.here hx (hb hby at_159) rfl ?_
      refine own_s_iconst X0.here hx (3 : Int32) (hb hby at_161) rfl ?_
      refine own_s_icmpNo X0.here hx (hb hby at_162) (Jvm.Free.XT.ii_lt_f ((by decide))) ?_
      refine own_s_aload X0.here hx (hb hby at_165) rfl rfl ?_
      refine own_s_iconst X0.here hx (2 : Int32) (hb hby at_167) rfl ?_
      refine own_by (fun tq_ kq_ => own_ldJ X0 hx hZ e0 A_mk (k := 2) (v := (.long (mv 2))) (by decide) (by decide) rfl (g := (mkF m 168 #[.val (.int w0), .val (.int g0), .val (.long a_), .second, .val (.long b_), .second, .val (.long c_), .second, .val (.int (3 : Int32)), .val (.int wd), .val (.int k_), .val (.long mt), .second, .val (.ref mk), .val (.ref wn), .val (.ref cd), .unset] [(.int (2 : Int32)), (.ref mk)])) rfl rfl (hb hby at_168) tq_ kq_) ?_
      show own_Go p e below T0 (mkF m 169 #[.val (.int w0), .val (.int g0), .val (.long a_), .second, .val (.long b_), .second, .val (.long c_), .second, .val (.int (3 : Int32)), .val (.int wd), .val (.int k_), .val (.long mt), .second, .val (.ref mk), .val (.ref wn), .val (.ref cd), .unset] [(.long (mv 2))]) _
      refine own_s_lconst X0.here hx (1 : Int64) (hb hby at_169) rfl ?_
      refine own_s_lcmp X0.here hx (hb hby at_170) ?_
      by_cases hc171 : (1 : Int64) < (mv 2)
      ·
        show own_Go p e below T0 (mkF m 171 #[.val (.int w0), .val (.int g0), .val (.long a_), .second, .val (.long b_), .second, .val (.long c_), .second, .val (.int (3 : Int32)), .val (.int wd), .val (.int k_), .val (.long mt), .second, .val (.ref mk), .val (.ref wn), .val (.ref cd), .unset] [(.int (Jvm.Free.XT.cmpL (mv 2) (1 : Int64)))]) _
        refine own_s_ifYes X0.here hx 178 (hb hby at_171) (Jvm.Free.XT.ll_gt_t hc171) (by decide) (by decide) ?_
        refine own_s_iconst X0.here hx (0 : Int32) (hb hby at_178) rfl ?_
        refine own_s_istore X0.here hx #[.val (.int w0), .val (.int g0), .val (.long a_), .second, .val (.long b_), .second, .val (.long c_), .second, .val (.int (3 : Int32)), .val (.int wd), .val (.int k_), .val (.long mt), .second, .val (.ref mk), .val (.ref wn), .val (.ref cd), .val (.int (0 : Int32))] (hb hby at_179) rfl ?_
        refine own_s_aload X0.here hx (hb hby at_181) rfl rfl ?_
        refine own_s_aload X0.here hx (hb hby at_183) rfl rfl ?_
        obtain ⟨cq325, kq325, q325a, q325b, q325c⟩ := isOf hZ e0 E_cd
        obtain ⟨_, _, ⟨T325, L325, k325, n325⟩, -, X325, ⟨Lc325, hQ325, l325, y325, z325⟩, st325⟩ := X0.virtualBack hx (y := (⟨"com/example/lapse/lapse/MarkingCode", "fits", "([J)Z"⟩ : MethodName)) (z := (⟨"com/example/lapse/lapse/MarkingCode", "fits", "([J)Z"⟩ : MethodName)) hown (mvT hZ (hw _ (List.mem_of_getElem? (i := 44) rfl))) (mvT hZ (hw _ (List.mem_of_getElem? (i := 45) rfl))) (notFace_of_selects (args := #[]) (mvT hZ (hw _ (List.mem_of_getElem? (i := 47) rfl)))) (mvT hZ (hw _ (List.mem_of_getElem? (i := 47) rfl))) (mvT hZ (hw _ (List.mem_of_getElem? (i := 46) rfl))) (by decide) (backOf (W := 0) (own_ft3 l Z a0 hw [] cd mk am mo mv h0 n0 Z0 F_cd_most A_am A_mk) hZ (hw _ (List.mem_of_getElem? (i := 48) rfl)) (hw _ (List.mem_of_getElem? (i := 12) rfl)) (by decide) (by decide)) q325a q325c (g := (mkF m 185 #[.val (.int w0), .val (.int g0), .val (.long a_), .second, .val (.long b_), .second, .val (.long c_), .second, .val (.int (3 : Int32)), .val (.int wd), .val (.int k_), .val (.long mt), .second, .val (.ref mk), .val (.ref wn), .val (.ref cd), .val (.int (0 : Int32))] [(.ref mk), (.ref cd)])) rfl (by rw [hml]; rfl) (Steps.refl _) (argsL := [(.ref mk)]) (rest := []) (lenOf own_pd_8 rfl) rfl (by show 2 * 0 + _ ≤ _; exact Nat.le_of_eq rfl) (hb hby at_185) (fun _ _ => ⟨rfl, e0, (by decide : 7 + 0 ≤ _), (by decide : 22 + 0 ≤ _)⟩)
        dsimp only [Pt.U, Pt.locs, Pt.cells, Pt.slots] at X325 l325 y325 z325 st325 hQ325
        subst l325 y325 z325
        obtain ⟨rfl, N325q, e325⟩ := hQ325
        have N325 := Fr.app N0 N325q
        refine own_by (fun t k => st325.trans k) ?_
        show own_Go p e below T325 (mkF m 188 #[.val (.int w0), .val (.int g0), .val (.long a_), .second, .val (.long b_), .second, .val (.long c_), .second, .val (.int (3 : Int32)), .val (.int wd), .val (.int k_), .val (.long mt), .second, .val (.ref mk), .val (.ref wn), .val (.ref cd), .val (.int (0 : Int32))] [(.int (if ((mo 0).toInt64) < (mv 0) then (0 : Int32) else (if ((mo 1).toInt64) < (mv 1) then (0 : Int32) else (if ((mo 2).toInt64) < (mv 2) then (0 : Int32) else (1 : Int32)))))]) _
        refine own_s_iload X325.here hx (hb hby at_188) rfl ?_
        refine own_s_icmpNo X325.here hx (hb hby at_190) (Jvm.Free.XT.ii_ne_f ((by rw [hm0, hm1, hm2, if_neg hc141, if_neg hc156, if_pos hc171]))) ?_
        refine own_s_iconst X325.here hx (1 : Int32) (hb hby at_193) rfl ?_
        show own_Go p e below T325 (mkF m 194 #[.val (.int w0), .val (.int g0), .val (.long a_), .second, .val (.long b_), .second, .val (.long c_), .second, .val (.int (3 : Int32)), .val (.int wd), .val (.int k_), .val (.long mt), .second, .val (.ref mk), .val (.ref wn), .val (.ref cd), .val (.int (0 : Int32))] [(.int (1 : Int32))]) _
        refine own_s_goto X325.here hx 198 (hb hby at_194) (by decide) (by decide) ?_
        refine own_retZ X325 hx hret hlk (hb hby at_198) rfl (by decide) (by decide) ?_
        exact ⟨rfl, N325⟩
      ·
        refine own_s_ifNo X0.here hx (hb hby at_171) (Jvm.Free.XT.ll_gt_f hc171) ?_
        refine own_s_iconst X0.here hx (1 : Int32) (hb hby at_174) rfl ?_
        show own_Go p e below T0 (mkF m 175 #[.val (.int w0), .val (.int g0), .val (.long a_), .second, .val (.long b_), .second, .val (.long c_), .second, .val (.int (3 : Int32)), .val (.int wd), .val (.int k_), .val (.long mt), .second, .val (.ref mk), .val (.ref wn), .val (.ref cd), .unset] [(.int (1 : Int32))]) _
        refine own_s_goto X0.here hx 179 (hb hby at_175) (by decide) (by decide) ?_
        refine own_s_istore X0.here hx #[.val (.int w0), .val (.int g0), .val (.long a_), .second, .val (.long b_), .second, .val (.long c_), .second, .val (.int (3 : Int32)), .val (.int wd), .val (.int k_), .val (.long mt), .second, .val (.ref mk), .val (.ref wn), .val (.ref cd), .val (.int (1 : Int32))] (hb hby at_179) rfl ?_
        refine own_s_aload X0.here hx (hb hby at_181) rfl rfl ?_
        refine own_s_aload X0.here hx (hb hby at_183) rfl rfl ?_
        obtain ⟨cq326, kq326, q326a, q326b, q326c⟩ := isOf hZ e0 E_cd
        obtain ⟨_, _, ⟨T326, L326, k326, n326⟩, -, X326, ⟨Lc326, hQ326, l326, y326, z326⟩, st326⟩ := X0.virtualBack hx (y := (⟨"com/example/lapse/lapse/MarkingCode", "fits", "([J)Z"⟩ : MethodName)) (z := (⟨"com/example/lapse/lapse/MarkingCode", "fits", "([J)Z"⟩ : MethodName)) hown (mvT hZ (hw _ (List.mem_of_getElem? (i := 44) rfl))) (mvT hZ (hw _ (List.mem_of_getElem? (i := 45) rfl))) (notFace_of_selects (args := #[]) (mvT hZ (hw _ (List.mem_of_getElem? (i := 47) rfl)))) (mvT hZ (hw _ (List.mem_of_getElem? (i := 47) rfl))) (mvT hZ (hw _ (List.mem_of_getElem? (i := 46) rfl))) (by decide) (backOf (W := 0) (own_ft3 l Z a0 hw [] cd mk am mo mv h0 n0 Z0 F_cd_most A_am A_mk) hZ (hw _ (List.mem_of_getElem? (i := 48) rfl)) (hw _ (List.mem_of_getElem? (i := 12) rfl)) (by decide) (by decide)) q326a q326c (g := (mkF m 185 #[.val (.int w0), .val (.int g0), .val (.long a_), .second, .val (.long b_), .second, .val (.long c_), .second, .val (.int (3 : Int32)), .val (.int wd), .val (.int k_), .val (.long mt), .second, .val (.ref mk), .val (.ref wn), .val (.ref cd), .val (.int (1 : Int32))] [(.ref mk), (.ref cd)])) rfl (by rw [hml]; rfl) (Steps.refl _) (argsL := [(.ref mk)]) (rest := []) (lenOf own_pd_8 rfl) rfl (by show 2 * 0 + _ ≤ _; exact Nat.le_of_eq rfl) (hb hby at_185) (fun _ _ => ⟨rfl, e0, (by decide : 7 + 0 ≤ _), (by decide : 22 + 0 ≤ _)⟩)
        dsimp only [Pt.U, Pt.locs, Pt.cells, Pt.slots] at X326 l326 y326 z326 st326 hQ326
        subst l326 y326 z326
        obtain ⟨rfl, N326q, e326⟩ := hQ326
        have N326 := Fr.app N0 N326q
        refine own_by (fun t k => st326.trans k) ?_
        show own_Go p e below T326 (mkF m 188 #[.val (.int w0), .val (.int g0), .val (.long a_), .second, .val (.long b_), .second, .val (.long c_), .second, .val (.int (3 : Int32)), .val (.int wd), .val (.int k_), .val (.long mt), .second, .val (.ref mk), .val (.ref wn), .val (.ref cd), .val (.int (1 : Int32))] [(.int (if ((mo 0).toInt64) < (mv 0) then (0 : Int32) else (if ((mo 1).toInt64) < (mv 1) then (0 : Int32) else (if ((mo 2).toInt64) < (mv 2) then (0 : Int32) else (1 : Int32)))))]) _
        refine own_s_iload X326.here hx (hb hby at_188) rfl ?_
        refine own_s_icmpNo X326.here hx (hb hby at_190) (Jvm.Free.XT.ii_ne_f ((by rw [hm0, hm1, hm2, if_neg hc141, if_neg hc156, if_neg hc171]))) ?_
        refine own_s_iconst X326.here hx (1 : Int32) (hb hby at_193) rfl ?_
        show own_Go p e below T326 (mkF m 194 #[.val (.int w0), .val (.int g0), .val (.long a_), .second, .val (.long b_), .second, .val (.long c_), .second, .val (.int (3 : Int32)), .val (.int wd), .val (.int k_), .val (.long mt), .second, .val (.ref mk), .val (.ref wn), .val (.ref cd), .val (.int (1 : Int32))] [(.int (1 : Int32))]) _
        refine own_s_goto X326.here hx 198 (hb hby at_194) (by decide) (by decide) ?_
        refine own_retZ X326 hx hret hlk (hb hby at_198) rfl (by decide) (by decide) ?_
        exact ⟨rfl, N326⟩
set_option maxRecDepth 65536 in
set_option maxHeartbeats 40000000 in
theorem own_t3w {p : Program} {l : Launch} {e : Env} {s : State} {m : MethodId} {args : Array Value} {below : List Frame} {meth : Method} {c : Code} {Z : State} {a0 : Array Value} {n0 : Nat} (hx : p.tables.exec = Jvm.exec) (hZ : Z.Warmed39 s.vm) (hw : ∀ d ∈ tables_1, d.before a0 Z = true) (hby : c.code = code) (hml : c.maxLocals = 17) (hown : s.vm.findClass "com/example/lapse/lapse/MarkingCodeFitsPinLaw" = some m.cls) (hnm : meth.name = "law") (hret : meth.sig.returnType = (some .boolean)) (hlk : meth.locks = false) (w0 g0 wd k_ : Int32) (a_ b_ c_ mt : Int64) (mk wn cd am : Addr) (mo : Nat → Int32) (mv : Nat → Int64) {T0 : State} {locs : List Loc} {h0 : Heap} (X0 : Stand p l e room_1 s m args below meth c T0 locs 12 38) (e0 : T0.heap = h0) (N0 : Fr n0 locs) (Z0 : n0 ≤ h0.size) (hm0 : ((mo 0).toInt64) = mt) (hm1 : ((mo 1).toInt64) = (1 : Int64)) (hm2 : ((mo 2).toInt64) = (1 : Int64)) (E_cd : Exa Z h0 cd "com/example/lapse/lapse/MarkingCode") (F_cd_most : Fld Z h0 cd "com/example/lapse/lapse/MarkingCode" "most" "[I" (.ref am)) (A_am : own_Av Z h0 am .int 3 (fun j => .int (mo j))) (A_mk : own_Av Z h0 mk .long 3 (fun j => .long (mv j))) :
    own_Go p e below T0 (mkF m 128 #[.val (.int w0), .val (.int g0), .val (.long a_), .second, .val (.long b_), .second, .val (.long c_), .second, .val (.int (3 : Int32)), .val (.int wd), .val (.int k_), .val (.long mt), .second, .val (.ref mk), .val (.ref wn), .val (.ref cd), .unset] []) (own_Fin s (fun (v : Option Value) (h : Heap) (L : List Loc) => v = some (.int 1) ∧ Fr n0 L) 32 192) := by
  show own_Go p e below T0 (mkF m 128 #[.val (.int w0), .val (.int g0), .val (.long a_), .second, .val (.long b_), .second, .val (.long c_), .second, .val (.int (3 : Int32)), .val (.int wd), .val (.int k_), .val (.long mt), .second, .val (.ref mk), .val (.ref wn), .val (.ref cd), .unset] []) _
  refine own_s_iload X0.here hx (hb hby at_128) rfl ?_
  refine own_s_iconst X0.here hx (1 : Int32) (hb hby at_130) rfl ?_
  refine own_s_icmpNo X0.here hx (hb hby at_131) (Jvm.Free.XT.ii_lt_f ((by decide))) ?_
  refine own_s_aload X0.here hx (hb hby at_134) rfl rfl ?_
  refine own_s_iconst X0.here hx (0 : Int32) (hb hby at_136) rfl ?_
  refine own_by (fun tq_ kq_ => own_ldJ X0 hx hZ e0 A_mk (k := 0) (v := (.long (mv 0))) (by decide) (by decide) rfl (g := (mkF m 137 #[.val (.int w0), .val (.int g0), .val (.long a_), .second, .val (.long b_), .second, .val (.long c_), .second, .val (.int (3 : Int32)), .val (.int wd), .val (.int k_), .val (.long mt), .second, .val (.ref mk), .val (.ref wn), .val (.ref cd), .unset] [(.int (0 : Int32)), (.ref mk)])) rfl rfl (hb hby at_137) tq_ kq_) ?_
  show own_Go p e below T0 (mkF m 138 #[.val (.int w0), .val (.int g0), .val (.long a_), .second, .val (.long b_), .second, .val (.long c_), .second, .val (.int (3 : Int32)), .val (.int wd), .val (.int k_), .val (.long mt), .second, .val (.ref mk), .val (.ref wn), .val (.ref cd), .unset] [(.long (mv 0))]) _
  refine own_s_lload X0.here hx (hb hby at_138) rfl ?_
  refine own_s_lcmp X0.here hx (hb hby at_140) ?_
  by_cases hc141 : mt < (mv 0)
  ·
    show own_Go p e below T0 (mkF m 141 #[.val (.int w0), .val (.int g0), .val (.long a_), .second, .val (.long b_), .second, .val (.long c_), .second, .val (.int (3 : Int32)), .val (.int wd), .val (.int k_), .val (.long mt), .second, .val (.ref mk), .val (.ref wn), .val (.ref cd), .unset] [(.int (Jvm.Free.XT.cmpL (mv 0) mt))]) _
    refine own_s_ifYes X0.here hx 178 (hb hby at_141) (Jvm.Free.XT.ll_gt_t hc141) (by decide) (by decide) ?_
    refine own_s_iconst X0.here hx (0 : Int32) (hb hby at_178) rfl ?_
    refine own_s_istore X0.here hx #[.val (.int w0), .val (.int g0), .val (.long a_), .second, .val (.long b_), .second, .val (.long c_), .second, .val (.int (3 : Int32)), .val (.int wd), .val (.int k_), .val (.long mt), .second, .val (.ref mk), .val (.ref wn), .val (.ref cd), .val (.int (0 : Int32))] (hb hby at_179) rfl ?_
    refine own_s_aload X0.here hx (hb hby at_181) rfl rfl ?_
    refine own_s_aload X0.here hx (hb hby at_183) rfl rfl ?_
    obtain ⟨cq327, kq327, q327a, q327b, q327c⟩ := isOf hZ e0 E_cd
    obtain ⟨_, _, ⟨T327, L327, k327, n327⟩, -, X327, ⟨Lc327, hQ327, l327, y327, z327⟩, st327⟩ := X0.virtualBack hx (y := (⟨"com/example/lapse/lapse/MarkingCode", "fits", "([J)Z"⟩ : MethodName)) (z := (⟨"com/example/lapse/lapse/MarkingCode", "fits", "([J)Z"⟩ : MethodName)) hown (mvT hZ (hw _ (List.mem_of_getElem? (i := 44) rfl))) (mvT hZ (hw _ (List.mem_of_getElem? (i := 45) rfl))) (notFace_of_selects (args := #[]) (mvT hZ (hw _ (List.mem_of_getElem? (i := 47) rfl)))) (mvT hZ (hw _ (List.mem_of_getElem? (i := 47) rfl))) (mvT hZ (hw _ (List.mem_of_getElem? (i := 46) rfl))) (by decide) (backOf (W := 0) (own_ft3 l Z a0 hw [] cd mk am mo mv h0 n0 Z0 F_cd_most A_am A_mk) hZ (hw _ (List.mem_of_getElem? (i := 48) rfl)) (hw _ (List.mem_of_getElem? (i := 12) rfl)) (by decide) (by decide)) q327a q327c (g := (mkF m 185 #[.val (.int w0), .val (.int g0), .val (.long a_), .second, .val (.long b_), .second, .val (.long c_), .second, .val (.int (3 : Int32)), .val (.int wd), .val (.int k_), .val (.long mt), .second, .val (.ref mk), .val (.ref wn), .val (.ref cd), .val (.int (0 : Int32))] [(.ref mk), (.ref cd)])) rfl (by rw [hml]; rfl) (Steps.refl _) (argsL := [(.ref mk)]) (rest := []) (lenOf own_pd_8 rfl) rfl (by show 2 * 0 + _ ≤ _; exact Nat.le_of_eq rfl) (hb hby at_185) (fun _ _ => ⟨rfl, e0, (by decide : 12 + 0 ≤ _), (by decide : 38 + 0 ≤ _)⟩)
    dsimp only [Pt.U, Pt.locs, Pt.cells, Pt.slots] at X327 l327 y327 z327 st327 hQ327
    subst l327 y327 z327
    obtain ⟨rfl, N327q, e327⟩ := hQ327
    have N327 := Fr.app N0 N327q
    refine own_by (fun t k => st327.trans k) ?_
    show own_Go p e below T327 (mkF m 188 #[.val (.int w0), .val (.int g0), .val (.long a_), .second, .val (.long b_), .second, .val (.long c_), .second, .val (.int (3 : Int32)), .val (.int wd), .val (.int k_), .val (.long mt), .second, .val (.ref mk), .val (.ref wn), .val (.ref cd), .val (.int (0 : Int32))] [(.int (if ((mo 0).toInt64) < (mv 0) then (0 : Int32) else (if ((mo 1).toInt64) < (mv 1) then (0 : Int32) else (if ((mo 2).toInt64) < (mv 2) then (0 : Int32) else (1 : Int32)))))]) _
    refine own_s_iload X327.here hx (hb hby at_188) rfl ?_
    refine own_s_icmpNo X327.here hx (hb hby at_190) (Jvm.Free.XT.ii_ne_f ((by rw [hm0, hm1, hm2, if_pos hc141]))) ?_
    refine own_s_iconst X327.here hx (1 : Int32) (hb hby at_193) rfl ?_
    show own_Go p e below T327 (mkF m 194 #[.val (.int w0), .val (.int g0), .val (.long a_), .second, .val (.long b_), .second, .val (.long c_), .second, .val (.int (3 : Int32)), .val (.int wd), .val (.int k_), .val (.long mt), .second, .val (.ref mk), .val (.ref wn), .val (.ref cd), .val (.int (0 : Int32))] [(.int (1 : Int32))]) _
    refine own_s_goto X327.here hx 198 (hb hby at_194) (by decide) (by decide) ?_
    refine own_retZ X327 hx hret hlk (hb hby at_198) rfl (by decide) (by decide) ?_
    exact ⟨rfl, N327⟩
  ·
    refine own_s_ifNo X0.here hx (hb hby at_141) (Jvm.Free.XT.ll_gt_f hc141) ?_
    refine own_s_iload X0.here hx (hb hby at_144) rfl ?_
    refine own_s_iconst X0.here hx (2 : Int32) (hb hby at_146) rfl ?_
    refine own_s_icmpNo X0.here hx (hb hby at_147) (Jvm.Free.XT.ii_lt_f ((by decide))) ?_
    refine own_s_aload X0.here hx (hb hby at_150) rfl rfl ?_
    refine own_s_iconst X0.here hx (1 : Int32) (hb hby at_152) rfl ?_
    refine own_by (fun tq_ kq_ => own_ldJ X0 hx hZ e0 A_mk (k := 1) (v := (.long (mv 1))) (by decide) (by decide) rfl (g := (mkF m 153 #[.val (.int w0), .val (.int g0), .val (.long a_), .second, .val (.long b_), .second, .val (.long c_), .second, .val (.int (3 : Int32)), .val (.int wd), .val (.int k_), .val (.long mt), .second, .val (.ref mk), .val (.ref wn), .val (.ref cd), .unset] [(.int (1 : Int32)), (.ref mk)])) rfl rfl (hb hby at_153) tq_ kq_) ?_
    show own_Go p e below T0 (mkF m 154 #[.val (.int w0), .val (.int g0), .val (.long a_), .second, .val (.long b_), .second, .val (.long c_), .second, .val (.int (3 : Int32)), .val (.int wd), .val (.int k_), .val (.long mt), .second, .val (.ref mk), .val (.ref wn), .val (.ref cd), .unset] [(.long (mv 1))]) _
    refine own_s_lconst X0.here hx (1 : Int64) (hb hby at_154) rfl ?_
    refine own_s_lcmp X0.here hx (hb hby at_155) ?_
    by_cases hc156 : (1 : Int64) < (mv 1)
    ·
      show own_Go p e below T0 (mkF m 156 #[.val (.int w0), .val (.int g0), .val (.long a_), .second, .val (.long b_), .second, .val (.long c_), .second, .val (.int (3 : Int32)), .val (.int wd), .val (.int k_), .val (.long mt), .second, .val (.ref mk), .val (.ref wn), .val (.ref cd), .unset] [(.int (Jvm.Free.XT.cmpL (mv 1) (1 : Int64)))]) _
      refine own_s_ifYes X0.here hx 178 (hb hby at_156) (Jvm.Free.XT.ll_gt_t hc156) (by decide) (by decide) ?_
      refine own_s_iconst X0.here hx (0 : Int32) (hb hby at_178) rfl ?_
      refine own_s_istore X0.here hx #[.val (.int w0), .val (.int g0), .val (.long a_), .second, .val (.long b_), .second, .val (.long c_), .second, .val (.int (3 : Int32)), .val (.int wd), .val (.int k_), .val (.long mt), .second, .val (.ref mk), .val (.ref wn), .val (.ref cd), .val (.int (0 : Int32))] (hb hby at_179) rfl ?_
      refine own_s_aload X0.here hx (hb hby at_181) rfl rfl ?_
      refine own_s_aload X0.here hx (hb hby at_183) rfl rfl ?_
      obtain ⟨cq328, kq328, q328a, q328b, q328c⟩ := isOf hZ e0 E_cd
      obtain ⟨_, _, ⟨T328, L328, k328, n328⟩, -, X328, ⟨Lc328, hQ328, l328, y328, z328⟩, st328⟩ := X0.virtualBack hx (y := (⟨"com/example/lapse/lapse/MarkingCode", "fits", "([J)Z"⟩ : MethodName)) (z := (⟨"com/example/lapse/lapse/MarkingCode", "fits", "([J)Z"⟩ : MethodName)) hown (mvT hZ (hw _ (List.mem_of_getElem? (i := 44) rfl))) (mvT hZ (hw _ (List.mem_of_getElem? (i := 45) rfl))) (notFace_of_selects (args := #[]) (mvT hZ (hw _ (List.mem_of_getElem? (i := 47) rfl)))) (mvT hZ (hw _ (List.mem_of_getElem? (i := 47) rfl))) (mvT hZ (hw _ (List.mem_of_getElem? (i := 46) rfl))) (by decide) (backOf (W := 0) (own_ft3 l Z a0 hw [] cd mk am mo mv h0 n0 Z0 F_cd_most A_am A_mk) hZ (hw _ (List.mem_of_getElem? (i := 48) rfl)) (hw _ (List.mem_of_getElem? (i := 12) rfl)) (by decide) (by decide)) q328a q328c (g := (mkF m 185 #[.val (.int w0), .val (.int g0), .val (.long a_), .second, .val (.long b_), .second, .val (.long c_), .second, .val (.int (3 : Int32)), .val (.int wd), .val (.int k_), .val (.long mt), .second, .val (.ref mk), .val (.ref wn), .val (.ref cd), .val (.int (0 : Int32))] [(.ref mk), (.ref cd)])) rfl (by rw [hml]; rfl) (Steps.refl _) (argsL := [(.ref mk)]) (rest := []) (lenOf own_pd_8 rfl) rfl (by show 2 * 0 + _ ≤ _; exact Nat.le_of_eq rfl) (hb hby at_185) (fun _ _ => ⟨rfl, e0, (by decide : 12 + 0 ≤ _), (by decide : 38 + 0 ≤ _)⟩)
      dsimp only [Pt.U, Pt.locs, Pt.cells, Pt.slots] at X328 l328 y328 z328 st328 hQ328
      subst l328 y328 z328
      obtain ⟨rfl, N328q, e328⟩ := hQ328
      have N328 := Fr.app N0 N328q
      refine own_by (fun t k => st328.trans k) ?_
      show own_Go p e below T328 (mkF m 188 #[.val (.int w0), .val (.int g0), .val (.long a_), .second, .val (.long b_), .second, .val (.long c_), .second, .val (.int (3 : Int32)), .val (.int wd), .val (.int k_), .val (.long mt), .second, .val (.ref mk), .val (.ref wn), .val (.ref cd), .val (.int (0 : Int32))] [(.int (if ((mo 0).toInt64) < (mv 0) then (0 : Int32) else (if ((mo 1).toInt64) < (mv 1) then (0 : Int32) else (if ((mo 2).toInt64) < (mv 2) then (0 : Int32) else (1 : Int32)))))]) _
      refine own_s_iload X328.here hx (hb hby at_188) rfl ?_
      refine own_s_icmpNo X328.here hx (hb hby at_190) (Jvm.Free.XT.ii_ne_f ((by rw [hm0, hm1, hm2, if_neg hc141, if_pos hc156]))) ?_
      refine own_s_iconst X328.here hx (1 : Int32) (hb hby at_193) rfl ?_
      show own_Go p e below T328 (mkF m 194 #[.val (.int w0), .val (.int g0), .val (.long a_), .second, .val (.long b_), .second, .val (.long c_), .second, .val (.int (3 : Int32)), .val (.int wd), .val (.int k_), .val (.long mt), .second, .val (.ref mk), .val (.ref wn), .val (.ref cd), .val (.int (0 : Int32))] [(.int (1 : Int32))]) _
      refine own_s_goto X328.here hx 198 (hb hby at_194) (by decide) (by decide) ?_
      refine own_retZ X328 hx hret hlk (hb hby at_198) rfl (by decide) (by decide) ?_
      exact ⟨rfl, N328⟩
    ·
      refine own_s_ifNo X0.here hx (hb hby at_156) (Jvm.Free.XT.ll_gt_f hc156) ?_
      refine own_s_iload X0.here hx (hb hby at_159) rfl ?_
      refine own_s_iconst X0.here hx (3 : Int32) (hb hby at_161) rfl ?_
      refine own_s_icmpNo X0.here hx (hb hby at_162) (Jvm.Free.XT.ii_lt_f ((by decide))) ?_
      refine own_s_aload X0.here hx (hb hby at_165) rfl rfl ?_
      refine own_s_iconst X0.here hx (2 : Int32) (hb hby at_167) rfl ?_
      refine own_by (fun tq_ kq_ => own_ldJ X0 hx hZ e0 A_mk (k := 2) (v := (.long (mv 2))) (by decide) (by decide) rfl (g := (mkF m 168 #[.val (.int w0), .val (.int g0), .val (.long a_), .second, .val (.long b_), .second, .val (.long c_), .second, .val (.int (3 : Int32)), .val (.int wd), .val (.int k_), .val (.long mt), .second, .val (.ref mk), .val (.ref wn), .val (.ref cd), .unset] [(.int (2 : Int32)), (.ref mk)])) rfl rfl (hb hby at_168) tq_ kq_) ?_
      show own_Go p e below T0 (mkF m 169 #[.val (.int w0), .val (.int g0), .val (.long a_), .second, .val (.long b_), .second, .val (.long c_), .second, .val (.int (3 : Int32)), .val (.int wd), .val (.int k_), .val (.long mt), .second, .val (.ref mk), .val (.ref wn), .val (.ref cd), .unset] [(.long (mv 2))]) _
      refine own_s_lconst X0.here hx (1 : Int64) (hb hby at_169) rfl ?_
      refine own_s_lcmp X0.here hx (hb hby at_170) ?_
      by_cases hc171 : (1 : Int64) < (mv 2)
      ·
        show own_Go p e below T0 (mkF m 171 #[.val (.int w0), .val (.int g0), .val (.long a_), .second, .val (.long b_), .second, .val (.long c_), .second, .val (.int (3 : Int32)), .val (.int wd), .val (.int k_), .val (.long mt), .second, .val (.ref mk), .val (.ref wn), .val (.ref cd), .unset] [(.int (Jvm.Free.XT.cmpL (mv 2) (1 : Int64)))]) _
        refine own_s_ifYes X0.here hx 178 (hb hby at_171) (Jvm.Free.XT.ll_gt_t hc171) (by decide) (by decide) ?_
        refine own_s_iconst X0.here hx (0 : Int32) (hb hby at_178) rfl ?_
        refine own_s_istore X0.here hx #[.val (.int w0), .val (.int g0), .val (.long a_), .second, .val (.long b_), .second, .val (.long c_), .second, .val (.int (3 : Int32)), .val (.int wd), .val (.int k_), .val (.long mt), .second, .val (.ref mk), .val (.ref wn), .val (.ref cd), .val (.int (0 : Int32))] (hb hby at_179) rfl ?_
        refine own_s_aload X0.here hx (hb hby at_181) rfl rfl ?_
        refine own_s_aload X0.here hx (hb hby at_183) rfl rfl ?_
        obtain ⟨cq329, kq329, q329a, q329b, q329c⟩ := isOf hZ e0 E_cd
        obtain ⟨_, _, ⟨T329, L329, k329, n329⟩, -, X329, ⟨Lc329, hQ329, l329, y329, z329⟩, st329⟩ := X0.virtualBack hx (y := (⟨"com/example/lapse/lapse/MarkingCode", "fits", "([J)Z"⟩ : MethodName)) (z := (⟨"com/example/lapse/lapse/MarkingCode", "fits", "([J)Z"⟩ : MethodName)) hown (mvT hZ (hw _ (List.mem_of_getElem? (i := 44) rfl))) (mvT hZ (hw _ (List.mem_of_getElem? (i := 45) rfl))) (notFace_of_selects (args := #[]) (mvT hZ (hw _ (List.mem_of_getElem? (i := 47) rfl)))) (mvT hZ (hw _ (List.mem_of_getElem? (i := 47) rfl))) (mvT hZ (hw _ (List.mem_of_getElem? (i := 46) rfl))) (by decide) (backOf (W := 0) (own_ft3 l Z a0 hw [] cd mk am mo mv h0 n0 Z0 F_cd_most A_am A_mk) hZ (hw _ (List.mem_of_getElem? (i := 48) rfl)) (hw _ (List.mem_of_getElem? (i := 12) rfl)) (by decide) (by decide)) q329a q329c (g := (mkF m 185 #[.val (.int w0), .val (.int g0), .val (.long a_), .second, .val (.long b_), .second, .val (.long c_), .second, .val (.int (3 : Int32)), .val (.int wd), .val (.int k_), .val (.long mt), .second, .val (.ref mk), .val (.ref wn), .val (.ref cd), .val (.int (0 : Int32))] [(.ref mk), (.ref cd)])) rfl (by rw [hml]; rfl) (Steps.refl _) (argsL := [(.ref mk)]) (rest := []) (lenOf own_pd_8 rfl) rfl (by show 2 * 0 + _ ≤ _; exact Nat.le_of_eq rfl) (hb hby at_185) (fun _ _ => ⟨rfl, e0, (by decide : 12 + 0 ≤ _), (by decide : 38 + 0 ≤ _)⟩)
        dsimp only [Pt.U, Pt.locs, Pt.cells, Pt.slots] at X329 l329 y329 z329 st329 hQ329
        subst l329 y329 z329
        obtain ⟨rfl, N329q, e329⟩ := hQ329
        have N329 := Fr.app N0 N329q
        refine own_by (fun t k => st329.trans k) ?_
        show own_Go p e below T329 (mkF m 188 #[.val (.int w0), .val (.int g0), .val (.long a_), .second, .val (.long b_), .second, .val (.long c_), .second, .val (.int (3 : Int32)), .val (.int wd), .val (.int k_), .val (.long mt), .second, .val (.ref mk), .val (.ref wn), .val (.ref cd), .val (.int (0 : Int32))] [(.int (if ((mo 0).toInt64) < (mv 0) then (0 : Int32) else (if ((mo 1).toInt64) < (mv 1) then (0 : Int32) else (if ((mo 2).toInt64) < (mv 2) then (0 : Int32) else (1 : Int32)))))]) _
        refine own_s_iload X329.here hx (hb hby at_188) rfl ?_
        refine own_s_icmpNo X329.here hx (hb hby at_190) (Jvm.Free.XT.ii_ne_f ((by rw [hm0, hm1, hm2, if_neg hc141, if_neg hc156, if_pos hc171]))) ?_
        refine own_s_iconst X329.here hx (1 : Int32) (hb hby at_193) rfl ?_
        show own_Go p e below T329 (mkF m 194 #[.val (.int w0), .val (.int g0), .val (.long a_), .second, .val (.long b_), .second, .val (.long c_), .second, .val (.int (3 : Int32)), .val (.int wd), .val (.int k_), .val (.long mt), .second, .val (.ref mk), .val (.ref wn), .val (.ref cd), .val (.int (0 : Int32))] [(.int (1 : Int32))]) _
        refine own_s_goto X329.here hx 198 (hb hby at_194) (by decide) (by decide) ?_
        refine own_retZ X329 hx hret hlk (hb hby at_198) rfl (by decide) (by decide) ?_
        exact ⟨rfl, N329⟩
      ·
        refine own_s_ifNo X0.here hx (hb hby at_171) (Jvm.Free.XT.ll_gt_f hc171) ?_
        refine own_s_iconst X0.here hx (1 : Int32) (hb hby at_174) rfl ?_
        show own_Go p e below T0 (mkF m 175 #[.val (.int w0), .val (.int g0), .val (.long a_), .second, .val (.long b_), .second, .val (.long c_), .second, .val (.int (3 : Int32)), .val (.int wd), .val (.int k_), .val (.long mt), .second, .val (.ref mk), .val (.ref wn), .val (.ref cd), .unset] [(.int (1 : Int32))]) _
        refine own_s_goto X0.here hx 179 (hb hby at_175) (by decide) (by decide) ?_
        refine own_s_istore X0.here hx #[.val (.int w0), .val (.int g0), .val (.long a_), .second, .val (.long b_), .second, .val (.long c_), .second, .val (.int (3 : Int32)), .val (.int wd), .val (.int k_), .val (.long mt), .second, .val (.ref mk), .val (.ref wn), .val (.ref cd), .val (.int (1 : Int32))] (hb hby at_179) rfl ?_
        refine own_s_aload X0.here hx (hb hby at_181) rfl rfl ?_
        refine own_s_aload X0.here hx (hb hby at_183) rfl rfl ?_
        obtain ⟨cq330, kq330, q330a, q330b, q330c⟩ := isOf hZ e0 E_cd
        obtain ⟨_, _, ⟨T330, L330, k330, n330⟩, -, X330, ⟨Lc330, hQ330, l330, y330, z330⟩, st330⟩ := X0.virtualBack hx (y := (⟨"com/example/lapse/lapse/MarkingCode", "fits", "([J)Z"⟩ : MethodName)) (z := (⟨"com/example/lapse/lapse/MarkingCode", "fits", "([J)Z"⟩ : MethodName)) hown (mvT hZ (hw _ (List.mem_of_getElem? (i := 44) rfl))) (mvT hZ (hw _ (List.mem_of_getElem? (i := 45) rfl))) (notFace_of_selects (args := #[]) (mvT hZ (hw _ (List.mem_of_getElem? (i := 47) rfl)))) (mvT hZ (hw _ (List.mem_of_getElem? (i := 47) rfl))) (mvT hZ (hw _ (List.mem_of_getElem? (i := 46) rfl))) (by decide) (backOf (W := 0) (own_ft3 l Z a0 hw [] cd mk am mo mv h0 n0 Z0 F_cd_most A_am A_mk) hZ (hw _ (List.mem_of_getElem? (i := 48) rfl)) (hw _ (List.mem_of_getElem? (i := 12) rfl)) (by decide) (by decide)) q330a q330c (g := (mkF m 185 #[.val (.int w0), .val (.int g0), .val (.long a_), .second, .val (.long b_), .second, .val (.long c_), .second, .val (.int (3 : Int32)), .val (.int wd), .val (.int k_), .val (.long mt), .second, .val (.ref mk), .val (.ref wn), .val (.ref cd), .val (.int (1 : Int32))] [(.ref mk), (.ref cd)])) rfl (by rw [hml]; rfl) (Steps.refl _) (argsL := [(.ref mk)]) (rest := []) (lenOf own_pd_8 rfl) rfl (by show 2 * 0 + _ ≤ _; exact Nat.le_of_eq rfl) (hb hby at_185) (fun _ _ => ⟨rfl, e0, (by decide : 12 + 0 ≤ _), (by decide : 38 + 0 ≤ _)⟩)
        dsimp only [Pt.U, Pt.locs, Pt.cells, Pt.slots] at X330 l330 y330 z330 st330 hQ330
        subst l330 y330 z330
        obtain ⟨rfl, N330q, e330⟩ := hQ330
        have N330 := Fr.app N0 N330q
        refine own_by (fun t k => st330.trans k) ?_
        show own_Go p e below T330 (mkF m 188 #[.val (.int w0), .val (.int g0), .val (.long a_), .second, .val (.long b_), .second, .val (.long c_), .second, .val (.int (3 : Int32)), .val (.int wd), .val (.int k_), .val (.long mt), .second, .val (.ref mk), .val (.ref wn), .val (.ref cd), .val (.int (1 : Int32))] [(.int (if ((mo 0).toInt64) < (mv 0) then (0 : Int32) else (if ((mo 1).toInt64) < (mv 1) then (0 : Int32) else (if ((mo 2).toInt64) < (mv 2) then (0 : Int32) else (1 : Int32)))))]) _
        refine own_s_iload X330.here hx (hb hby at_188) rfl ?_
        refine own_s_icmpNo X330.here hx (hb hby at_190) (Jvm.Free.XT.ii_ne_f ((by rw [hm0, hm1, hm2, if_neg hc141, if_neg hc156, if_neg hc171]))) ?_
        refine own_s_iconst X330.here hx (1 : Int32) (hb hby at_193) rfl ?_
        show own_Go p e below T330 (mkF m 194 #[.val (.int w0), .val (.int g0), .val (.long a_), .second, .val (.long b_), .second, .val (.long c_), .second, .val (.int (3 : Int32)), .val (.int wd), .val (.int k_), .val (.long mt), .second, .val (.ref mk), .val (.ref wn), .val (.ref cd), .val (.int (1 : Int32))] [(.int (1 : Int32))]) _
        refine own_s_goto X330.here hx 198 (hb hby at_194) (by decide) (by decide) ?_
        refine own_retZ X330 hx hret hlk (hb hby at_198) rfl (by decide) (by decide) ?_
        exact ⟨rfl, N330⟩
theorem own_k30 : ∀ kk : Fin 30, (own_f1 (31 : Int32) (((64 : Int32) - (own_f11 ((1 : Int64) <<< ((Int32.ofNat (kk.val + 1)) &&& 0x3f).toInt64))) + (1 : Int32))) = (own_f1 (31 : Int32) ((Int32.ofNat (kk.val + 1)) + (2 : Int32))) ∧ (own_mo (own_f1 (31 : Int32) ((Int32.ofNat (kk.val + 1)) + (2 : Int32)))).toInt64 = (((1 : Int64) <<< ((own_f1 (31 : Int32) ((Int32.ofNat (kk.val + 1)) + (2 : Int32))) &&& 0x3f).toInt64) - (1 : Int64)) ∧ ((1 : Int32).toInt64) < ((1 : Int64) <<< ((Int32.ofNat (kk.val + 1)) &&& 0x3f).toInt64) := by decide +kernel
theorem own_kb (x : Int32) : ∃ kk : Fin 30, (((x &&& (31 : Int32)) % (30 : Int32)) + (1 : Int32)) = Int32.ofNat (kk.val + 1) := by
  have e1 : (x &&& (31 : Int32)).toInt = x.toInt % 2 ^ 5 := Jvm.Kit.i32_mask x _ (k := 5) (by decide) (by decide)
  have e2 : ((x &&& (31 : Int32)) % (30 : Int32)).toInt = (x.toInt % 2 ^ 5) % 30 := by rw [Jvm.Kit.i32_rem_nonneg (by omega), e1, show (30 : Int32).toInt = 30 from by decide]
  refine ⟨⟨((x &&& (31 : Int32)) % (30 : Int32)).toInt.toNat, by omega⟩, ?_⟩
  show _ = Int32.ofNat (((x &&& (31 : Int32)) % (30 : Int32)).toInt.toNat + 1)
  rw [← own_ofs]
  congr 1
  apply Int32.toInt_inj.mp
  rw [own_toI (by omega)]
  omega
theorem own_w4 (x : Int32) : (x &&& (3 : Int32)) = 0 ∨ (x &&& (3 : Int32)) = 1 ∨ (x &&& (3 : Int32)) = 2 ∨ (x &&& (3 : Int32)) = 3 := by
  have e1 : (x &&& (3 : Int32)).toInt = x.toInt % 2 ^ 2 := Jvm.Kit.i32_mask x _ (k := 2) (by decide) (by decide)
  simp only [← Int32.toInt_inj, e1, show (0 : Int32).toInt = 0 from by decide, show (1 : Int32).toInt = 1 from by decide, show (2 : Int32).toInt = 2 from by decide, show (3 : Int32).toInt = 3 from by decide]
  omega
def own_b3 (x y z : Int64) : Nat → Int64
  | 0 => x | 1 => y | _ => z
theorem own_mo1 : own_mo (1 : Int32) = (1 : Int32) := by decide
theorem own_ml : maxLocals = 17 := rfl
theorem own_ef0 (m : MethodId) (w0 : Int32) (g0 : Int32) (a_ : Int64) (b_ : Int64) (c_ : Int64) : entryFrame m #[(.int w0), (.int g0), (.long a_), (.long b_), (.long c_)] maxLocals = mkF m 0 #[.val (.int w0), .val (.int g0), .val (.long a_), .second, .val (.long b_), .second, .val (.long c_), .second, .unset, .unset, .unset, .unset, .unset, .unset, .unset, .unset, .unset] [] := by first | (simp [entryFrame, mkF, argsToLocals, Value.category, maxLocals]; done) | rfl
theorem own_pd_1 : parseMethodDescriptor "(JJ)J" = some ⟨[.long, .long], some .long⟩ := by decide +kernel
theorem own_pd_2 : parseMethodDescriptor "(I)V" = some ⟨[.int], none⟩ := by decide +kernel
theorem own_pd_7 : parseMethodDescriptor "([J)Lcom/example/lapse/lapse/MarkingCode;" = some ⟨[(.array .long)], some (.object "com/example/lapse/lapse/MarkingCode")⟩ := by decide +kernel
def own_q_own_r0 (Z : State) (w0 : Int32) (g0 : Int32) (a_ : Int64) (b_ : Int64) (c_ : Int64) (h0 : Heap) (n0 : Nat) (v : Option Value) (h : Heap) (L : List Loc) : Prop := v = some (.int 1) ∧ Fr n0 L
set_option maxRecDepth 65536 in
set_option maxHeartbeats 40000000 in
theorem own_r0 (l : Launch) (Z : State) (a0 : Array Value) (hw : ∀ d ∈ tables_1, d.before a0 Z = true) (ws : List Jvm.Cond) (w0 : Int32) (g0 : Int32) (a_ : Int64) (b_ : Int64) (c_ : Int64) (h0 : Heap) (n0 : Nat) (Z0 : n0 ≤ h0.size) :
    MetFree l x (head1 (Jvm.Cond.code x code maxLocals ret :: ws) room_1) (fun aq Uq => aq = #[(.int w0), (.int g0), (.long a_), (.long b_), (.long c_)] ∧ Z.Warmed39 Uq.vm ∧ Uq.heap = h0) (fun _ _ _ _ _ => True) (fun _ Uq oq Uq' => ∃ vq Lq, oq = .returned vq ∧ own_q_own_r0 Z w0 g0 a_ b_ c_ h0 n0 vq Uq'.heap Lq ∧ FrameEnd Uq oq Uq' Lq 32 192) := by
  refine MetFree.of_bodySF (plainFor_of_name own_pn_MarkingCodeFitsPinLaw) hisR ?_
  intro p e s m args below meth c T0 Bd hml0 hP hK
  obtain ⟨rfl, hZ, hh⟩ := hP
  have hx := Bd.exec
  have hby := Bd.bytes
  have hml : c.maxLocals = 17 := hml0
  have hown : s.vm.findClass "com/example/lapse/lapse/MarkingCodeFitsPinLaw" = some m.cls := findClass_of_methodNamed Bd.named
  have hnm := (name_of_methodNamed Bd.named Bd.method).1
  have hret : meth.sig.returnType = (some .boolean) := Bd.returns
  have hlk : meth.locks = false := BodyLoose.notSynchronized Bd
  have X0 : Stand p l e room_1 s m #[(.int w0), (.int g0), (.long a_), (.long b_), (.long c_)] below meth c T0 [] 0 0 := Stand.of_body Bd
  have e0 : T0.heap = h0 := by rw [← hh, Bd.state]; rfl
  have N0 := Fr.nil n0
  refine own_start (own_ef0 m w0 g0 a_ b_ c_) (Q := fun (v : Option Value) (h : Heap) (L : List Loc) => v = some (.int 1) ∧ Fr n0 L) (k := 32) (j := 192) ?_
  show own_Go p e below T0 (mkF m 0 #[.val (.int w0), .val (.int g0), .val (.long a_), .second, .val (.long b_), .second, .val (.long c_), .second, .unset, .unset, .unset, .unset, .unset, .unset, .unset, .unset, .unset] []) _
  refine own_s_iloadN X0.here hx (hb hby at_0) rfl ?_
  refine own_s_iconst X0.here hx (3 : Int32) (hb hby at_1) rfl ?_
  refine own_s_iand X0.here hx (hb hby at_2) ?_
  refine own_s_istore X0.here hx #[.val (.int w0), .val (.int g0), .val (.long a_), .second, .val (.long b_), .second, .val (.long c_), .second, .val (.int (w0 &&& (3 : Int32))), .unset, .unset, .unset, .unset, .unset, .unset, .unset, .unset] (hb hby at_3) rfl ?_
  have hw4 := own_w4 w0
  generalize (w0 &&& (3 : Int32)) = wi at hw4 ⊢
  rcases hw4 with rfl | rfl | rfl | rfl
  ·
    show own_Go p e below T0 (mkF m 5 #[.val (.int w0), .val (.int g0), .val (.long a_), .second, .val (.long b_), .second, .val (.long c_), .second, .val (.int (0 : Int32)), .unset, .unset, .unset, .unset, .unset, .unset, .unset, .unset] []) _
    refine own_s_iloadN X0.here hx (hb hby at_5) rfl ?_
    refine own_s_iconst X0.here hx (1 : Int32) (hb hby at_6) rfl ?_
    refine own_s_iand X0.here hx (hb hby at_7) ?_
    by_cases hc8 : (g0 &&& (1 : Int32)) = 0
    ·
      show own_Go p e below T0 (mkF m 8 #[.val (.int w0), .val (.int g0), .val (.long a_), .second, .val (.long b_), .second, .val (.long c_), .second, .val (.int (0 : Int32)), .unset, .unset, .unset, .unset, .unset, .unset, .unset, .unset] [(.int (g0 &&& (1 : Int32)))]) _
      refine own_s_ifYes X0.here hx 15 (hb hby at_8) (Jvm.Free.XT.i0_eq_t hc8) (by decide) (by decide) ?_
      refine own_s_iconst X0.here hx (0 : Int32) (hb hby at_15) rfl ?_
      refine own_s_istore X0.here hx #[.val (.int w0), .val (.int g0), .val (.long a_), .second, .val (.long b_), .second, .val (.long c_), .second, .val (.int (0 : Int32)), .val (.int (0 : Int32)), .unset, .unset, .unset, .unset, .unset, .unset, .unset] (hb hby at_16) rfl ?_
      refine own_s_iloadN X0.here hx (hb hby at_18) rfl ?_
      refine own_s_iconst X0.here hx (1 : Int32) (hb hby at_19) rfl ?_
      refine own_s_iushr X0.here hx (hb hby at_20) ?_
      refine own_s_bipush X0.here hx (31 : Int32) (hb hby at_21) rfl ?_
      refine own_s_iand X0.here hx (hb hby at_23) ?_
      refine own_s_bipush X0.here hx (30 : Int32) (hb hby at_24) rfl ?_
      refine own_by (fun tq_ kq_ => iremM X0 hx rfl (hb hby at_26) rfl (by decide) kq_) ?_
      show own_Go p e below T0 (mkF m 27 #[.val (.int w0), .val (.int g0), .val (.long a_), .second, .val (.long b_), .second, .val (.long c_), .second, .val (.int (0 : Int32)), .val (.int (0 : Int32)), .unset, .unset, .unset, .unset, .unset, .unset, .unset] [(.int ((((g0.toUInt32 >>> ((1 : Int32) &&& 31).toUInt32).toInt32) &&& (31 : Int32)) % (30 : Int32)))]) _
      refine own_s_iconst X0.here hx (1 : Int32) (hb hby at_27) rfl ?_
      refine own_s_iadd X0.here hx (hb hby at_28) ?_
      refine own_s_istore X0.here hx #[.val (.int w0), .val (.int g0), .val (.long a_), .second, .val (.long b_), .second, .val (.long c_), .second, .val (.int (0 : Int32)), .val (.int (0 : Int32)), .val (.int (((((g0.toUInt32 >>> ((1 : Int32) &&& 31).toUInt32).toInt32) &&& (31 : Int32)) % (30 : Int32)) + (1 : Int32))), .unset, .unset, .unset, .unset, .unset, .unset] (hb hby at_29) rfl ?_
      obtain ⟨kk, hke⟩ := own_kb ((g0.toUInt32 >>> ((1 : Int32) &&& 31).toUInt32).toInt32)
      rw [hke]
      show own_Go p e below T0 (mkF m 31 #[.val (.int w0), .val (.int g0), .val (.long a_), .second, .val (.long b_), .second, .val (.long c_), .second, .val (.int (0 : Int32)), .val (.int (0 : Int32)), .val (.int (Int32.ofNat (kk.val + 1))), .unset, .unset, .unset, .unset, .unset, .unset] []) _
      refine own_s_iload X0.here hx (hb hby at_31) rfl ?_
      show own_Go p e below T0 (mkF m 33 #[.val (.int w0), .val (.int g0), .val (.long a_), .second, .val (.long b_), .second, .val (.long c_), .second, .val (.int (0 : Int32)), .val (.int (0 : Int32)), .val (.int (Int32.ofNat (kk.val + 1))), .unset, .unset, .unset, .unset, .unset, .unset] [(.int (0 : Int32))]) _
      refine own_s_ifYes X0.here hx 52 (hb hby at_33) (Jvm.Free.XT.i0_eq_t ((by decide))) (by decide) (by decide) ?_
      refine own_s_lconst X0.here hx (1 : Int64) (hb hby at_52) rfl ?_
      refine own_s_lstore X0.here hx #[.val (.int w0), .val (.int g0), .val (.long a_), .second, .val (.long b_), .second, .val (.long c_), .second, .val (.int (0 : Int32)), .val (.int (0 : Int32)), .val (.int (Int32.ofNat (kk.val + 1))), .val (.long (1 : Int64)), .second, .unset, .unset, .unset, .unset] (hb hby at_53) rfl ?_
      refine own_s_iconst X0.here hx (3 : Int32) (hb hby at_55) rfl ?_
      obtain ⟨T331, h331, k331, X331, e331, E331, A331, st331⟩ := newP X0 hx hZ (hw _ (List.mem_of_getElem? (i := 4) rfl)) e0 (g := (mkF m 56 #[.val (.int w0), .val (.int g0), .val (.long a_), .second, .val (.long b_), .second, .val (.long c_), .second, .val (.int (0 : Int32)), .val (.int (0 : Int32)), .val (.int (Int32.ofNat (kk.val + 1))), .val (.long (1 : Int64)), .second, .unset, .unset, .unset, .unset] [(.int (3 : Int32))])) rfl (hb hby at_56) rfl (by decide) (cap := 3) (by decide) (by decide) (by decide) (by decide)
      obtain ⟨b331, g331⟩ : ∃ z, z = h0.size := ⟨_, rfl⟩
      rw [← g331] at A331 st331
      have ge_b331 : n0 ≤ b331 := Nat.le_trans Z0 (Nat.le_of_eq g331.symm)
      have SZ331 : n0 ≤ h331.size := Nat.le_trans Z0 E331.1
      have f332 : own_Av Z h331 b331 .long 3 (fun _ => (.long (0 : Int64))) := own_Av.ofnew A331 (by decide) rfl
      refine own_by st331 ?_
      show own_Go p e below T331 (mkF m 58 #[.val (.int w0), .val (.int g0), .val (.long a_), .second, .val (.long b_), .second, .val (.long c_), .second, .val (.int (0 : Int32)), .val (.int (0 : Int32)), .val (.int (Int32.ofNat (kk.val + 1))), .val (.long (1 : Int64)), .second, .unset, .unset, .unset, .unset] [(.ref b331)]) _
      refine own_s_astore X331.here hx #[.val (.int w0), .val (.int g0), .val (.long a_), .second, .val (.long b_), .second, .val (.long c_), .second, .val (.int (0 : Int32)), .val (.int (0 : Int32)), .val (.int (Int32.ofNat (kk.val + 1))), .val (.long (1 : Int64)), .second, .val (.ref b331), .unset, .unset, .unset] (hb hby at_58) rfl rfl ?_
      refine own_s_aload X331.here hx (hb hby at_60) rfl rfl ?_
      refine own_s_iconst X331.here hx (0 : Int32) (hb hby at_62) rfl ?_
      refine own_s_lloadN X331.here hx (hb hby at_63) rfl ?_
      refine own_s_lload X331.here hx (hb hby at_64) rfl ?_
      obtain ⟨_, _, ⟨T333, L333, k333, n333⟩, -, X333, ⟨Lc333, hQ333, l333, y333, z333⟩, st333⟩ := Jvm.LawKit.callS X331 hx (y := (⟨"com/example/lapse/lapse/MarkingCodeFitsPinLaw", "draw", "(JJ)J"⟩ : MethodName)) hown (mvT hZ (hw _ (List.mem_of_getElem? (i := 5) rfl))) (mvT hZ (hw _ (List.mem_of_getElem? (i := 6) rfl))) (mvT hZ (hw _ (List.mem_of_getElem? (i := 7) rfl))) (mvT hZ (hw _ (List.mem_of_getElem? (i := 8) rfl))) (by decide) (backOf (W := 2) (own_r2 l Z a0 hw [] a_ (1 : Int64)  h331 n0 SZ331 ) hZ (hw _ (List.mem_of_getElem? (i := 8) rfl)) (hw _ (List.mem_of_getElem? (i := 7) rfl)) (by decide) (by decide)) (g := (mkF m 66 #[.val (.int w0), .val (.int g0), .val (.long a_), .second, .val (.long b_), .second, .val (.long c_), .second, .val (.int (0 : Int32)), .val (.int (0 : Int32)), .val (.int (Int32.ofNat (kk.val + 1))), .val (.long (1 : Int64)), .second, .val (.ref b331), .unset, .unset, .unset] [(.long (1 : Int64)), (.long a_), (.int (0 : Int32)), (.ref b331)])) rfl (by rw [hml]; rfl) (argsL := [(.long a_), (.long (1 : Int64))]) (rest := [(.int (0 : Int32)), (.ref b331)]) (lenOf own_pd_1 rfl) rfl (by show 2 * 0 + _ ≤ _; exact Nat.le_of_eq rfl) (hb hby at_66) (fun _ _ => ⟨rfl, e331, (by decide : 1 + 0 ≤ _), (by decide : 3 + 0 ≤ _)⟩)
      dsimp only [Pt.U, Pt.locs, Pt.cells, Pt.slots] at X333 l333 y333 z333 st333 hQ333
      subst l333 y333 z333
      obtain ⟨rfl, N333q, e333⟩ := hQ333
      have N333 := Fr.app N0 N333q
      refine own_by st333 ?_
      show own_Go p e below T333 (mkF m 69 #[.val (.int w0), .val (.int g0), .val (.long a_), .second, .val (.long b_), .second, .val (.long c_), .second, .val (.int (0 : Int32)), .val (.int (0 : Int32)), .val (.int (Int32.ofNat (kk.val + 1))), .val (.long (1 : Int64)), .second, .val (.ref b331), .unset, .unset, .unset] [(.long (own_f2 a_ (1 : Int64))), (.int (0 : Int32)), (.ref b331)]) _
      obtain ⟨T334, h334, X334, e334, W334, fa334, st334⟩ := own_stJ X333 hx hZ e333 f332 (k := 0) (by decide) (by decide) (g := (mkF m 69 #[.val (.int w0), .val (.int g0), .val (.long a_), .second, .val (.long b_), .second, .val (.long c_), .second, .val (.int (0 : Int32)), .val (.int (0 : Int32)), .val (.int (Int32.ofNat (kk.val + 1))), .val (.long (1 : Int64)), .second, .val (.ref b331), .unset, .unset, .unset] [(.long (own_f2 a_ (1 : Int64))), (.int (0 : Int32)), (.ref b331)])) rfl rfl (hb hby at_69)
      have N334 := Fr.snoc X334 N333 ge_b331
      have SZ334 : n0 ≤ h334.size := by rw [W334.size]; exact SZ331
      refine own_by st334 ?_
      show own_Go p e below T334 (mkF m 70 #[.val (.int w0), .val (.int g0), .val (.long a_), .second, .val (.long b_), .second, .val (.long c_), .second, .val (.int (0 : Int32)), .val (.int (0 : Int32)), .val (.int (Int32.ofNat (kk.val + 1))), .val (.long (1 : Int64)), .second, .val (.ref b331), .unset, .unset, .unset] []) _
      refine own_s_aload X334.here hx (hb hby at_70) rfl rfl ?_
      refine own_s_iconst X334.here hx (1 : Int32) (hb hby at_72) rfl ?_
      refine own_s_lload X334.here hx (hb hby at_73) rfl ?_
      refine own_s_lconst X334.here hx (1 : Int64) (hb hby at_75) rfl ?_
      obtain ⟨_, _, ⟨T335, L335, k335, n335⟩, -, X335, ⟨Lc335, hQ335, l335, y335, z335⟩, st335⟩ := Jvm.LawKit.callS X334 hx (y := (⟨"com/example/lapse/lapse/MarkingCodeFitsPinLaw", "draw", "(JJ)J"⟩ : MethodName)) hown (mvT hZ (hw _ (List.mem_of_getElem? (i := 5) rfl))) (mvT hZ (hw _ (List.mem_of_getElem? (i := 6) rfl))) (mvT hZ (hw _ (List.mem_of_getElem? (i := 7) rfl))) (mvT hZ (hw _ (List.mem_of_getElem? (i := 8) rfl))) (by decide) (backOf (W := 2) (own_r2 l Z a0 hw [] b_ (1 : Int64)  h334 n0 SZ334 ) hZ (hw _ (List.mem_of_getElem? (i := 8) rfl)) (hw _ (List.mem_of_getElem? (i := 7) rfl)) (by decide) (by decide)) (g := (mkF m 76 #[.val (.int w0), .val (.int g0), .val (.long a_), .second, .val (.long b_), .second, .val (.long c_), .second, .val (.int (0 : Int32)), .val (.int (0 : Int32)), .val (.int (Int32.ofNat (kk.val + 1))), .val (.long (1 : Int64)), .second, .val (.ref b331), .unset, .unset, .unset] [(.long (1 : Int64)), (.long b_), (.int (1 : Int32)), (.ref b331)])) rfl (by rw [hml]; rfl) (argsL := [(.long b_), (.long (1 : Int64))]) (rest := [(.int (1 : Int32)), (.ref b331)]) (lenOf own_pd_1 rfl) rfl (by show 2 * 0 + _ ≤ _; exact Nat.le_of_eq rfl) (hb hby at_76) (fun _ _ => ⟨rfl, e334, (by decide : 1 + 0 ≤ _), (by decide : 3 + 0 ≤ _)⟩)
      dsimp only [Pt.U, Pt.locs, Pt.cells, Pt.slots] at X335 l335 y335 z335 st335 hQ335
      subst l335 y335 z335
      obtain ⟨rfl, N335q, e335⟩ := hQ335
      have N335 := Fr.app N334 N335q
      refine own_by st335 ?_
      show own_Go p e below T335 (mkF m 79 #[.val (.int w0), .val (.int g0), .val (.long a_), .second, .val (.long b_), .second, .val (.long c_), .second, .val (.int (0 : Int32)), .val (.int (0 : Int32)), .val (.int (Int32.ofNat (kk.val + 1))), .val (.long (1 : Int64)), .second, .val (.ref b331), .unset, .unset, .unset] [(.long (own_f2 b_ (1 : Int64))), (.int (1 : Int32)), (.ref b331)]) _
      obtain ⟨T336, h336, X336, e336, W336, fa336, st336⟩ := own_stJ X335 hx hZ e335 fa334 (k := 1) (by decide) (by decide) (g := (mkF m 79 #[.val (.int w0), .val (.int g0), .val (.long a_), .second, .val (.long b_), .second, .val (.long c_), .second, .val (.int (0 : Int32)), .val (.int (0 : Int32)), .val (.int (Int32.ofNat (kk.val + 1))), .val (.long (1 : Int64)), .second, .val (.ref b331), .unset, .unset, .unset] [(.long (own_f2 b_ (1 : Int64))), (.int (1 : Int32)), (.ref b331)])) rfl rfl (hb hby at_79)
      have N336 := Fr.snoc X336 N335 ge_b331
      have SZ336 : n0 ≤ h336.size := by rw [W336.size]; exact SZ334
      refine own_by st336 ?_
      show own_Go p e below T336 (mkF m 80 #[.val (.int w0), .val (.int g0), .val (.long a_), .second, .val (.long b_), .second, .val (.long c_), .second, .val (.int (0 : Int32)), .val (.int (0 : Int32)), .val (.int (Int32.ofNat (kk.val + 1))), .val (.long (1 : Int64)), .second, .val (.ref b331), .unset, .unset, .unset] []) _
      refine own_s_aload X336.here hx (hb hby at_80) rfl rfl ?_
      refine own_s_iconst X336.here hx (2 : Int32) (hb hby at_82) rfl ?_
      refine own_s_lload X336.here hx (hb hby at_83) rfl ?_
      refine own_s_lconst X336.here hx (1 : Int64) (hb hby at_85) rfl ?_
      obtain ⟨_, _, ⟨T337, L337, k337, n337⟩, -, X337, ⟨Lc337, hQ337, l337, y337, z337⟩, st337⟩ := Jvm.LawKit.callS X336 hx (y := (⟨"com/example/lapse/lapse/MarkingCodeFitsPinLaw", "draw", "(JJ)J"⟩ : MethodName)) hown (mvT hZ (hw _ (List.mem_of_getElem? (i := 5) rfl))) (mvT hZ (hw _ (List.mem_of_getElem? (i := 6) rfl))) (mvT hZ (hw _ (List.mem_of_getElem? (i := 7) rfl))) (mvT hZ (hw _ (List.mem_of_getElem? (i := 8) rfl))) (by decide) (backOf (W := 2) (own_r2 l Z a0 hw [] c_ (1 : Int64)  h336 n0 SZ336 ) hZ (hw _ (List.mem_of_getElem? (i := 8) rfl)) (hw _ (List.mem_of_getElem? (i := 7) rfl)) (by decide) (by decide)) (g := (mkF m 86 #[.val (.int w0), .val (.int g0), .val (.long a_), .second, .val (.long b_), .second, .val (.long c_), .second, .val (.int (0 : Int32)), .val (.int (0 : Int32)), .val (.int (Int32.ofNat (kk.val + 1))), .val (.long (1 : Int64)), .second, .val (.ref b331), .unset, .unset, .unset] [(.long (1 : Int64)), (.long c_), (.int (2 : Int32)), (.ref b331)])) rfl (by rw [hml]; rfl) (argsL := [(.long c_), (.long (1 : Int64))]) (rest := [(.int (2 : Int32)), (.ref b331)]) (lenOf own_pd_1 rfl) rfl (by show 2 * 0 + _ ≤ _; exact Nat.le_of_eq rfl) (hb hby at_86) (fun _ _ => ⟨rfl, e336, (by decide : 1 + 0 ≤ _), (by decide : 3 + 0 ≤ _)⟩)
      dsimp only [Pt.U, Pt.locs, Pt.cells, Pt.slots] at X337 l337 y337 z337 st337 hQ337
      subst l337 y337 z337
      obtain ⟨rfl, N337q, e337⟩ := hQ337
      have N337 := Fr.app N336 N337q
      refine own_by st337 ?_
      show own_Go p e below T337 (mkF m 89 #[.val (.int w0), .val (.int g0), .val (.long a_), .second, .val (.long b_), .second, .val (.long c_), .second, .val (.int (0 : Int32)), .val (.int (0 : Int32)), .val (.int (Int32.ofNat (kk.val + 1))), .val (.long (1 : Int64)), .second, .val (.ref b331), .unset, .unset, .unset] [(.long (own_f2 c_ (1 : Int64))), (.int (2 : Int32)), (.ref b331)]) _
      obtain ⟨T338, h338, X338, e338, W338, fa338, st338⟩ := own_stJ X337 hx hZ e337 fa336 (k := 2) (by decide) (by decide) (g := (mkF m 89 #[.val (.int w0), .val (.int g0), .val (.long a_), .second, .val (.long b_), .second, .val (.long c_), .second, .val (.int (0 : Int32)), .val (.int (0 : Int32)), .val (.int (Int32.ofNat (kk.val + 1))), .val (.long (1 : Int64)), .second, .val (.ref b331), .unset, .unset, .unset] [(.long (own_f2 c_ (1 : Int64))), (.int (2 : Int32)), (.ref b331)])) rfl rfl (hb hby at_89)
      have N338 := Fr.snoc X338 N337 ge_b331
      have SZ338 : n0 ≤ h338.size := by rw [W338.size]; exact SZ336
      refine own_by st338 ?_
      show own_Go p e below T338 (mkF m 90 #[.val (.int w0), .val (.int g0), .val (.long a_), .second, .val (.long b_), .second, .val (.long c_), .second, .val (.int (0 : Int32)), .val (.int (0 : Int32)), .val (.int (Int32.ofNat (kk.val + 1))), .val (.long (1 : Int64)), .second, .val (.ref b331), .unset, .unset, .unset] []) _
      refine own_s_iconst X338.here hx (3 : Int32) (hb hby at_90) rfl ?_
      obtain ⟨T339, h339, k339, X339, e339, E339, A339, st339⟩ := newP X338 hx hZ (hw _ (List.mem_of_getElem? (i := 4) rfl)) e338 (g := (mkF m 91 #[.val (.int w0), .val (.int g0), .val (.long a_), .second, .val (.long b_), .second, .val (.long c_), .second, .val (.int (0 : Int32)), .val (.int (0 : Int32)), .val (.int (Int32.ofNat (kk.val + 1))), .val (.long (1 : Int64)), .second, .val (.ref b331), .unset, .unset, .unset] [(.int (3 : Int32))])) rfl (hb hby at_91) rfl (by decide) (cap := 3) (by decide) (by decide) (by decide) (by decide)
      obtain ⟨b339, g339⟩ : ∃ z, z = h338.size := ⟨_, rfl⟩
      rw [← g339] at A339 st339
      have ge_b339 : n0 ≤ b339 := Nat.le_trans SZ338 (Nat.le_of_eq g339.symm)
      have ne_b331_b339 : b331 ≠ b339 := Nat.ne_of_lt (Nat.lt_of_lt_of_le fa338.lt (Nat.le_of_eq g339.symm))
      have f340 := fa338.ext E339
      have SZ339 : n0 ≤ h339.size := Nat.le_trans SZ338 E339.1
      have f341 : own_Av Z h339 b339 .long 3 (fun _ => (.long (0 : Int64))) := own_Av.ofnew A339 (by decide) rfl
      refine own_by st339 ?_
      show own_Go p e below T339 (mkF m 93 #[.val (.int w0), .val (.int g0), .val (.long a_), .second, .val (.long b_), .second, .val (.long c_), .second, .val (.int (0 : Int32)), .val (.int (0 : Int32)), .val (.int (Int32.ofNat (kk.val + 1))), .val (.long (1 : Int64)), .second, .val (.ref b331), .unset, .unset, .unset] [(.ref b339)]) _
      refine own_s_astore X339.here hx #[.val (.int w0), .val (.int g0), .val (.long a_), .second, .val (.long b_), .second, .val (.long c_), .second, .val (.int (0 : Int32)), .val (.int (0 : Int32)), .val (.int (Int32.ofNat (kk.val + 1))), .val (.long (1 : Int64)), .second, .val (.ref b331), .val (.ref b339), .unset, .unset] (hb hby at_93) rfl rfl ?_
      refine own_s_aload X339.here hx (hb hby at_95) rfl rfl ?_
      refine own_s_iconst X339.here hx (0 : Int32) (hb hby at_97) rfl ?_
      refine own_s_lconst X339.here hx (1 : Int64) (hb hby at_98) rfl ?_
      refine own_s_iload X339.here hx (hb hby at_99) rfl ?_
      refine own_s_lshl X339.here hx (hb hby at_101) ?_
      obtain ⟨T342, h342, X342, e342, W342, fa342, st342⟩ := own_stJ X339 hx hZ e339 f341 (k := 0) (by decide) (by decide) (g := (mkF m 102 #[.val (.int w0), .val (.int g0), .val (.long a_), .second, .val (.long b_), .second, .val (.long c_), .second, .val (.int (0 : Int32)), .val (.int (0 : Int32)), .val (.int (Int32.ofNat (kk.val + 1))), .val (.long (1 : Int64)), .second, .val (.ref b331), .val (.ref b339), .unset, .unset] [(.long ((1 : Int64) <<< ((Int32.ofNat (kk.val + 1)) &&& 0x3f).toInt64)), (.int (0 : Int32)), (.ref b339)])) rfl rfl (hb hby at_102)
      have f343 := f340.other W342 ne_b331_b339
      have N342 := Fr.snoc X342 N338 ge_b339
      have SZ342 : n0 ≤ h342.size := by rw [W342.size]; exact SZ339
      refine own_by st342 ?_
      show own_Go p e below T342 (mkF m 103 #[.val (.int w0), .val (.int g0), .val (.long a_), .second, .val (.long b_), .second, .val (.long c_), .second, .val (.int (0 : Int32)), .val (.int (0 : Int32)), .val (.int (Int32.ofNat (kk.val + 1))), .val (.long (1 : Int64)), .second, .val (.ref b331), .val (.ref b339), .unset, .unset] []) _
      have f344 : own_Av Z h342 b331 .long 3 (fun j => .long ((own_b3 (own_f2 a_ (1 : Int64)) (own_f2 b_ (1 : Int64)) (own_f2 c_ (1 : Int64))) j)) := f343.cong rfl (fun j hj => by
        match j, hj with
        | 0, _ => rfl
        | 1, _ => rfl
        | 2, _ => rfl)
      obtain ⟨T345, h345, X345, e345, E345, A345, D345, -, st345⟩ := newO X342 hx hZ hown (hw _ (List.mem_of_getElem? (i := 10) rfl)) (hw _ (List.mem_of_getElem? (i := 11) rfl)) (hw _ (List.mem_of_getElem? (i := 12) rfl)) e342 (g := (mkF m 103 #[.val (.int w0), .val (.int g0), .val (.long a_), .second, .val (.long b_), .second, .val (.long c_), .second, .val (.int (0 : Int32)), .val (.int (0 : Int32)), .val (.int (Int32.ofNat (kk.val + 1))), .val (.long (1 : Int64)), .second, .val (.ref b331), .val (.ref b339), .unset, .unset] [])) rfl (hb hby at_103) (by decide) (by decide)
      obtain ⟨b345, g345⟩ : ∃ z, z = h342.size := ⟨_, rfl⟩
      rw [← g345] at A345 D345 st345
      have ge_b345 : n0 ≤ b345 := Nat.le_trans SZ342 (Nat.le_of_eq g345.symm)
      have ne_b331_b345 : b331 ≠ b345 := Nat.ne_of_lt (Nat.lt_of_lt_of_le f344.lt (Nat.le_of_eq g345.symm))
      have ne_b339_b345 : b339 ≠ b345 := Nat.ne_of_lt (Nat.lt_of_lt_of_le fa342.lt (Nat.le_of_eq g345.symm))
      have f346 := f344.ext E345
      have f347 := fa342.ext E345
      have SZ345 : n0 ≤ h345.size := Nat.le_trans SZ342 E345.1
      have f348 : Fld Z h345 b345 "com/example/lapse/lapse/MarkingCode" "most" "[I" .null := D345 (Or.inr (hw _ (List.mem_of_getElem? (i := 31) rfl))) (ty := (.array .int)) (by decide)
      have f349 : Fld Z h345 b345 "com/example/lapse/lapse/MarkingCode" "words" "[I" .null := D345 (Or.inr (hw _ (List.mem_of_getElem? (i := 33) rfl))) (ty := (.array .int)) (by decide)
      have f350 : Fld Z h345 b345 "com/example/lapse/lapse/MarkingCode" "shifts" "[I" .null := D345 (Or.inr (hw _ (List.mem_of_getElem? (i := 35) rfl))) (ty := (.array .int)) (by decide)
      have f351 : Fld Z h345 b345 "com/example/lapse/lapse/MarkingCode" "length" "I" (.int (0 : Int32)) := D345 (Or.inr (hw _ (List.mem_of_getElem? (i := 37) rfl))) (ty := .int) (by decide)
      refine own_by st345 ?_
      show own_Go p e below T345 (mkF m 106 #[.val (.int w0), .val (.int g0), .val (.long a_), .second, .val (.long b_), .second, .val (.long c_), .second, .val (.int (0 : Int32)), .val (.int (0 : Int32)), .val (.int (Int32.ofNat (kk.val + 1))), .val (.long (1 : Int64)), .second, .val (.ref b331), .val (.ref b339), .unset, .unset] [(.ref b345)]) _
      refine own_s_dup X345.here hx (hb hby at_106) rfl ?_
      refine own_s_iload X345.here hx (hb hby at_107) rfl ?_
      obtain ⟨_, _, ⟨T352, L352, k352, n352⟩, -, X352, ⟨Lc352, hQ352, l352, y352, z352⟩, st352⟩ := X345.specialBack hx (y := (⟨"com/example/lapse/lapse/MarkingCode", "<init>", "(I)V"⟩ : MethodName)) rfl hown (mvT hZ (hw _ (List.mem_of_getElem? (i := 13) rfl))) (mvT hZ (hw _ (List.mem_of_getElem? (i := 14) rfl))) (mvT hZ (hw _ (List.mem_of_getElem? (i := 15) rfl))) (by decide) (backOf (W := 1) (own_r3 l Z a0 hw [] b345 (0 : Int32) 0 h345 n0 SZ345 (by decide) (by decide) (by decide) A345 f348 f349 f350 f351 ge_b345) hZ (hw _ (List.mem_of_getElem? (i := 15) rfl)) (hw _ (List.mem_of_getElem? (i := 12) rfl)) (by decide) (by decide)) (g := (mkF m 109 #[.val (.int w0), .val (.int g0), .val (.long a_), .second, .val (.long b_), .second, .val (.long c_), .second, .val (.int (0 : Int32)), .val (.int (0 : Int32)), .val (.int (Int32.ofNat (kk.val + 1))), .val (.long (1 : Int64)), .second, .val (.ref b331), .val (.ref b339), .unset, .unset] [(.int (0 : Int32)), (.ref b345), (.ref b345)])) rfl (by rw [hml]; rfl) (Steps.refl _) (a := b345) (argsL := [(.int (0 : Int32))]) (rest := [(.ref b345)]) (lenOf own_pd_2 rfl) rfl (by show 2 * 0 + _ ≤ _; exact Nat.le_of_eq rfl) (hb hby at_109) (fun _ _ => ⟨rfl, e345, (by decide : 3 + 4 ≤ _), (by decide : 10 + 12 ≤ _)⟩)
      dsimp only [Pt.U, Pt.locs, Pt.cells, Pt.slots] at X352 l352 y352 z352 st352 hQ352
      subst l352 y352 z352
      obtain ⟨rfl, N352q, K352, am352, aw352, as352, gm352, gw352, gs352, zm352, zw352, zs352, nmw352, nms352, nws352, fm352, Am352, fw352, Aw352, fs352, As352, fl352⟩ := hQ352
      have N352 := Fr.app N342 N352q
      have f353 := f346.keep K352 (ninS ne_b331_b345 nin0)
      have f354 := f347.keep K352 (ninS ne_b339_b345 nin0)
      have f355 := A345.keep K352
      have SZ352 : n0 ≤ T352.heap.size := Nat.le_trans SZ345 K352.1
      refine own_by (fun t k => st352.trans k) ?_
      have ne_b331_am352 : b331 ≠ am352 := Nat.ne_of_lt (Nat.lt_of_lt_of_le f346.lt zm352)
      have ne_b339_am352 : b339 ≠ am352 := Nat.ne_of_lt (Nat.lt_of_lt_of_le f347.lt zm352)
      have ne_b345_am352 : b345 ≠ am352 := Nat.ne_of_lt (Nat.lt_of_lt_of_le A345.lt zm352)
      have ne_b331_aw352 : b331 ≠ aw352 := Nat.ne_of_lt (Nat.lt_of_lt_of_le f346.lt zw352)
      have ne_b339_aw352 : b339 ≠ aw352 := Nat.ne_of_lt (Nat.lt_of_lt_of_le f347.lt zw352)
      have ne_b345_aw352 : b345 ≠ aw352 := Nat.ne_of_lt (Nat.lt_of_lt_of_le A345.lt zw352)
      have ne_b331_as352 : b331 ≠ as352 := Nat.ne_of_lt (Nat.lt_of_lt_of_le f346.lt zs352)
      have ne_b339_as352 : b339 ≠ as352 := Nat.ne_of_lt (Nat.lt_of_lt_of_le f347.lt zs352)
      have ne_b345_as352 : b345 ≠ as352 := Nat.ne_of_lt (Nat.lt_of_lt_of_le A345.lt zs352)
      show own_Go p e below T352 (mkF m 112 #[.val (.int w0), .val (.int g0), .val (.long a_), .second, .val (.long b_), .second, .val (.long c_), .second, .val (.int (0 : Int32)), .val (.int (0 : Int32)), .val (.int (Int32.ofNat (kk.val + 1))), .val (.long (1 : Int64)), .second, .val (.ref b331), .val (.ref b339), .unset, .unset] [(.ref b345)]) _
      refine own_s_astore X352.here hx #[.val (.int w0), .val (.int g0), .val (.long a_), .second, .val (.long b_), .second, .val (.long c_), .second, .val (.int (0 : Int32)), .val (.int (0 : Int32)), .val (.int (Int32.ofNat (kk.val + 1))), .val (.long (1 : Int64)), .second, .val (.ref b331), .val (.ref b339), .val (.ref b345), .unset] (hb hby at_112) rfl rfl ?_
      have f356 : own_Av Z T352.heap am352 .int 0 (fun _ => .int (1 : Int32)) := Am352.cong rfl (fun j _ => congrArg Value.int own_mo1)
      refine own_s_iload X352.here hx (hb hby at_114) rfl ?_
      show own_Go p e below T352 (mkF m 116 #[.val (.int w0), .val (.int g0), .val (.long a_), .second, .val (.long b_), .second, .val (.long c_), .second, .val (.int (0 : Int32)), .val (.int (0 : Int32)), .val (.int (Int32.ofNat (kk.val + 1))), .val (.long (1 : Int64)), .second, .val (.ref b331), .val (.ref b339), .val (.ref b345), .unset] [(.int (0 : Int32))]) _
      refine own_s_ifYes X352.here hx 128 (hb hby at_116) (Jvm.Free.XT.i0_eq_t ((by decide))) (by decide) (by decide) ?_
      exact own_t0n hx hZ hw hby hml hown hnm hret hlk  w0 g0 (0 : Int32) (Int32.ofNat (kk.val + 1)) a_ b_ c_ (1 : Int64) b331 b339 b345 am352 (fun _ => (1 : Int32)) (own_b3 (own_f2 a_ (1 : Int64)) (own_f2 b_ (1 : Int64)) (own_f2 c_ (1 : Int64))) X352 rfl N352 SZ352  f355 fm352 f356 f353
    ·
      refine own_s_ifNo X0.here hx (hb hby at_8) (Jvm.Free.XT.i0_eq_f hc8) ?_
      refine own_s_iconst X0.here hx (1 : Int32) (hb hby at_11) rfl ?_
      show own_Go p e below T0 (mkF m 12 #[.val (.int w0), .val (.int g0), .val (.long a_), .second, .val (.long b_), .second, .val (.long c_), .second, .val (.int (0 : Int32)), .unset, .unset, .unset, .unset, .unset, .unset, .unset, .unset] [(.int (1 : Int32))]) _
      refine own_s_goto X0.here hx 16 (hb hby at_12) (by decide) (by decide) ?_
      refine own_s_istore X0.here hx #[.val (.int w0), .val (.int g0), .val (.long a_), .second, .val (.long b_), .second, .val (.long c_), .second, .val (.int (0 : Int32)), .val (.int (1 : Int32)), .unset, .unset, .unset, .unset, .unset, .unset, .unset] (hb hby at_16) rfl ?_
      refine own_s_iloadN X0.here hx (hb hby at_18) rfl ?_
      refine own_s_iconst X0.here hx (1 : Int32) (hb hby at_19) rfl ?_
      refine own_s_iushr X0.here hx (hb hby at_20) ?_
      refine own_s_bipush X0.here hx (31 : Int32) (hb hby at_21) rfl ?_
      refine own_s_iand X0.here hx (hb hby at_23) ?_
      refine own_s_bipush X0.here hx (30 : Int32) (hb hby at_24) rfl ?_
      refine own_by (fun tq_ kq_ => iremM X0 hx rfl (hb hby at_26) rfl (by decide) kq_) ?_
      show own_Go p e below T0 (mkF m 27 #[.val (.int w0), .val (.int g0), .val (.long a_), .second, .val (.long b_), .second, .val (.long c_), .second, .val (.int (0 : Int32)), .val (.int (1 : Int32)), .unset, .unset, .unset, .unset, .unset, .unset, .unset] [(.int ((((g0.toUInt32 >>> ((1 : Int32) &&& 31).toUInt32).toInt32) &&& (31 : Int32)) % (30 : Int32)))]) _
      refine own_s_iconst X0.here hx (1 : Int32) (hb hby at_27) rfl ?_
      refine own_s_iadd X0.here hx (hb hby at_28) ?_
      refine own_s_istore X0.here hx #[.val (.int w0), .val (.int g0), .val (.long a_), .second, .val (.long b_), .second, .val (.long c_), .second, .val (.int (0 : Int32)), .val (.int (1 : Int32)), .val (.int (((((g0.toUInt32 >>> ((1 : Int32) &&& 31).toUInt32).toInt32) &&& (31 : Int32)) % (30 : Int32)) + (1 : Int32))), .unset, .unset, .unset, .unset, .unset, .unset] (hb hby at_29) rfl ?_
      obtain ⟨kk, hke⟩ := own_kb ((g0.toUInt32 >>> ((1 : Int32) &&& 31).toUInt32).toInt32)
      rw [hke]
      show own_Go p e below T0 (mkF m 31 #[.val (.int w0), .val (.int g0), .val (.long a_), .second, .val (.long b_), .second, .val (.long c_), .second, .val (.int (0 : Int32)), .val (.int (1 : Int32)), .val (.int (Int32.ofNat (kk.val + 1))), .unset, .unset, .unset, .unset, .unset, .unset] []) _
      refine own_s_iload X0.here hx (hb hby at_31) rfl ?_
      refine own_s_ifNo X0.here hx (hb hby at_33) (Jvm.Free.XT.i0_eq_f ((by decide))) ?_
      refine own_s_lconst X0.here hx (1 : Int64) (hb hby at_36) rfl ?_
      refine own_s_bipush X0.here hx (31 : Int32) (hb hby at_37) rfl ?_
      refine own_s_iload X0.here hx (hb hby at_39) rfl ?_
      refine own_s_iconst X0.here hx (2 : Int32) (hb hby at_41) rfl ?_
      refine own_s_iadd X0.here hx (hb hby at_42) ?_
      obtain ⟨_, _, ⟨T357, L357, k357, n357⟩, -, X357, ⟨Lc357, hQ357, l357, y357, z357⟩, st357⟩ := Jvm.LawKit.callS X0 hx (y := (⟨"java/lang/Math", "min", "(II)I"⟩ : MethodName)) hown (mvT hZ (hw _ (List.mem_of_getElem? (i := 0) rfl))) (mvT hZ (hw _ (List.mem_of_getElem? (i := 1) rfl))) (mvT hZ (hw _ (List.mem_of_getElem? (i := 2) rfl))) (mvT hZ (hw _ (List.mem_of_getElem? (i := 3) rfl))) (by decide) (backOf (W := 2) (own_r1 l Z a0 hw [] (31 : Int32) ((Int32.ofNat (kk.val + 1)) + (2 : Int32))  h0 n0 Z0 ) hZ (hw _ (List.mem_of_getElem? (i := 3) rfl)) (hw _ (List.mem_of_getElem? (i := 2) rfl)) (by decide) (by decide)) (g := (mkF m 43 #[.val (.int w0), .val (.int g0), .val (.long a_), .second, .val (.long b_), .second, .val (.long c_), .second, .val (.int (0 : Int32)), .val (.int (1 : Int32)), .val (.int (Int32.ofNat (kk.val + 1))), .unset, .unset, .unset, .unset, .unset, .unset] [(.int ((Int32.ofNat (kk.val + 1)) + (2 : Int32))), (.int (31 : Int32)), (.long (1 : Int64))])) rfl (by rw [hml]; rfl) (argsL := [(.int (31 : Int32)), (.int ((Int32.ofNat (kk.val + 1)) + (2 : Int32)))]) (rest := [(.long (1 : Int64))]) (lenOf own_pd_0 rfl) rfl (by show 2 * 0 + _ ≤ _; exact Nat.le_of_eq rfl) (hb hby at_43) (fun _ _ => ⟨rfl, e0, (by decide : 0 + 0 ≤ _), (by decide : 0 + 0 ≤ _)⟩)
      dsimp only [Pt.U, Pt.locs, Pt.cells, Pt.slots] at X357 l357 y357 z357 st357 hQ357
      subst l357 y357 z357
      obtain ⟨rfl, N357q, e357⟩ := hQ357
      have N357 := Fr.app N0 N357q
      refine own_by st357 ?_
      show own_Go p e below T357 (mkF m 46 #[.val (.int w0), .val (.int g0), .val (.long a_), .second, .val (.long b_), .second, .val (.long c_), .second, .val (.int (0 : Int32)), .val (.int (1 : Int32)), .val (.int (Int32.ofNat (kk.val + 1))), .unset, .unset, .unset, .unset, .unset, .unset] [(.int (own_f1 (31 : Int32) ((Int32.ofNat (kk.val + 1)) + (2 : Int32)))), (.long (1 : Int64))]) _
      refine own_s_lshl X357.here hx (hb hby at_46) ?_
      refine own_s_lconst X357.here hx (1 : Int64) (hb hby at_47) rfl ?_
      refine own_s_lsub X357.here hx (hb hby at_48) ?_
      show own_Go p e below T357 (mkF m 49 #[.val (.int w0), .val (.int g0), .val (.long a_), .second, .val (.long b_), .second, .val (.long c_), .second, .val (.int (0 : Int32)), .val (.int (1 : Int32)), .val (.int (Int32.ofNat (kk.val + 1))), .unset, .unset, .unset, .unset, .unset, .unset] [(.long (((1 : Int64) <<< ((own_f1 (31 : Int32) ((Int32.ofNat (kk.val + 1)) + (2 : Int32))) &&& 0x3f).toInt64) - (1 : Int64)))]) _
      refine own_s_goto X357.here hx 53 (hb hby at_49) (by decide) (by decide) ?_
      refine own_s_lstore X357.here hx #[.val (.int w0), .val (.int g0), .val (.long a_), .second, .val (.long b_), .second, .val (.long c_), .second, .val (.int (0 : Int32)), .val (.int (1 : Int32)), .val (.int (Int32.ofNat (kk.val + 1))), .val (.long (((1 : Int64) <<< ((own_f1 (31 : Int32) ((Int32.ofNat (kk.val + 1)) + (2 : Int32))) &&& 0x3f).toInt64) - (1 : Int64))), .second, .unset, .unset, .unset, .unset] (hb hby at_53) rfl ?_
      have hk30 := own_k30 kk
      generalize hmt : (((1 : Int64) <<< ((own_f1 (31 : Int32) ((Int32.ofNat (kk.val + 1)) + (2 : Int32))) &&& 0x3f).toInt64) - (1 : Int64)) = mt
      show own_Go p e below T357 (mkF m 55 #[.val (.int w0), .val (.int g0), .val (.long a_), .second, .val (.long b_), .second, .val (.long c_), .second, .val (.int (0 : Int32)), .val (.int (1 : Int32)), .val (.int (Int32.ofNat (kk.val + 1))), .val (.long mt), .second, .unset, .unset, .unset, .unset] []) _
      refine own_s_iconst X357.here hx (3 : Int32) (hb hby at_55) rfl ?_
      obtain ⟨T358, h358, k358, X358, e358, E358, A358, st358⟩ := newP X357 hx hZ (hw _ (List.mem_of_getElem? (i := 4) rfl)) e357 (g := (mkF m 56 #[.val (.int w0), .val (.int g0), .val (.long a_), .second, .val (.long b_), .second, .val (.long c_), .second, .val (.int (0 : Int32)), .val (.int (1 : Int32)), .val (.int (Int32.ofNat (kk.val + 1))), .val (.long mt), .second, .unset, .unset, .unset, .unset] [(.int (3 : Int32))])) rfl (hb hby at_56) rfl (by decide) (cap := 3) (by decide) (by decide) (by decide) (by decide)
      obtain ⟨b358, g358⟩ : ∃ z, z = h0.size := ⟨_, rfl⟩
      rw [← g358] at A358 st358
      have ge_b358 : n0 ≤ b358 := Nat.le_trans Z0 (Nat.le_of_eq g358.symm)
      have SZ358 : n0 ≤ h358.size := Nat.le_trans Z0 E358.1
      have f359 : own_Av Z h358 b358 .long 3 (fun _ => (.long (0 : Int64))) := own_Av.ofnew A358 (by decide) rfl
      refine own_by st358 ?_
      show own_Go p e below T358 (mkF m 58 #[.val (.int w0), .val (.int g0), .val (.long a_), .second, .val (.long b_), .second, .val (.long c_), .second, .val (.int (0 : Int32)), .val (.int (1 : Int32)), .val (.int (Int32.ofNat (kk.val + 1))), .val (.long mt), .second, .unset, .unset, .unset, .unset] [(.ref b358)]) _
      refine own_s_astore X358.here hx #[.val (.int w0), .val (.int g0), .val (.long a_), .second, .val (.long b_), .second, .val (.long c_), .second, .val (.int (0 : Int32)), .val (.int (1 : Int32)), .val (.int (Int32.ofNat (kk.val + 1))), .val (.long mt), .second, .val (.ref b358), .unset, .unset, .unset] (hb hby at_58) rfl rfl ?_
      refine own_s_aload X358.here hx (hb hby at_60) rfl rfl ?_
      refine own_s_iconst X358.here hx (0 : Int32) (hb hby at_62) rfl ?_
      refine own_s_lloadN X358.here hx (hb hby at_63) rfl ?_
      refine own_s_lload X358.here hx (hb hby at_64) rfl ?_
      obtain ⟨_, _, ⟨T360, L360, k360, n360⟩, -, X360, ⟨Lc360, hQ360, l360, y360, z360⟩, st360⟩ := Jvm.LawKit.callS X358 hx (y := (⟨"com/example/lapse/lapse/MarkingCodeFitsPinLaw", "draw", "(JJ)J"⟩ : MethodName)) hown (mvT hZ (hw _ (List.mem_of_getElem? (i := 5) rfl))) (mvT hZ (hw _ (List.mem_of_getElem? (i := 6) rfl))) (mvT hZ (hw _ (List.mem_of_getElem? (i := 7) rfl))) (mvT hZ (hw _ (List.mem_of_getElem? (i := 8) rfl))) (by decide) (backOf (W := 2) (own_r2 l Z a0 hw [] a_ mt  h358 n0 SZ358 ) hZ (hw _ (List.mem_of_getElem? (i := 8) rfl)) (hw _ (List.mem_of_getElem? (i := 7) rfl)) (by decide) (by decide)) (g := (mkF m 66 #[.val (.int w0), .val (.int g0), .val (.long a_), .second, .val (.long b_), .second, .val (.long c_), .second, .val (.int (0 : Int32)), .val (.int (1 : Int32)), .val (.int (Int32.ofNat (kk.val + 1))), .val (.long mt), .second, .val (.ref b358), .unset, .unset, .unset] [(.long mt), (.long a_), (.int (0 : Int32)), (.ref b358)])) rfl (by rw [hml]; rfl) (argsL := [(.long a_), (.long mt)]) (rest := [(.int (0 : Int32)), (.ref b358)]) (lenOf own_pd_1 rfl) rfl (by show 2 * 0 + _ ≤ _; exact Nat.le_of_eq rfl) (hb hby at_66) (fun _ _ => ⟨rfl, e358, (by decide : 1 + 0 ≤ _), (by decide : 3 + 0 ≤ _)⟩)
      dsimp only [Pt.U, Pt.locs, Pt.cells, Pt.slots] at X360 l360 y360 z360 st360 hQ360
      subst l360 y360 z360
      obtain ⟨rfl, N360q, e360⟩ := hQ360
      have N360 := Fr.app N357 N360q
      refine own_by st360 ?_
      show own_Go p e below T360 (mkF m 69 #[.val (.int w0), .val (.int g0), .val (.long a_), .second, .val (.long b_), .second, .val (.long c_), .second, .val (.int (0 : Int32)), .val (.int (1 : Int32)), .val (.int (Int32.ofNat (kk.val + 1))), .val (.long mt), .second, .val (.ref b358), .unset, .unset, .unset] [(.long (own_f2 a_ mt)), (.int (0 : Int32)), (.ref b358)]) _
      obtain ⟨T361, h361, X361, e361, W361, fa361, st361⟩ := own_stJ X360 hx hZ e360 f359 (k := 0) (by decide) (by decide) (g := (mkF m 69 #[.val (.int w0), .val (.int g0), .val (.long a_), .second, .val (.long b_), .second, .val (.long c_), .second, .val (.int (0 : Int32)), .val (.int (1 : Int32)), .val (.int (Int32.ofNat (kk.val + 1))), .val (.long mt), .second, .val (.ref b358), .unset, .unset, .unset] [(.long (own_f2 a_ mt)), (.int (0 : Int32)), (.ref b358)])) rfl rfl (hb hby at_69)
      have N361 := Fr.snoc X361 N360 ge_b358
      have SZ361 : n0 ≤ h361.size := by rw [W361.size]; exact SZ358
      refine own_by st361 ?_
      show own_Go p e below T361 (mkF m 70 #[.val (.int w0), .val (.int g0), .val (.long a_), .second, .val (.long b_), .second, .val (.long c_), .second, .val (.int (0 : Int32)), .val (.int (1 : Int32)), .val (.int (Int32.ofNat (kk.val + 1))), .val (.long mt), .second, .val (.ref b358), .unset, .unset, .unset] []) _
      refine own_s_aload X361.here hx (hb hby at_70) rfl rfl ?_
      refine own_s_iconst X361.here hx (1 : Int32) (hb hby at_72) rfl ?_
      refine own_s_lload X361.here hx (hb hby at_73) rfl ?_
      refine own_s_lconst X361.here hx (1 : Int64) (hb hby at_75) rfl ?_
      obtain ⟨_, _, ⟨T362, L362, k362, n362⟩, -, X362, ⟨Lc362, hQ362, l362, y362, z362⟩, st362⟩ := Jvm.LawKit.callS X361 hx (y := (⟨"com/example/lapse/lapse/MarkingCodeFitsPinLaw", "draw", "(JJ)J"⟩ : MethodName)) hown (mvT hZ (hw _ (List.mem_of_getElem? (i := 5) rfl))) (mvT hZ (hw _ (List.mem_of_getElem? (i := 6) rfl))) (mvT hZ (hw _ (List.mem_of_getElem? (i := 7) rfl))) (mvT hZ (hw _ (List.mem_of_getElem? (i := 8) rfl))) (by decide) (backOf (W := 2) (own_r2 l Z a0 hw [] b_ (1 : Int64)  h361 n0 SZ361 ) hZ (hw _ (List.mem_of_getElem? (i := 8) rfl)) (hw _ (List.mem_of_getElem? (i := 7) rfl)) (by decide) (by decide)) (g := (mkF m 76 #[.val (.int w0), .val (.int g0), .val (.long a_), .second, .val (.long b_), .second, .val (.long c_), .second, .val (.int (0 : Int32)), .val (.int (1 : Int32)), .val (.int (Int32.ofNat (kk.val + 1))), .val (.long mt), .second, .val (.ref b358), .unset, .unset, .unset] [(.long (1 : Int64)), (.long b_), (.int (1 : Int32)), (.ref b358)])) rfl (by rw [hml]; rfl) (argsL := [(.long b_), (.long (1 : Int64))]) (rest := [(.int (1 : Int32)), (.ref b358)]) (lenOf own_pd_1 rfl) rfl (by show 2 * 0 + _ ≤ _; exact Nat.le_of_eq rfl) (hb hby at_76) (fun _ _ => ⟨rfl, e361, (by decide : 1 + 0 ≤ _), (by decide : 3 + 0 ≤ _)⟩)
      dsimp only [Pt.U, Pt.locs, Pt.cells, Pt.slots] at X362 l362 y362 z362 st362 hQ362
      subst l362 y362 z362
      obtain ⟨rfl, N362q, e362⟩ := hQ362
      have N362 := Fr.app N361 N362q
      refine own_by st362 ?_
      show own_Go p e below T362 (mkF m 79 #[.val (.int w0), .val (.int g0), .val (.long a_), .second, .val (.long b_), .second, .val (.long c_), .second, .val (.int (0 : Int32)), .val (.int (1 : Int32)), .val (.int (Int32.ofNat (kk.val + 1))), .val (.long mt), .second, .val (.ref b358), .unset, .unset, .unset] [(.long (own_f2 b_ (1 : Int64))), (.int (1 : Int32)), (.ref b358)]) _
      obtain ⟨T363, h363, X363, e363, W363, fa363, st363⟩ := own_stJ X362 hx hZ e362 fa361 (k := 1) (by decide) (by decide) (g := (mkF m 79 #[.val (.int w0), .val (.int g0), .val (.long a_), .second, .val (.long b_), .second, .val (.long c_), .second, .val (.int (0 : Int32)), .val (.int (1 : Int32)), .val (.int (Int32.ofNat (kk.val + 1))), .val (.long mt), .second, .val (.ref b358), .unset, .unset, .unset] [(.long (own_f2 b_ (1 : Int64))), (.int (1 : Int32)), (.ref b358)])) rfl rfl (hb hby at_79)
      have N363 := Fr.snoc X363 N362 ge_b358
      have SZ363 : n0 ≤ h363.size := by rw [W363.size]; exact SZ361
      refine own_by st363 ?_
      show own_Go p e below T363 (mkF m 80 #[.val (.int w0), .val (.int g0), .val (.long a_), .second, .val (.long b_), .second, .val (.long c_), .second, .val (.int (0 : Int32)), .val (.int (1 : Int32)), .val (.int (Int32.ofNat (kk.val + 1))), .val (.long mt), .second, .val (.ref b358), .unset, .unset, .unset] []) _
      refine own_s_aload X363.here hx (hb hby at_80) rfl rfl ?_
      refine own_s_iconst X363.here hx (2 : Int32) (hb hby at_82) rfl ?_
      refine own_s_lload X363.here hx (hb hby at_83) rfl ?_
      refine own_s_lconst X363.here hx (1 : Int64) (hb hby at_85) rfl ?_
      obtain ⟨_, _, ⟨T364, L364, k364, n364⟩, -, X364, ⟨Lc364, hQ364, l364, y364, z364⟩, st364⟩ := Jvm.LawKit.callS X363 hx (y := (⟨"com/example/lapse/lapse/MarkingCodeFitsPinLaw", "draw", "(JJ)J"⟩ : MethodName)) hown (mvT hZ (hw _ (List.mem_of_getElem? (i := 5) rfl))) (mvT hZ (hw _ (List.mem_of_getElem? (i := 6) rfl))) (mvT hZ (hw _ (List.mem_of_getElem? (i := 7) rfl))) (mvT hZ (hw _ (List.mem_of_getElem? (i := 8) rfl))) (by decide) (backOf (W := 2) (own_r2 l Z a0 hw [] c_ (1 : Int64)  h363 n0 SZ363 ) hZ (hw _ (List.mem_of_getElem? (i := 8) rfl)) (hw _ (List.mem_of_getElem? (i := 7) rfl)) (by decide) (by decide)) (g := (mkF m 86 #[.val (.int w0), .val (.int g0), .val (.long a_), .second, .val (.long b_), .second, .val (.long c_), .second, .val (.int (0 : Int32)), .val (.int (1 : Int32)), .val (.int (Int32.ofNat (kk.val + 1))), .val (.long mt), .second, .val (.ref b358), .unset, .unset, .unset] [(.long (1 : Int64)), (.long c_), (.int (2 : Int32)), (.ref b358)])) rfl (by rw [hml]; rfl) (argsL := [(.long c_), (.long (1 : Int64))]) (rest := [(.int (2 : Int32)), (.ref b358)]) (lenOf own_pd_1 rfl) rfl (by show 2 * 0 + _ ≤ _; exact Nat.le_of_eq rfl) (hb hby at_86) (fun _ _ => ⟨rfl, e363, (by decide : 1 + 0 ≤ _), (by decide : 3 + 0 ≤ _)⟩)
      dsimp only [Pt.U, Pt.locs, Pt.cells, Pt.slots] at X364 l364 y364 z364 st364 hQ364
      subst l364 y364 z364
      obtain ⟨rfl, N364q, e364⟩ := hQ364
      have N364 := Fr.app N363 N364q
      refine own_by st364 ?_
      show own_Go p e below T364 (mkF m 89 #[.val (.int w0), .val (.int g0), .val (.long a_), .second, .val (.long b_), .second, .val (.long c_), .second, .val (.int (0 : Int32)), .val (.int (1 : Int32)), .val (.int (Int32.ofNat (kk.val + 1))), .val (.long mt), .second, .val (.ref b358), .unset, .unset, .unset] [(.long (own_f2 c_ (1 : Int64))), (.int (2 : Int32)), (.ref b358)]) _
      obtain ⟨T365, h365, X365, e365, W365, fa365, st365⟩ := own_stJ X364 hx hZ e364 fa363 (k := 2) (by decide) (by decide) (g := (mkF m 89 #[.val (.int w0), .val (.int g0), .val (.long a_), .second, .val (.long b_), .second, .val (.long c_), .second, .val (.int (0 : Int32)), .val (.int (1 : Int32)), .val (.int (Int32.ofNat (kk.val + 1))), .val (.long mt), .second, .val (.ref b358), .unset, .unset, .unset] [(.long (own_f2 c_ (1 : Int64))), (.int (2 : Int32)), (.ref b358)])) rfl rfl (hb hby at_89)
      have N365 := Fr.snoc X365 N364 ge_b358
      have SZ365 : n0 ≤ h365.size := by rw [W365.size]; exact SZ363
      refine own_by st365 ?_
      show own_Go p e below T365 (mkF m 90 #[.val (.int w0), .val (.int g0), .val (.long a_), .second, .val (.long b_), .second, .val (.long c_), .second, .val (.int (0 : Int32)), .val (.int (1 : Int32)), .val (.int (Int32.ofNat (kk.val + 1))), .val (.long mt), .second, .val (.ref b358), .unset, .unset, .unset] []) _
      refine own_s_iconst X365.here hx (3 : Int32) (hb hby at_90) rfl ?_
      obtain ⟨T366, h366, k366, X366, e366, E366, A366, st366⟩ := newP X365 hx hZ (hw _ (List.mem_of_getElem? (i := 4) rfl)) e365 (g := (mkF m 91 #[.val (.int w0), .val (.int g0), .val (.long a_), .second, .val (.long b_), .second, .val (.long c_), .second, .val (.int (0 : Int32)), .val (.int (1 : Int32)), .val (.int (Int32.ofNat (kk.val + 1))), .val (.long mt), .second, .val (.ref b358), .unset, .unset, .unset] [(.int (3 : Int32))])) rfl (hb hby at_91) rfl (by decide) (cap := 3) (by decide) (by decide) (by decide) (by decide)
      obtain ⟨b366, g366⟩ : ∃ z, z = h365.size := ⟨_, rfl⟩
      rw [← g366] at A366 st366
      have ge_b366 : n0 ≤ b366 := Nat.le_trans SZ365 (Nat.le_of_eq g366.symm)
      have ne_b358_b366 : b358 ≠ b366 := Nat.ne_of_lt (Nat.lt_of_lt_of_le fa365.lt (Nat.le_of_eq g366.symm))
      have f367 := fa365.ext E366
      have SZ366 : n0 ≤ h366.size := Nat.le_trans SZ365 E366.1
      have f368 : own_Av Z h366 b366 .long 3 (fun _ => (.long (0 : Int64))) := own_Av.ofnew A366 (by decide) rfl
      refine own_by st366 ?_
      show own_Go p e below T366 (mkF m 93 #[.val (.int w0), .val (.int g0), .val (.long a_), .second, .val (.long b_), .second, .val (.long c_), .second, .val (.int (0 : Int32)), .val (.int (1 : Int32)), .val (.int (Int32.ofNat (kk.val + 1))), .val (.long mt), .second, .val (.ref b358), .unset, .unset, .unset] [(.ref b366)]) _
      refine own_s_astore X366.here hx #[.val (.int w0), .val (.int g0), .val (.long a_), .second, .val (.long b_), .second, .val (.long c_), .second, .val (.int (0 : Int32)), .val (.int (1 : Int32)), .val (.int (Int32.ofNat (kk.val + 1))), .val (.long mt), .second, .val (.ref b358), .val (.ref b366), .unset, .unset] (hb hby at_93) rfl rfl ?_
      refine own_s_aload X366.here hx (hb hby at_95) rfl rfl ?_
      refine own_s_iconst X366.here hx (0 : Int32) (hb hby at_97) rfl ?_
      refine own_s_lconst X366.here hx (1 : Int64) (hb hby at_98) rfl ?_
      refine own_s_iload X366.here hx (hb hby at_99) rfl ?_
      refine own_s_lshl X366.here hx (hb hby at_101) ?_
      obtain ⟨T369, h369, X369, e369, W369, fa369, st369⟩ := own_stJ X366 hx hZ e366 f368 (k := 0) (by decide) (by decide) (g := (mkF m 102 #[.val (.int w0), .val (.int g0), .val (.long a_), .second, .val (.long b_), .second, .val (.long c_), .second, .val (.int (0 : Int32)), .val (.int (1 : Int32)), .val (.int (Int32.ofNat (kk.val + 1))), .val (.long mt), .second, .val (.ref b358), .val (.ref b366), .unset, .unset] [(.long ((1 : Int64) <<< ((Int32.ofNat (kk.val + 1)) &&& 0x3f).toInt64)), (.int (0 : Int32)), (.ref b366)])) rfl rfl (hb hby at_102)
      have f370 := f367.other W369 ne_b358_b366
      have N369 := Fr.snoc X369 N365 ge_b366
      have SZ369 : n0 ≤ h369.size := by rw [W369.size]; exact SZ366
      refine own_by st369 ?_
      show own_Go p e below T369 (mkF m 103 #[.val (.int w0), .val (.int g0), .val (.long a_), .second, .val (.long b_), .second, .val (.long c_), .second, .val (.int (0 : Int32)), .val (.int (1 : Int32)), .val (.int (Int32.ofNat (kk.val + 1))), .val (.long mt), .second, .val (.ref b358), .val (.ref b366), .unset, .unset] []) _
      have f371 : own_Av Z h369 b358 .long 3 (fun j => .long ((own_b3 (own_f2 a_ mt) (own_f2 b_ (1 : Int64)) (own_f2 c_ (1 : Int64))) j)) := f370.cong rfl (fun j hj => by
        match j, hj with
        | 0, _ => rfl
        | 1, _ => rfl
        | 2, _ => rfl)
      obtain ⟨T372, h372, X372, e372, E372, A372, D372, -, st372⟩ := newO X369 hx hZ hown (hw _ (List.mem_of_getElem? (i := 10) rfl)) (hw _ (List.mem_of_getElem? (i := 11) rfl)) (hw _ (List.mem_of_getElem? (i := 12) rfl)) e369 (g := (mkF m 103 #[.val (.int w0), .val (.int g0), .val (.long a_), .second, .val (.long b_), .second, .val (.long c_), .second, .val (.int (0 : Int32)), .val (.int (1 : Int32)), .val (.int (Int32.ofNat (kk.val + 1))), .val (.long mt), .second, .val (.ref b358), .val (.ref b366), .unset, .unset] [])) rfl (hb hby at_103) (by decide) (by decide)
      obtain ⟨b372, g372⟩ : ∃ z, z = h369.size := ⟨_, rfl⟩
      rw [← g372] at A372 D372 st372
      have ge_b372 : n0 ≤ b372 := Nat.le_trans SZ369 (Nat.le_of_eq g372.symm)
      have ne_b358_b372 : b358 ≠ b372 := Nat.ne_of_lt (Nat.lt_of_lt_of_le f371.lt (Nat.le_of_eq g372.symm))
      have ne_b366_b372 : b366 ≠ b372 := Nat.ne_of_lt (Nat.lt_of_lt_of_le fa369.lt (Nat.le_of_eq g372.symm))
      have f373 := f371.ext E372
      have f374 := fa369.ext E372
      have SZ372 : n0 ≤ h372.size := Nat.le_trans SZ369 E372.1
      have f375 : Fld Z h372 b372 "com/example/lapse/lapse/MarkingCode" "most" "[I" .null := D372 (Or.inr (hw _ (List.mem_of_getElem? (i := 31) rfl))) (ty := (.array .int)) (by decide)
      have f376 : Fld Z h372 b372 "com/example/lapse/lapse/MarkingCode" "words" "[I" .null := D372 (Or.inr (hw _ (List.mem_of_getElem? (i := 33) rfl))) (ty := (.array .int)) (by decide)
      have f377 : Fld Z h372 b372 "com/example/lapse/lapse/MarkingCode" "shifts" "[I" .null := D372 (Or.inr (hw _ (List.mem_of_getElem? (i := 35) rfl))) (ty := (.array .int)) (by decide)
      have f378 : Fld Z h372 b372 "com/example/lapse/lapse/MarkingCode" "length" "I" (.int (0 : Int32)) := D372 (Or.inr (hw _ (List.mem_of_getElem? (i := 37) rfl))) (ty := .int) (by decide)
      refine own_by st372 ?_
      show own_Go p e below T372 (mkF m 106 #[.val (.int w0), .val (.int g0), .val (.long a_), .second, .val (.long b_), .second, .val (.long c_), .second, .val (.int (0 : Int32)), .val (.int (1 : Int32)), .val (.int (Int32.ofNat (kk.val + 1))), .val (.long mt), .second, .val (.ref b358), .val (.ref b366), .unset, .unset] [(.ref b372)]) _
      refine own_s_dup X372.here hx (hb hby at_106) rfl ?_
      refine own_s_iload X372.here hx (hb hby at_107) rfl ?_
      obtain ⟨_, _, ⟨T379, L379, k379, n379⟩, -, X379, ⟨Lc379, hQ379, l379, y379, z379⟩, st379⟩ := X372.specialBack hx (y := (⟨"com/example/lapse/lapse/MarkingCode", "<init>", "(I)V"⟩ : MethodName)) rfl hown (mvT hZ (hw _ (List.mem_of_getElem? (i := 13) rfl))) (mvT hZ (hw _ (List.mem_of_getElem? (i := 14) rfl))) (mvT hZ (hw _ (List.mem_of_getElem? (i := 15) rfl))) (by decide) (backOf (W := 1) (own_r3 l Z a0 hw [] b372 (0 : Int32) 0 h372 n0 SZ372 (by decide) (by decide) (by decide) A372 f375 f376 f377 f378 ge_b372) hZ (hw _ (List.mem_of_getElem? (i := 15) rfl)) (hw _ (List.mem_of_getElem? (i := 12) rfl)) (by decide) (by decide)) (g := (mkF m 109 #[.val (.int w0), .val (.int g0), .val (.long a_), .second, .val (.long b_), .second, .val (.long c_), .second, .val (.int (0 : Int32)), .val (.int (1 : Int32)), .val (.int (Int32.ofNat (kk.val + 1))), .val (.long mt), .second, .val (.ref b358), .val (.ref b366), .unset, .unset] [(.int (0 : Int32)), (.ref b372), (.ref b372)])) rfl (by rw [hml]; rfl) (Steps.refl _) (a := b372) (argsL := [(.int (0 : Int32))]) (rest := [(.ref b372)]) (lenOf own_pd_2 rfl) rfl (by show 2 * 0 + _ ≤ _; exact Nat.le_of_eq rfl) (hb hby at_109) (fun _ _ => ⟨rfl, e372, (by decide : 3 + 4 ≤ _), (by decide : 10 + 12 ≤ _)⟩)
      dsimp only [Pt.U, Pt.locs, Pt.cells, Pt.slots] at X379 l379 y379 z379 st379 hQ379
      subst l379 y379 z379
      obtain ⟨rfl, N379q, K379, am379, aw379, as379, gm379, gw379, gs379, zm379, zw379, zs379, nmw379, nms379, nws379, fm379, Am379, fw379, Aw379, fs379, As379, fl379⟩ := hQ379
      have N379 := Fr.app N369 N379q
      have f380 := f373.keep K379 (ninS ne_b358_b372 nin0)
      have f381 := f374.keep K379 (ninS ne_b366_b372 nin0)
      have f382 := A372.keep K379
      have SZ379 : n0 ≤ T379.heap.size := Nat.le_trans SZ372 K379.1
      refine own_by (fun t k => st379.trans k) ?_
      have ne_b358_am379 : b358 ≠ am379 := Nat.ne_of_lt (Nat.lt_of_lt_of_le f373.lt zm379)
      have ne_b366_am379 : b366 ≠ am379 := Nat.ne_of_lt (Nat.lt_of_lt_of_le f374.lt zm379)
      have ne_b372_am379 : b372 ≠ am379 := Nat.ne_of_lt (Nat.lt_of_lt_of_le A372.lt zm379)
      have ne_b358_aw379 : b358 ≠ aw379 := Nat.ne_of_lt (Nat.lt_of_lt_of_le f373.lt zw379)
      have ne_b366_aw379 : b366 ≠ aw379 := Nat.ne_of_lt (Nat.lt_of_lt_of_le f374.lt zw379)
      have ne_b372_aw379 : b372 ≠ aw379 := Nat.ne_of_lt (Nat.lt_of_lt_of_le A372.lt zw379)
      have ne_b358_as379 : b358 ≠ as379 := Nat.ne_of_lt (Nat.lt_of_lt_of_le f373.lt zs379)
      have ne_b366_as379 : b366 ≠ as379 := Nat.ne_of_lt (Nat.lt_of_lt_of_le f374.lt zs379)
      have ne_b372_as379 : b372 ≠ as379 := Nat.ne_of_lt (Nat.lt_of_lt_of_le A372.lt zs379)
      show own_Go p e below T379 (mkF m 112 #[.val (.int w0), .val (.int g0), .val (.long a_), .second, .val (.long b_), .second, .val (.long c_), .second, .val (.int (0 : Int32)), .val (.int (1 : Int32)), .val (.int (Int32.ofNat (kk.val + 1))), .val (.long mt), .second, .val (.ref b358), .val (.ref b366), .unset, .unset] [(.ref b372)]) _
      refine own_s_astore X379.here hx #[.val (.int w0), .val (.int g0), .val (.long a_), .second, .val (.long b_), .second, .val (.long c_), .second, .val (.int (0 : Int32)), .val (.int (1 : Int32)), .val (.int (Int32.ofNat (kk.val + 1))), .val (.long mt), .second, .val (.ref b358), .val (.ref b366), .val (.ref b372), .unset] (hb hby at_112) rfl rfl ?_
      have f383 : own_Av Z T379.heap am379 .int 0 (fun _ => .int (1 : Int32)) := Am379.cong rfl (fun j _ => congrArg Value.int own_mo1)
      refine own_s_iload X379.here hx (hb hby at_114) rfl ?_
      refine own_s_ifNo X379.here hx (hb hby at_116) (Jvm.Free.XT.i0_eq_f ((by decide))) ?_
      refine own_s_aload X379.here hx (hb hby at_119) rfl rfl ?_
      refine own_s_aload X379.here hx (hb hby at_121) rfl rfl ?_
      obtain ⟨cq384, kq384, q384a, q384b, q384c⟩ := isOf hZ rfl f382
      obtain ⟨_, _, ⟨T384, L384, k384, n384⟩, -, X384, ⟨Lc384, hQ384, l384, y384, z384⟩, st384⟩ := X379.virtualBack hx (y := (⟨"com/example/lapse/lapse/MarkingCode", "widenedFor", "([J)Lcom/example/lapse/lapse/MarkingCode;"⟩ : MethodName)) (z := (⟨"com/example/lapse/lapse/MarkingCode", "widenedFor", "([J)Lcom/example/lapse/lapse/MarkingCode;"⟩ : MethodName)) hown (mvT hZ (hw _ (List.mem_of_getElem? (i := 38) rfl))) (mvT hZ (hw _ (List.mem_of_getElem? (i := 39) rfl))) (notFace_of_selects (args := #[]) (mvT hZ (hw _ (List.mem_of_getElem? (i := 41) rfl)))) (mvT hZ (hw _ (List.mem_of_getElem? (i := 41) rfl))) (mvT hZ (hw _ (List.mem_of_getElem? (i := 40) rfl))) (by decide) (backOf (W := 0) (own_wf0 l Z a0 hw [] b372 b366 am379 ((1 : Int64) <<< ((Int32.ofNat (kk.val + 1)) &&& 0x3f).toInt64) T379.heap n0 SZ379 hk30.2.2 fm379 f383 f381) hZ (hw _ (List.mem_of_getElem? (i := 42) rfl)) (hw _ (List.mem_of_getElem? (i := 12) rfl)) (by decide) (by decide)) q384a q384c (g := (mkF m 123 #[.val (.int w0), .val (.int g0), .val (.long a_), .second, .val (.long b_), .second, .val (.long c_), .second, .val (.int (0 : Int32)), .val (.int (1 : Int32)), .val (.int (Int32.ofNat (kk.val + 1))), .val (.long mt), .second, .val (.ref b358), .val (.ref b366), .val (.ref b372), .unset] [(.ref b366), (.ref b372)])) rfl (by rw [hml]; rfl) (Steps.refl _) (argsL := [(.ref b366)]) (rest := []) (lenOf own_pd_7 rfl) rfl (by show 2 * 0 + _ ≤ _; exact Nat.le_of_eq rfl) (hb hby at_123) (fun _ _ => ⟨rfl, rfl, (by decide : 7 + 5 ≤ _), (by decide : 22 + 13 ≤ _)⟩)
      dsimp only [Pt.U, Pt.locs, Pt.cells, Pt.slots] at X384 l384 y384 z384 st384 hQ384
      subst l384 y384 z384
      obtain ⟨bb384, rfl, N384q, gb384, K384, eb384, ba384, fm384, fa384⟩ := hQ384
      have N384 := Fr.app N379 N384q
      have f385 := f380.keep K384 nin0
      have f386 := f381.keep K384 nin0
      have f387 := f382.keep K384
      have f388 := fm379.keep K384 nin0
      have f389 := fw379.keep K384 nin0
      have f390 := fs379.keep K384 nin0
      have f391 := fl379.keep K384 nin0
      have f392 := f383.keep K384 nin0
      have f393 := Aw379.keep K384 nin0
      have f394 := As379.keep K384 nin0
      have SZ384 : n0 ≤ T384.heap.size := Nat.le_trans SZ379 K384.1
      refine own_by (fun t k => st384.trans k) ?_
      show own_Go p e below T384 (mkF m 126 #[.val (.int w0), .val (.int g0), .val (.long a_), .second, .val (.long b_), .second, .val (.long c_), .second, .val (.int (0 : Int32)), .val (.int (1 : Int32)), .val (.int (Int32.ofNat (kk.val + 1))), .val (.long mt), .second, .val (.ref b358), .val (.ref b366), .val (.ref b372), .unset] [(.ref bb384)]) _
      refine own_s_astore X384.here hx #[.val (.int w0), .val (.int g0), .val (.long a_), .second, .val (.long b_), .second, .val (.long c_), .second, .val (.int (0 : Int32)), .val (.int (1 : Int32)), .val (.int (Int32.ofNat (kk.val + 1))), .val (.long mt), .second, .val (.ref b358), .val (.ref b366), .val (.ref bb384), .unset] (hb hby at_126) rfl rfl ?_
      exact own_t0w hx hZ hw hby hml hown hnm hret hlk  w0 g0 (1 : Int32) (Int32.ofNat (kk.val + 1)) a_ b_ c_ mt b358 b366 bb384 ba384 (fun j => own_mo (own_wdf (own_f1 (31 : Int32) (((64 : Int32) - (own_f11 ((1 : Int64) <<< ((Int32.ofNat (kk.val + 1)) &&& 0x3f).toInt64))) + (1 : Int32))) j)) (own_b3 (own_f2 a_ mt) (own_f2 b_ (1 : Int64)) (own_f2 c_ (1 : Int64))) X384 rfl N384 SZ384  eb384 fm384 fa384 f385
  ·
    show own_Go p e below T0 (mkF m 5 #[.val (.int w0), .val (.int g0), .val (.long a_), .second, .val (.long b_), .second, .val (.long c_), .second, .val (.int (1 : Int32)), .unset, .unset, .unset, .unset, .unset, .unset, .unset, .unset] []) _
    refine own_s_iloadN X0.here hx (hb hby at_5) rfl ?_
    refine own_s_iconst X0.here hx (1 : Int32) (hb hby at_6) rfl ?_
    refine own_s_iand X0.here hx (hb hby at_7) ?_
    by_cases hc8 : (g0 &&& (1 : Int32)) = 0
    ·
      show own_Go p e below T0 (mkF m 8 #[.val (.int w0), .val (.int g0), .val (.long a_), .second, .val (.long b_), .second, .val (.long c_), .second, .val (.int (1 : Int32)), .unset, .unset, .unset, .unset, .unset, .unset, .unset, .unset] [(.int (g0 &&& (1 : Int32)))]) _
      refine own_s_ifYes X0.here hx 15 (hb hby at_8) (Jvm.Free.XT.i0_eq_t hc8) (by decide) (by decide) ?_
      refine own_s_iconst X0.here hx (0 : Int32) (hb hby at_15) rfl ?_
      refine own_s_istore X0.here hx #[.val (.int w0), .val (.int g0), .val (.long a_), .second, .val (.long b_), .second, .val (.long c_), .second, .val (.int (1 : Int32)), .val (.int (0 : Int32)), .unset, .unset, .unset, .unset, .unset, .unset, .unset] (hb hby at_16) rfl ?_
      refine own_s_iloadN X0.here hx (hb hby at_18) rfl ?_
      refine own_s_iconst X0.here hx (1 : Int32) (hb hby at_19) rfl ?_
      refine own_s_iushr X0.here hx (hb hby at_20) ?_
      refine own_s_bipush X0.here hx (31 : Int32) (hb hby at_21) rfl ?_
      refine own_s_iand X0.here hx (hb hby at_23) ?_
      refine own_s_bipush X0.here hx (30 : Int32) (hb hby at_24) rfl ?_
      refine own_by (fun tq_ kq_ => iremM X0 hx rfl (hb hby at_26) rfl (by decide) kq_) ?_
      show own_Go p e below T0 (mkF m 27 #[.val (.int w0), .val (.int g0), .val (.long a_), .second, .val (.long b_), .second, .val (.long c_), .second, .val (.int (1 : Int32)), .val (.int (0 : Int32)), .unset, .unset, .unset, .unset, .unset, .unset, .unset] [(.int ((((g0.toUInt32 >>> ((1 : Int32) &&& 31).toUInt32).toInt32) &&& (31 : Int32)) % (30 : Int32)))]) _
      refine own_s_iconst X0.here hx (1 : Int32) (hb hby at_27) rfl ?_
      refine own_s_iadd X0.here hx (hb hby at_28) ?_
      refine own_s_istore X0.here hx #[.val (.int w0), .val (.int g0), .val (.long a_), .second, .val (.long b_), .second, .val (.long c_), .second, .val (.int (1 : Int32)), .val (.int (0 : Int32)), .val (.int (((((g0.toUInt32 >>> ((1 : Int32) &&& 31).toUInt32).toInt32) &&& (31 : Int32)) % (30 : Int32)) + (1 : Int32))), .unset, .unset, .unset, .unset, .unset, .unset] (hb hby at_29) rfl ?_
      obtain ⟨kk, hke⟩ := own_kb ((g0.toUInt32 >>> ((1 : Int32) &&& 31).toUInt32).toInt32)
      rw [hke]
      show own_Go p e below T0 (mkF m 31 #[.val (.int w0), .val (.int g0), .val (.long a_), .second, .val (.long b_), .second, .val (.long c_), .second, .val (.int (1 : Int32)), .val (.int (0 : Int32)), .val (.int (Int32.ofNat (kk.val + 1))), .unset, .unset, .unset, .unset, .unset, .unset] []) _
      refine own_s_iload X0.here hx (hb hby at_31) rfl ?_
      show own_Go p e below T0 (mkF m 33 #[.val (.int w0), .val (.int g0), .val (.long a_), .second, .val (.long b_), .second, .val (.long c_), .second, .val (.int (1 : Int32)), .val (.int (0 : Int32)), .val (.int (Int32.ofNat (kk.val + 1))), .unset, .unset, .unset, .unset, .unset, .unset] [(.int (0 : Int32))]) _
      refine own_s_ifYes X0.here hx 52 (hb hby at_33) (Jvm.Free.XT.i0_eq_t ((by decide))) (by decide) (by decide) ?_
      refine own_s_lconst X0.here hx (1 : Int64) (hb hby at_52) rfl ?_
      refine own_s_lstore X0.here hx #[.val (.int w0), .val (.int g0), .val (.long a_), .second, .val (.long b_), .second, .val (.long c_), .second, .val (.int (1 : Int32)), .val (.int (0 : Int32)), .val (.int (Int32.ofNat (kk.val + 1))), .val (.long (1 : Int64)), .second, .unset, .unset, .unset, .unset] (hb hby at_53) rfl ?_
      refine own_s_iconst X0.here hx (3 : Int32) (hb hby at_55) rfl ?_
      obtain ⟨T395, h395, k395, X395, e395, E395, A395, st395⟩ := newP X0 hx hZ (hw _ (List.mem_of_getElem? (i := 4) rfl)) e0 (g := (mkF m 56 #[.val (.int w0), .val (.int g0), .val (.long a_), .second, .val (.long b_), .second, .val (.long c_), .second, .val (.int (1 : Int32)), .val (.int (0 : Int32)), .val (.int (Int32.ofNat (kk.val + 1))), .val (.long (1 : Int64)), .second, .unset, .unset, .unset, .unset] [(.int (3 : Int32))])) rfl (hb hby at_56) rfl (by decide) (cap := 3) (by decide) (by decide) (by decide) (by decide)
      obtain ⟨b395, g395⟩ : ∃ z, z = h0.size := ⟨_, rfl⟩
      rw [← g395] at A395 st395
      have ge_b395 : n0 ≤ b395 := Nat.le_trans Z0 (Nat.le_of_eq g395.symm)
      have SZ395 : n0 ≤ h395.size := Nat.le_trans Z0 E395.1
      have f396 : own_Av Z h395 b395 .long 3 (fun _ => (.long (0 : Int64))) := own_Av.ofnew A395 (by decide) rfl
      refine own_by st395 ?_
      show own_Go p e below T395 (mkF m 58 #[.val (.int w0), .val (.int g0), .val (.long a_), .second, .val (.long b_), .second, .val (.long c_), .second, .val (.int (1 : Int32)), .val (.int (0 : Int32)), .val (.int (Int32.ofNat (kk.val + 1))), .val (.long (1 : Int64)), .second, .unset, .unset, .unset, .unset] [(.ref b395)]) _
      refine own_s_astore X395.here hx #[.val (.int w0), .val (.int g0), .val (.long a_), .second, .val (.long b_), .second, .val (.long c_), .second, .val (.int (1 : Int32)), .val (.int (0 : Int32)), .val (.int (Int32.ofNat (kk.val + 1))), .val (.long (1 : Int64)), .second, .val (.ref b395), .unset, .unset, .unset] (hb hby at_58) rfl rfl ?_
      refine own_s_aload X395.here hx (hb hby at_60) rfl rfl ?_
      refine own_s_iconst X395.here hx (0 : Int32) (hb hby at_62) rfl ?_
      refine own_s_lloadN X395.here hx (hb hby at_63) rfl ?_
      refine own_s_lload X395.here hx (hb hby at_64) rfl ?_
      obtain ⟨_, _, ⟨T397, L397, k397, n397⟩, -, X397, ⟨Lc397, hQ397, l397, y397, z397⟩, st397⟩ := Jvm.LawKit.callS X395 hx (y := (⟨"com/example/lapse/lapse/MarkingCodeFitsPinLaw", "draw", "(JJ)J"⟩ : MethodName)) hown (mvT hZ (hw _ (List.mem_of_getElem? (i := 5) rfl))) (mvT hZ (hw _ (List.mem_of_getElem? (i := 6) rfl))) (mvT hZ (hw _ (List.mem_of_getElem? (i := 7) rfl))) (mvT hZ (hw _ (List.mem_of_getElem? (i := 8) rfl))) (by decide) (backOf (W := 2) (own_r2 l Z a0 hw [] a_ (1 : Int64)  h395 n0 SZ395 ) hZ (hw _ (List.mem_of_getElem? (i := 8) rfl)) (hw _ (List.mem_of_getElem? (i := 7) rfl)) (by decide) (by decide)) (g := (mkF m 66 #[.val (.int w0), .val (.int g0), .val (.long a_), .second, .val (.long b_), .second, .val (.long c_), .second, .val (.int (1 : Int32)), .val (.int (0 : Int32)), .val (.int (Int32.ofNat (kk.val + 1))), .val (.long (1 : Int64)), .second, .val (.ref b395), .unset, .unset, .unset] [(.long (1 : Int64)), (.long a_), (.int (0 : Int32)), (.ref b395)])) rfl (by rw [hml]; rfl) (argsL := [(.long a_), (.long (1 : Int64))]) (rest := [(.int (0 : Int32)), (.ref b395)]) (lenOf own_pd_1 rfl) rfl (by show 2 * 0 + _ ≤ _; exact Nat.le_of_eq rfl) (hb hby at_66) (fun _ _ => ⟨rfl, e395, (by decide : 1 + 0 ≤ _), (by decide : 3 + 0 ≤ _)⟩)
      dsimp only [Pt.U, Pt.locs, Pt.cells, Pt.slots] at X397 l397 y397 z397 st397 hQ397
      subst l397 y397 z397
      obtain ⟨rfl, N397q, e397⟩ := hQ397
      have N397 := Fr.app N0 N397q
      refine own_by st397 ?_
      show own_Go p e below T397 (mkF m 69 #[.val (.int w0), .val (.int g0), .val (.long a_), .second, .val (.long b_), .second, .val (.long c_), .second, .val (.int (1 : Int32)), .val (.int (0 : Int32)), .val (.int (Int32.ofNat (kk.val + 1))), .val (.long (1 : Int64)), .second, .val (.ref b395), .unset, .unset, .unset] [(.long (own_f2 a_ (1 : Int64))), (.int (0 : Int32)), (.ref b395)]) _
      obtain ⟨T398, h398, X398, e398, W398, fa398, st398⟩ := own_stJ X397 hx hZ e397 f396 (k := 0) (by decide) (by decide) (g := (mkF m 69 #[.val (.int w0), .val (.int g0), .val (.long a_), .second, .val (.long b_), .second, .val (.long c_), .second, .val (.int (1 : Int32)), .val (.int (0 : Int32)), .val (.int (Int32.ofNat (kk.val + 1))), .val (.long (1 : Int64)), .second, .val (.ref b395), .unset, .unset, .unset] [(.long (own_f2 a_ (1 : Int64))), (.int (0 : Int32)), (.ref b395)])) rfl rfl (hb hby at_69)
      have N398 := Fr.snoc X398 N397 ge_b395
      have SZ398 : n0 ≤ h398.size := by rw [W398.size]; exact SZ395
      refine own_by st398 ?_
      show own_Go p e below T398 (mkF m 70 #[.val (.int w0), .val (.int g0), .val (.long a_), .second, .val (.long b_), .second, .val (.long c_), .second, .val (.int (1 : Int32)), .val (.int (0 : Int32)), .val (.int (Int32.ofNat (kk.val + 1))), .val (.long (1 : Int64)), .second, .val (.ref b395), .unset, .unset, .unset] []) _
      refine own_s_aload X398.here hx (hb hby at_70) rfl rfl ?_
      refine own_s_iconst X398.here hx (1 : Int32) (hb hby at_72) rfl ?_
      refine own_s_lload X398.here hx (hb hby at_73) rfl ?_
      refine own_s_lconst X398.here hx (1 : Int64) (hb hby at_75) rfl ?_
      obtain ⟨_, _, ⟨T399, L399, k399, n399⟩, -, X399, ⟨Lc399, hQ399, l399, y399, z399⟩, st399⟩ := Jvm.LawKit.callS X398 hx (y := (⟨"com/example/lapse/lapse/MarkingCodeFitsPinLaw", "draw", "(JJ)J"⟩ : MethodName)) hown (mvT hZ (hw _ (List.mem_of_getElem? (i := 5) rfl))) (mvT hZ (hw _ (List.mem_of_getElem? (i := 6) rfl))) (mvT hZ (hw _ (List.mem_of_getElem? (i := 7) rfl))) (mvT hZ (hw _ (List.mem_of_getElem? (i := 8) rfl))) (by decide) (backOf (W := 2) (own_r2 l Z a0 hw [] b_ (1 : Int64)  h398 n0 SZ398 ) hZ (hw _ (List.mem_of_getElem? (i := 8) rfl)) (hw _ (List.mem_of_getElem? (i := 7) rfl)) (by decide) (by decide)) (g := (mkF m 76 #[.val (.int w0), .val (.int g0), .val (.long a_), .second, .val (.long b_), .second, .val (.long c_), .second, .val (.int (1 : Int32)), .val (.int (0 : Int32)), .val (.int (Int32.ofNat (kk.val + 1))), .val (.long (1 : Int64)), .second, .val (.ref b395), .unset, .unset, .unset] [(.long (1 : Int64)), (.long b_), (.int (1 : Int32)), (.ref b395)])) rfl (by rw [hml]; rfl) (argsL := [(.long b_), (.long (1 : Int64))]) (rest := [(.int (1 : Int32)), (.ref b395)]) (lenOf own_pd_1 rfl) rfl (by show 2 * 0 + _ ≤ _; exact Nat.le_of_eq rfl) (hb hby at_76) (fun _ _ => ⟨rfl, e398, (by decide : 1 + 0 ≤ _), (by decide : 3 + 0 ≤ _)⟩)
      dsimp only [Pt.U, Pt.locs, Pt.cells, Pt.slots] at X399 l399 y399 z399 st399 hQ399
      subst l399 y399 z399
      obtain ⟨rfl, N399q, e399⟩ := hQ399
      have N399 := Fr.app N398 N399q
      refine own_by st399 ?_
      show own_Go p e below T399 (mkF m 79 #[.val (.int w0), .val (.int g0), .val (.long a_), .second, .val (.long b_), .second, .val (.long c_), .second, .val (.int (1 : Int32)), .val (.int (0 : Int32)), .val (.int (Int32.ofNat (kk.val + 1))), .val (.long (1 : Int64)), .second, .val (.ref b395), .unset, .unset, .unset] [(.long (own_f2 b_ (1 : Int64))), (.int (1 : Int32)), (.ref b395)]) _
      obtain ⟨T400, h400, X400, e400, W400, fa400, st400⟩ := own_stJ X399 hx hZ e399 fa398 (k := 1) (by decide) (by decide) (g := (mkF m 79 #[.val (.int w0), .val (.int g0), .val (.long a_), .second, .val (.long b_), .second, .val (.long c_), .second, .val (.int (1 : Int32)), .val (.int (0 : Int32)), .val (.int (Int32.ofNat (kk.val + 1))), .val (.long (1 : Int64)), .second, .val (.ref b395), .unset, .unset, .unset] [(.long (own_f2 b_ (1 : Int64))), (.int (1 : Int32)), (.ref b395)])) rfl rfl (hb hby at_79)
      have N400 := Fr.snoc X400 N399 ge_b395
      have SZ400 : n0 ≤ h400.size := by rw [W400.size]; exact SZ398
      refine own_by st400 ?_
      show own_Go p e below T400 (mkF m 80 #[.val (.int w0), .val (.int g0), .val (.long a_), .second, .val (.long b_), .second, .val (.long c_), .second, .val (.int (1 : Int32)), .val (.int (0 : Int32)), .val (.int (Int32.ofNat (kk.val + 1))), .val (.long (1 : Int64)), .second, .val (.ref b395), .unset, .unset, .unset] []) _
      refine own_s_aload X400.here hx (hb hby at_80) rfl rfl ?_
      refine own_s_iconst X400.here hx (2 : Int32) (hb hby at_82) rfl ?_
      refine own_s_lload X400.here hx (hb hby at_83) rfl ?_
      refine own_s_lconst X400.here hx (1 : Int64) (hb hby at_85) rfl ?_
      obtain ⟨_, _, ⟨T401, L401, k401, n401⟩, -, X401, ⟨Lc401, hQ401, l401, y401, z401⟩, st401⟩ := Jvm.LawKit.callS X400 hx (y := (⟨"com/example/lapse/lapse/MarkingCodeFitsPinLaw", "draw", "(JJ)J"⟩ : MethodName)) hown (mvT hZ (hw _ (List.mem_of_getElem? (i := 5) rfl))) (mvT hZ (hw _ (List.mem_of_getElem? (i := 6) rfl))) (mvT hZ (hw _ (List.mem_of_getElem? (i := 7) rfl))) (mvT hZ (hw _ (List.mem_of_getElem? (i := 8) rfl))) (by decide) (backOf (W := 2) (own_r2 l Z a0 hw [] c_ (1 : Int64)  h400 n0 SZ400 ) hZ (hw _ (List.mem_of_getElem? (i := 8) rfl)) (hw _ (List.mem_of_getElem? (i := 7) rfl)) (by decide) (by decide)) (g := (mkF m 86 #[.val (.int w0), .val (.int g0), .val (.long a_), .second, .val (.long b_), .second, .val (.long c_), .second, .val (.int (1 : Int32)), .val (.int (0 : Int32)), .val (.int (Int32.ofNat (kk.val + 1))), .val (.long (1 : Int64)), .second, .val (.ref b395), .unset, .unset, .unset] [(.long (1 : Int64)), (.long c_), (.int (2 : Int32)), (.ref b395)])) rfl (by rw [hml]; rfl) (argsL := [(.long c_), (.long (1 : Int64))]) (rest := [(.int (2 : Int32)), (.ref b395)]) (lenOf own_pd_1 rfl) rfl (by show 2 * 0 + _ ≤ _; exact Nat.le_of_eq rfl) (hb hby at_86) (fun _ _ => ⟨rfl, e400, (by decide : 1 + 0 ≤ _), (by decide : 3 + 0 ≤ _)⟩)
      dsimp only [Pt.U, Pt.locs, Pt.cells, Pt.slots] at X401 l401 y401 z401 st401 hQ401
      subst l401 y401 z401
      obtain ⟨rfl, N401q, e401⟩ := hQ401
      have N401 := Fr.app N400 N401q
      refine own_by st401 ?_
      show own_Go p e below T401 (mkF m 89 #[.val (.int w0), .val (.int g0), .val (.long a_), .second, .val (.long b_), .second, .val (.long c_), .second, .val (.int (1 : Int32)), .val (.int (0 : Int32)), .val (.int (Int32.ofNat (kk.val + 1))), .val (.long (1 : Int64)), .second, .val (.ref b395), .unset, .unset, .unset] [(.long (own_f2 c_ (1 : Int64))), (.int (2 : Int32)), (.ref b395)]) _
      obtain ⟨T402, h402, X402, e402, W402, fa402, st402⟩ := own_stJ X401 hx hZ e401 fa400 (k := 2) (by decide) (by decide) (g := (mkF m 89 #[.val (.int w0), .val (.int g0), .val (.long a_), .second, .val (.long b_), .second, .val (.long c_), .second, .val (.int (1 : Int32)), .val (.int (0 : Int32)), .val (.int (Int32.ofNat (kk.val + 1))), .val (.long (1 : Int64)), .second, .val (.ref b395), .unset, .unset, .unset] [(.long (own_f2 c_ (1 : Int64))), (.int (2 : Int32)), (.ref b395)])) rfl rfl (hb hby at_89)
      have N402 := Fr.snoc X402 N401 ge_b395
      have SZ402 : n0 ≤ h402.size := by rw [W402.size]; exact SZ400
      refine own_by st402 ?_
      show own_Go p e below T402 (mkF m 90 #[.val (.int w0), .val (.int g0), .val (.long a_), .second, .val (.long b_), .second, .val (.long c_), .second, .val (.int (1 : Int32)), .val (.int (0 : Int32)), .val (.int (Int32.ofNat (kk.val + 1))), .val (.long (1 : Int64)), .second, .val (.ref b395), .unset, .unset, .unset] []) _
      refine own_s_iconst X402.here hx (3 : Int32) (hb hby at_90) rfl ?_
      obtain ⟨T403, h403, k403, X403, e403, E403, A403, st403⟩ := newP X402 hx hZ (hw _ (List.mem_of_getElem? (i := 4) rfl)) e402 (g := (mkF m 91 #[.val (.int w0), .val (.int g0), .val (.long a_), .second, .val (.long b_), .second, .val (.long c_), .second, .val (.int (1 : Int32)), .val (.int (0 : Int32)), .val (.int (Int32.ofNat (kk.val + 1))), .val (.long (1 : Int64)), .second, .val (.ref b395), .unset, .unset, .unset] [(.int (3 : Int32))])) rfl (hb hby at_91) rfl (by decide) (cap := 3) (by decide) (by decide) (by decide) (by decide)
      obtain ⟨b403, g403⟩ : ∃ z, z = h402.size := ⟨_, rfl⟩
      rw [← g403] at A403 st403
      have ge_b403 : n0 ≤ b403 := Nat.le_trans SZ402 (Nat.le_of_eq g403.symm)
      have ne_b395_b403 : b395 ≠ b403 := Nat.ne_of_lt (Nat.lt_of_lt_of_le fa402.lt (Nat.le_of_eq g403.symm))
      have f404 := fa402.ext E403
      have SZ403 : n0 ≤ h403.size := Nat.le_trans SZ402 E403.1
      have f405 : own_Av Z h403 b403 .long 3 (fun _ => (.long (0 : Int64))) := own_Av.ofnew A403 (by decide) rfl
      refine own_by st403 ?_
      show own_Go p e below T403 (mkF m 93 #[.val (.int w0), .val (.int g0), .val (.long a_), .second, .val (.long b_), .second, .val (.long c_), .second, .val (.int (1 : Int32)), .val (.int (0 : Int32)), .val (.int (Int32.ofNat (kk.val + 1))), .val (.long (1 : Int64)), .second, .val (.ref b395), .unset, .unset, .unset] [(.ref b403)]) _
      refine own_s_astore X403.here hx #[.val (.int w0), .val (.int g0), .val (.long a_), .second, .val (.long b_), .second, .val (.long c_), .second, .val (.int (1 : Int32)), .val (.int (0 : Int32)), .val (.int (Int32.ofNat (kk.val + 1))), .val (.long (1 : Int64)), .second, .val (.ref b395), .val (.ref b403), .unset, .unset] (hb hby at_93) rfl rfl ?_
      refine own_s_aload X403.here hx (hb hby at_95) rfl rfl ?_
      refine own_s_iconst X403.here hx (0 : Int32) (hb hby at_97) rfl ?_
      refine own_s_lconst X403.here hx (1 : Int64) (hb hby at_98) rfl ?_
      refine own_s_iload X403.here hx (hb hby at_99) rfl ?_
      refine own_s_lshl X403.here hx (hb hby at_101) ?_
      obtain ⟨T406, h406, X406, e406, W406, fa406, st406⟩ := own_stJ X403 hx hZ e403 f405 (k := 0) (by decide) (by decide) (g := (mkF m 102 #[.val (.int w0), .val (.int g0), .val (.long a_), .second, .val (.long b_), .second, .val (.long c_), .second, .val (.int (1 : Int32)), .val (.int (0 : Int32)), .val (.int (Int32.ofNat (kk.val + 1))), .val (.long (1 : Int64)), .second, .val (.ref b395), .val (.ref b403), .unset, .unset] [(.long ((1 : Int64) <<< ((Int32.ofNat (kk.val + 1)) &&& 0x3f).toInt64)), (.int (0 : Int32)), (.ref b403)])) rfl rfl (hb hby at_102)
      have f407 := f404.other W406 ne_b395_b403
      have N406 := Fr.snoc X406 N402 ge_b403
      have SZ406 : n0 ≤ h406.size := by rw [W406.size]; exact SZ403
      refine own_by st406 ?_
      show own_Go p e below T406 (mkF m 103 #[.val (.int w0), .val (.int g0), .val (.long a_), .second, .val (.long b_), .second, .val (.long c_), .second, .val (.int (1 : Int32)), .val (.int (0 : Int32)), .val (.int (Int32.ofNat (kk.val + 1))), .val (.long (1 : Int64)), .second, .val (.ref b395), .val (.ref b403), .unset, .unset] []) _
      have f408 : own_Av Z h406 b395 .long 3 (fun j => .long ((own_b3 (own_f2 a_ (1 : Int64)) (own_f2 b_ (1 : Int64)) (own_f2 c_ (1 : Int64))) j)) := f407.cong rfl (fun j hj => by
        match j, hj with
        | 0, _ => rfl
        | 1, _ => rfl
        | 2, _ => rfl)
      obtain ⟨T409, h409, X409, e409, E409, A409, D409, -, st409⟩ := newO X406 hx hZ hown (hw _ (List.mem_of_getElem? (i := 10) rfl)) (hw _ (List.mem_of_getElem? (i := 11) rfl)) (hw _ (List.mem_of_getElem? (i := 12) rfl)) e406 (g := (mkF m 103 #[.val (.int w0), .val (.int g0), .val (.long a_), .second, .val (.long b_), .second, .val (.long c_), .second, .val (.int (1 : Int32)), .val (.int (0 : Int32)), .val (.int (Int32.ofNat (kk.val + 1))), .val (.long (1 : Int64)), .second, .val (.ref b395), .val (.ref b403), .unset, .unset] [])) rfl (hb hby at_103) (by decide) (by decide)
      obtain ⟨b409, g409⟩ : ∃ z, z = h406.size := ⟨_, rfl⟩
      rw [← g409] at A409 D409 st409
      have ge_b409 : n0 ≤ b409 := Nat.le_trans SZ406 (Nat.le_of_eq g409.symm)
      have ne_b395_b409 : b395 ≠ b409 := Nat.ne_of_lt (Nat.lt_of_lt_of_le f408.lt (Nat.le_of_eq g409.symm))
      have ne_b403_b409 : b403 ≠ b409 := Nat.ne_of_lt (Nat.lt_of_lt_of_le fa406.lt (Nat.le_of_eq g409.symm))
      have f410 := f408.ext E409
      have f411 := fa406.ext E409
      have SZ409 : n0 ≤ h409.size := Nat.le_trans SZ406 E409.1
      have f412 : Fld Z h409 b409 "com/example/lapse/lapse/MarkingCode" "most" "[I" .null := D409 (Or.inr (hw _ (List.mem_of_getElem? (i := 31) rfl))) (ty := (.array .int)) (by decide)
      have f413 : Fld Z h409 b409 "com/example/lapse/lapse/MarkingCode" "words" "[I" .null := D409 (Or.inr (hw _ (List.mem_of_getElem? (i := 33) rfl))) (ty := (.array .int)) (by decide)
      have f414 : Fld Z h409 b409 "com/example/lapse/lapse/MarkingCode" "shifts" "[I" .null := D409 (Or.inr (hw _ (List.mem_of_getElem? (i := 35) rfl))) (ty := (.array .int)) (by decide)
      have f415 : Fld Z h409 b409 "com/example/lapse/lapse/MarkingCode" "length" "I" (.int (0 : Int32)) := D409 (Or.inr (hw _ (List.mem_of_getElem? (i := 37) rfl))) (ty := .int) (by decide)
      refine own_by st409 ?_
      show own_Go p e below T409 (mkF m 106 #[.val (.int w0), .val (.int g0), .val (.long a_), .second, .val (.long b_), .second, .val (.long c_), .second, .val (.int (1 : Int32)), .val (.int (0 : Int32)), .val (.int (Int32.ofNat (kk.val + 1))), .val (.long (1 : Int64)), .second, .val (.ref b395), .val (.ref b403), .unset, .unset] [(.ref b409)]) _
      refine own_s_dup X409.here hx (hb hby at_106) rfl ?_
      refine own_s_iload X409.here hx (hb hby at_107) rfl ?_
      obtain ⟨_, _, ⟨T416, L416, k416, n416⟩, -, X416, ⟨Lc416, hQ416, l416, y416, z416⟩, st416⟩ := X409.specialBack hx (y := (⟨"com/example/lapse/lapse/MarkingCode", "<init>", "(I)V"⟩ : MethodName)) rfl hown (mvT hZ (hw _ (List.mem_of_getElem? (i := 13) rfl))) (mvT hZ (hw _ (List.mem_of_getElem? (i := 14) rfl))) (mvT hZ (hw _ (List.mem_of_getElem? (i := 15) rfl))) (by decide) (backOf (W := 1) (own_r3 l Z a0 hw [] b409 (1 : Int32) 1 h409 n0 SZ409 (by decide) (by decide) (by decide) A409 f412 f413 f414 f415 ge_b409) hZ (hw _ (List.mem_of_getElem? (i := 15) rfl)) (hw _ (List.mem_of_getElem? (i := 12) rfl)) (by decide) (by decide)) (g := (mkF m 109 #[.val (.int w0), .val (.int g0), .val (.long a_), .second, .val (.long b_), .second, .val (.long c_), .second, .val (.int (1 : Int32)), .val (.int (0 : Int32)), .val (.int (Int32.ofNat (kk.val + 1))), .val (.long (1 : Int64)), .second, .val (.ref b395), .val (.ref b403), .unset, .unset] [(.int (1 : Int32)), (.ref b409), (.ref b409)])) rfl (by rw [hml]; rfl) (Steps.refl _) (a := b409) (argsL := [(.int (1 : Int32))]) (rest := [(.ref b409)]) (lenOf own_pd_2 rfl) rfl (by show 2 * 0 + _ ≤ _; exact Nat.le_of_eq rfl) (hb hby at_109) (fun _ _ => ⟨rfl, e409, (by decide : 3 + 4 ≤ _), (by decide : 10 + 12 ≤ _)⟩)
      dsimp only [Pt.U, Pt.locs, Pt.cells, Pt.slots] at X416 l416 y416 z416 st416 hQ416
      subst l416 y416 z416
      obtain ⟨rfl, N416q, K416, am416, aw416, as416, gm416, gw416, gs416, zm416, zw416, zs416, nmw416, nms416, nws416, fm416, Am416, fw416, Aw416, fs416, As416, fl416⟩ := hQ416
      have N416 := Fr.app N406 N416q
      have f417 := f410.keep K416 (ninS ne_b395_b409 nin0)
      have f418 := f411.keep K416 (ninS ne_b403_b409 nin0)
      have f419 := A409.keep K416
      have SZ416 : n0 ≤ T416.heap.size := Nat.le_trans SZ409 K416.1
      refine own_by (fun t k => st416.trans k) ?_
      have ne_b395_am416 : b395 ≠ am416 := Nat.ne_of_lt (Nat.lt_of_lt_of_le f410.lt zm416)
      have ne_b403_am416 : b403 ≠ am416 := Nat.ne_of_lt (Nat.lt_of_lt_of_le f411.lt zm416)
      have ne_b409_am416 : b409 ≠ am416 := Nat.ne_of_lt (Nat.lt_of_lt_of_le A409.lt zm416)
      have ne_b395_aw416 : b395 ≠ aw416 := Nat.ne_of_lt (Nat.lt_of_lt_of_le f410.lt zw416)
      have ne_b403_aw416 : b403 ≠ aw416 := Nat.ne_of_lt (Nat.lt_of_lt_of_le f411.lt zw416)
      have ne_b409_aw416 : b409 ≠ aw416 := Nat.ne_of_lt (Nat.lt_of_lt_of_le A409.lt zw416)
      have ne_b395_as416 : b395 ≠ as416 := Nat.ne_of_lt (Nat.lt_of_lt_of_le f410.lt zs416)
      have ne_b403_as416 : b403 ≠ as416 := Nat.ne_of_lt (Nat.lt_of_lt_of_le f411.lt zs416)
      have ne_b409_as416 : b409 ≠ as416 := Nat.ne_of_lt (Nat.lt_of_lt_of_le A409.lt zs416)
      show own_Go p e below T416 (mkF m 112 #[.val (.int w0), .val (.int g0), .val (.long a_), .second, .val (.long b_), .second, .val (.long c_), .second, .val (.int (1 : Int32)), .val (.int (0 : Int32)), .val (.int (Int32.ofNat (kk.val + 1))), .val (.long (1 : Int64)), .second, .val (.ref b395), .val (.ref b403), .unset, .unset] [(.ref b409)]) _
      refine own_s_astore X416.here hx #[.val (.int w0), .val (.int g0), .val (.long a_), .second, .val (.long b_), .second, .val (.long c_), .second, .val (.int (1 : Int32)), .val (.int (0 : Int32)), .val (.int (Int32.ofNat (kk.val + 1))), .val (.long (1 : Int64)), .second, .val (.ref b395), .val (.ref b403), .val (.ref b409), .unset] (hb hby at_112) rfl rfl ?_
      have f420 : own_Av Z T416.heap am416 .int 1 (fun _ => .int (1 : Int32)) := Am416.cong rfl (fun j _ => congrArg Value.int own_mo1)
      refine own_s_iload X416.here hx (hb hby at_114) rfl ?_
      show own_Go p e below T416 (mkF m 116 #[.val (.int w0), .val (.int g0), .val (.long a_), .second, .val (.long b_), .second, .val (.long c_), .second, .val (.int (1 : Int32)), .val (.int (0 : Int32)), .val (.int (Int32.ofNat (kk.val + 1))), .val (.long (1 : Int64)), .second, .val (.ref b395), .val (.ref b403), .val (.ref b409), .unset] [(.int (0 : Int32))]) _
      refine own_s_ifYes X416.here hx 128 (hb hby at_116) (Jvm.Free.XT.i0_eq_t ((by decide))) (by decide) (by decide) ?_
      exact own_t1n hx hZ hw hby hml hown hnm hret hlk  w0 g0 (0 : Int32) (Int32.ofNat (kk.val + 1)) a_ b_ c_ (1 : Int64) b395 b403 b409 am416 (fun _ => (1 : Int32)) (own_b3 (own_f2 a_ (1 : Int64)) (own_f2 b_ (1 : Int64)) (own_f2 c_ (1 : Int64))) X416 rfl N416 SZ416 (by decide) f419 fm416 f420 f417
    ·
      refine own_s_ifNo X0.here hx (hb hby at_8) (Jvm.Free.XT.i0_eq_f hc8) ?_
      refine own_s_iconst X0.here hx (1 : Int32) (hb hby at_11) rfl ?_
      show own_Go p e below T0 (mkF m 12 #[.val (.int w0), .val (.int g0), .val (.long a_), .second, .val (.long b_), .second, .val (.long c_), .second, .val (.int (1 : Int32)), .unset, .unset, .unset, .unset, .unset, .unset, .unset, .unset] [(.int (1 : Int32))]) _
      refine own_s_goto X0.here hx 16 (hb hby at_12) (by decide) (by decide) ?_
      refine own_s_istore X0.here hx #[.val (.int w0), .val (.int g0), .val (.long a_), .second, .val (.long b_), .second, .val (.long c_), .second, .val (.int (1 : Int32)), .val (.int (1 : Int32)), .unset, .unset, .unset, .unset, .unset, .unset, .unset] (hb hby at_16) rfl ?_
      refine own_s_iloadN X0.here hx (hb hby at_18) rfl ?_
      refine own_s_iconst X0.here hx (1 : Int32) (hb hby at_19) rfl ?_
      refine own_s_iushr X0.here hx (hb hby at_20) ?_
      refine own_s_bipush X0.here hx (31 : Int32) (hb hby at_21) rfl ?_
      refine own_s_iand X0.here hx (hb hby at_23) ?_
      refine own_s_bipush X0.here hx (30 : Int32) (hb hby at_24) rfl ?_
      refine own_by (fun tq_ kq_ => iremM X0 hx rfl (hb hby at_26) rfl (by decide) kq_) ?_
      show own_Go p e below T0 (mkF m 27 #[.val (.int w0), .val (.int g0), .val (.long a_), .second, .val (.long b_), .second, .val (.long c_), .second, .val (.int (1 : Int32)), .val (.int (1 : Int32)), .unset, .unset, .unset, .unset, .unset, .unset, .unset] [(.int ((((g0.toUInt32 >>> ((1 : Int32) &&& 31).toUInt32).toInt32) &&& (31 : Int32)) % (30 : Int32)))]) _
      refine own_s_iconst X0.here hx (1 : Int32) (hb hby at_27) rfl ?_
      refine own_s_iadd X0.here hx (hb hby at_28) ?_
      refine own_s_istore X0.here hx #[.val (.int w0), .val (.int g0), .val (.long a_), .second, .val (.long b_), .second, .val (.long c_), .second, .val (.int (1 : Int32)), .val (.int (1 : Int32)), .val (.int (((((g0.toUInt32 >>> ((1 : Int32) &&& 31).toUInt32).toInt32) &&& (31 : Int32)) % (30 : Int32)) + (1 : Int32))), .unset, .unset, .unset, .unset, .unset, .unset] (hb hby at_29) rfl ?_
      obtain ⟨kk, hke⟩ := own_kb ((g0.toUInt32 >>> ((1 : Int32) &&& 31).toUInt32).toInt32)
      rw [hke]
      show own_Go p e below T0 (mkF m 31 #[.val (.int w0), .val (.int g0), .val (.long a_), .second, .val (.long b_), .second, .val (.long c_), .second, .val (.int (1 : Int32)), .val (.int (1 : Int32)), .val (.int (Int32.ofNat (kk.val + 1))), .unset, .unset, .unset, .unset, .unset, .unset] []) _
      refine own_s_iload X0.here hx (hb hby at_31) rfl ?_
      refine own_s_ifNo X0.here hx (hb hby at_33) (Jvm.Free.XT.i0_eq_f ((by decide))) ?_
      refine own_s_lconst X0.here hx (1 : Int64) (hb hby at_36) rfl ?_
      refine own_s_bipush X0.here hx (31 : Int32) (hb hby at_37) rfl ?_
      refine own_s_iload X0.here hx (hb hby at_39) rfl ?_
      refine own_s_iconst X0.here hx (2 : Int32) (hb hby at_41) rfl ?_
      refine own_s_iadd X0.here hx (hb hby at_42) ?_
      obtain ⟨_, _, ⟨T421, L421, k421, n421⟩, -, X421, ⟨Lc421, hQ421, l421, y421, z421⟩, st421⟩ := Jvm.LawKit.callS X0 hx (y := (⟨"java/lang/Math", "min", "(II)I"⟩ : MethodName)) hown (mvT hZ (hw _ (List.mem_of_getElem? (i := 0) rfl))) (mvT hZ (hw _ (List.mem_of_getElem? (i := 1) rfl))) (mvT hZ (hw _ (List.mem_of_getElem? (i := 2) rfl))) (mvT hZ (hw _ (List.mem_of_getElem? (i := 3) rfl))) (by decide) (backOf (W := 2) (own_r1 l Z a0 hw [] (31 : Int32) ((Int32.ofNat (kk.val + 1)) + (2 : Int32))  h0 n0 Z0 ) hZ (hw _ (List.mem_of_getElem? (i := 3) rfl)) (hw _ (List.mem_of_getElem? (i := 2) rfl)) (by decide) (by decide)) (g := (mkF m 43 #[.val (.int w0), .val (.int g0), .val (.long a_), .second, .val (.long b_), .second, .val (.long c_), .second, .val (.int (1 : Int32)), .val (.int (1 : Int32)), .val (.int (Int32.ofNat (kk.val + 1))), .unset, .unset, .unset, .unset, .unset, .unset] [(.int ((Int32.ofNat (kk.val + 1)) + (2 : Int32))), (.int (31 : Int32)), (.long (1 : Int64))])) rfl (by rw [hml]; rfl) (argsL := [(.int (31 : Int32)), (.int ((Int32.ofNat (kk.val + 1)) + (2 : Int32)))]) (rest := [(.long (1 : Int64))]) (lenOf own_pd_0 rfl) rfl (by show 2 * 0 + _ ≤ _; exact Nat.le_of_eq rfl) (hb hby at_43) (fun _ _ => ⟨rfl, e0, (by decide : 0 + 0 ≤ _), (by decide : 0 + 0 ≤ _)⟩)
      dsimp only [Pt.U, Pt.locs, Pt.cells, Pt.slots] at X421 l421 y421 z421 st421 hQ421
      subst l421 y421 z421
      obtain ⟨rfl, N421q, e421⟩ := hQ421
      have N421 := Fr.app N0 N421q
      refine own_by st421 ?_
      show own_Go p e below T421 (mkF m 46 #[.val (.int w0), .val (.int g0), .val (.long a_), .second, .val (.long b_), .second, .val (.long c_), .second, .val (.int (1 : Int32)), .val (.int (1 : Int32)), .val (.int (Int32.ofNat (kk.val + 1))), .unset, .unset, .unset, .unset, .unset, .unset] [(.int (own_f1 (31 : Int32) ((Int32.ofNat (kk.val + 1)) + (2 : Int32)))), (.long (1 : Int64))]) _
      refine own_s_lshl X421.here hx (hb hby at_46) ?_
      refine own_s_lconst X421.here hx (1 : Int64) (hb hby at_47) rfl ?_
      refine own_s_lsub X421.here hx (hb hby at_48) ?_
      show own_Go p e below T421 (mkF m 49 #[.val (.int w0), .val (.int g0), .val (.long a_), .second, .val (.long b_), .second, .val (.long c_), .second, .val (.int (1 : Int32)), .val (.int (1 : Int32)), .val (.int (Int32.ofNat (kk.val + 1))), .unset, .unset, .unset, .unset, .unset, .unset] [(.long (((1 : Int64) <<< ((own_f1 (31 : Int32) ((Int32.ofNat (kk.val + 1)) + (2 : Int32))) &&& 0x3f).toInt64) - (1 : Int64)))]) _
      refine own_s_goto X421.here hx 53 (hb hby at_49) (by decide) (by decide) ?_
      refine own_s_lstore X421.here hx #[.val (.int w0), .val (.int g0), .val (.long a_), .second, .val (.long b_), .second, .val (.long c_), .second, .val (.int (1 : Int32)), .val (.int (1 : Int32)), .val (.int (Int32.ofNat (kk.val + 1))), .val (.long (((1 : Int64) <<< ((own_f1 (31 : Int32) ((Int32.ofNat (kk.val + 1)) + (2 : Int32))) &&& 0x3f).toInt64) - (1 : Int64))), .second, .unset, .unset, .unset, .unset] (hb hby at_53) rfl ?_
      have hk30 := own_k30 kk
      generalize hmt : (((1 : Int64) <<< ((own_f1 (31 : Int32) ((Int32.ofNat (kk.val + 1)) + (2 : Int32))) &&& 0x3f).toInt64) - (1 : Int64)) = mt
      show own_Go p e below T421 (mkF m 55 #[.val (.int w0), .val (.int g0), .val (.long a_), .second, .val (.long b_), .second, .val (.long c_), .second, .val (.int (1 : Int32)), .val (.int (1 : Int32)), .val (.int (Int32.ofNat (kk.val + 1))), .val (.long mt), .second, .unset, .unset, .unset, .unset] []) _
      refine own_s_iconst X421.here hx (3 : Int32) (hb hby at_55) rfl ?_
      obtain ⟨T422, h422, k422, X422, e422, E422, A422, st422⟩ := newP X421 hx hZ (hw _ (List.mem_of_getElem? (i := 4) rfl)) e421 (g := (mkF m 56 #[.val (.int w0), .val (.int g0), .val (.long a_), .second, .val (.long b_), .second, .val (.long c_), .second, .val (.int (1 : Int32)), .val (.int (1 : Int32)), .val (.int (Int32.ofNat (kk.val + 1))), .val (.long mt), .second, .unset, .unset, .unset, .unset] [(.int (3 : Int32))])) rfl (hb hby at_56) rfl (by decide) (cap := 3) (by decide) (by decide) (by decide) (by decide)
      obtain ⟨b422, g422⟩ : ∃ z, z = h0.size := ⟨_, rfl⟩
      rw [← g422] at A422 st422
      have ge_b422 : n0 ≤ b422 := Nat.le_trans Z0 (Nat.le_of_eq g422.symm)
      have SZ422 : n0 ≤ h422.size := Nat.le_trans Z0 E422.1
      have f423 : own_Av Z h422 b422 .long 3 (fun _ => (.long (0 : Int64))) := own_Av.ofnew A422 (by decide) rfl
      refine own_by st422 ?_
      show own_Go p e below T422 (mkF m 58 #[.val (.int w0), .val (.int g0), .val (.long a_), .second, .val (.long b_), .second, .val (.long c_), .second, .val (.int (1 : Int32)), .val (.int (1 : Int32)), .val (.int (Int32.ofNat (kk.val + 1))), .val (.long mt), .second, .unset, .unset, .unset, .unset] [(.ref b422)]) _
      refine own_s_astore X422.here hx #[.val (.int w0), .val (.int g0), .val (.long a_), .second, .val (.long b_), .second, .val (.long c_), .second, .val (.int (1 : Int32)), .val (.int (1 : Int32)), .val (.int (Int32.ofNat (kk.val + 1))), .val (.long mt), .second, .val (.ref b422), .unset, .unset, .unset] (hb hby at_58) rfl rfl ?_
      refine own_s_aload X422.here hx (hb hby at_60) rfl rfl ?_
      refine own_s_iconst X422.here hx (0 : Int32) (hb hby at_62) rfl ?_
      refine own_s_lloadN X422.here hx (hb hby at_63) rfl ?_
      refine own_s_lload X422.here hx (hb hby at_64) rfl ?_
      obtain ⟨_, _, ⟨T424, L424, k424, n424⟩, -, X424, ⟨Lc424, hQ424, l424, y424, z424⟩, st424⟩ := Jvm.LawKit.callS X422 hx (y := (⟨"com/example/lapse/lapse/MarkingCodeFitsPinLaw", "draw", "(JJ)J"⟩ : MethodName)) hown (mvT hZ (hw _ (List.mem_of_getElem? (i := 5) rfl))) (mvT hZ (hw _ (List.mem_of_getElem? (i := 6) rfl))) (mvT hZ (hw _ (List.mem_of_getElem? (i := 7) rfl))) (mvT hZ (hw _ (List.mem_of_getElem? (i := 8) rfl))) (by decide) (backOf (W := 2) (own_r2 l Z a0 hw [] a_ mt  h422 n0 SZ422 ) hZ (hw _ (List.mem_of_getElem? (i := 8) rfl)) (hw _ (List.mem_of_getElem? (i := 7) rfl)) (by decide) (by decide)) (g := (mkF m 66 #[.val (.int w0), .val (.int g0), .val (.long a_), .second, .val (.long b_), .second, .val (.long c_), .second, .val (.int (1 : Int32)), .val (.int (1 : Int32)), .val (.int (Int32.ofNat (kk.val + 1))), .val (.long mt), .second, .val (.ref b422), .unset, .unset, .unset] [(.long mt), (.long a_), (.int (0 : Int32)), (.ref b422)])) rfl (by rw [hml]; rfl) (argsL := [(.long a_), (.long mt)]) (rest := [(.int (0 : Int32)), (.ref b422)]) (lenOf own_pd_1 rfl) rfl (by show 2 * 0 + _ ≤ _; exact Nat.le_of_eq rfl) (hb hby at_66) (fun _ _ => ⟨rfl, e422, (by decide : 1 + 0 ≤ _), (by decide : 3 + 0 ≤ _)⟩)
      dsimp only [Pt.U, Pt.locs, Pt.cells, Pt.slots] at X424 l424 y424 z424 st424 hQ424
      subst l424 y424 z424
      obtain ⟨rfl, N424q, e424⟩ := hQ424
      have N424 := Fr.app N421 N424q
      refine own_by st424 ?_
      show own_Go p e below T424 (mkF m 69 #[.val (.int w0), .val (.int g0), .val (.long a_), .second, .val (.long b_), .second, .val (.long c_), .second, .val (.int (1 : Int32)), .val (.int (1 : Int32)), .val (.int (Int32.ofNat (kk.val + 1))), .val (.long mt), .second, .val (.ref b422), .unset, .unset, .unset] [(.long (own_f2 a_ mt)), (.int (0 : Int32)), (.ref b422)]) _
      obtain ⟨T425, h425, X425, e425, W425, fa425, st425⟩ := own_stJ X424 hx hZ e424 f423 (k := 0) (by decide) (by decide) (g := (mkF m 69 #[.val (.int w0), .val (.int g0), .val (.long a_), .second, .val (.long b_), .second, .val (.long c_), .second, .val (.int (1 : Int32)), .val (.int (1 : Int32)), .val (.int (Int32.ofNat (kk.val + 1))), .val (.long mt), .second, .val (.ref b422), .unset, .unset, .unset] [(.long (own_f2 a_ mt)), (.int (0 : Int32)), (.ref b422)])) rfl rfl (hb hby at_69)
      have N425 := Fr.snoc X425 N424 ge_b422
      have SZ425 : n0 ≤ h425.size := by rw [W425.size]; exact SZ422
      refine own_by st425 ?_
      show own_Go p e below T425 (mkF m 70 #[.val (.int w0), .val (.int g0), .val (.long a_), .second, .val (.long b_), .second, .val (.long c_), .second, .val (.int (1 : Int32)), .val (.int (1 : Int32)), .val (.int (Int32.ofNat (kk.val + 1))), .val (.long mt), .second, .val (.ref b422), .unset, .unset, .unset] []) _
      refine own_s_aload X425.here hx (hb hby at_70) rfl rfl ?_
      refine own_s_iconst X425.here hx (1 : Int32) (hb hby at_72) rfl ?_
      refine own_s_lload X425.here hx (hb hby at_73) rfl ?_
      refine own_s_lconst X425.here hx (1 : Int64) (hb hby at_75) rfl ?_
      obtain ⟨_, _, ⟨T426, L426, k426, n426⟩, -, X426, ⟨Lc426, hQ426, l426, y426, z426⟩, st426⟩ := Jvm.LawKit.callS X425 hx (y := (⟨"com/example/lapse/lapse/MarkingCodeFitsPinLaw", "draw", "(JJ)J"⟩ : MethodName)) hown (mvT hZ (hw _ (List.mem_of_getElem? (i := 5) rfl))) (mvT hZ (hw _ (List.mem_of_getElem? (i := 6) rfl))) (mvT hZ (hw _ (List.mem_of_getElem? (i := 7) rfl))) (mvT hZ (hw _ (List.mem_of_getElem? (i := 8) rfl))) (by decide) (backOf (W := 2) (own_r2 l Z a0 hw [] b_ (1 : Int64)  h425 n0 SZ425 ) hZ (hw _ (List.mem_of_getElem? (i := 8) rfl)) (hw _ (List.mem_of_getElem? (i := 7) rfl)) (by decide) (by decide)) (g := (mkF m 76 #[.val (.int w0), .val (.int g0), .val (.long a_), .second, .val (.long b_), .second, .val (.long c_), .second, .val (.int (1 : Int32)), .val (.int (1 : Int32)), .val (.int (Int32.ofNat (kk.val + 1))), .val (.long mt), .second, .val (.ref b422), .unset, .unset, .unset] [(.long (1 : Int64)), (.long b_), (.int (1 : Int32)), (.ref b422)])) rfl (by rw [hml]; rfl) (argsL := [(.long b_), (.long (1 : Int64))]) (rest := [(.int (1 : Int32)), (.ref b422)]) (lenOf own_pd_1 rfl) rfl (by show 2 * 0 + _ ≤ _; exact Nat.le_of_eq rfl) (hb hby at_76) (fun _ _ => ⟨rfl, e425, (by decide : 1 + 0 ≤ _), (by decide : 3 + 0 ≤ _)⟩)
      dsimp only [Pt.U, Pt.locs, Pt.cells, Pt.slots] at X426 l426 y426 z426 st426 hQ426
      subst l426 y426 z426
      obtain ⟨rfl, N426q, e426⟩ := hQ426
      have N426 := Fr.app N425 N426q
      refine own_by st426 ?_
      show own_Go p e below T426 (mkF m 79 #[.val (.int w0), .val (.int g0), .val (.long a_), .second, .val (.long b_), .second, .val (.long c_), .second, .val (.int (1 : Int32)), .val (.int (1 : Int32)), .val (.int (Int32.ofNat (kk.val + 1))), .val (.long mt), .second, .val (.ref b422), .unset, .unset, .unset] [(.long (own_f2 b_ (1 : Int64))), (.int (1 : Int32)), (.ref b422)]) _
      obtain ⟨T427, h427, X427, e427, W427, fa427, st427⟩ := own_stJ X426 hx hZ e426 fa425 (k := 1) (by decide) (by decide) (g := (mkF m 79 #[.val (.int w0), .val (.int g0), .val (.long a_), .second, .val (.long b_), .second, .val (.long c_), .second, .val (.int (1 : Int32)), .val (.int (1 : Int32)), .val (.int (Int32.ofNat (kk.val + 1))), .val (.long mt), .second, .val (.ref b422), .unset, .unset, .unset] [(.long (own_f2 b_ (1 : Int64))), (.int (1 : Int32)), (.ref b422)])) rfl rfl (hb hby at_79)
      have N427 := Fr.snoc X427 N426 ge_b422
      have SZ427 : n0 ≤ h427.size := by rw [W427.size]; exact SZ425
      refine own_by st427 ?_
      show own_Go p e below T427 (mkF m 80 #[.val (.int w0), .val (.int g0), .val (.long a_), .second, .val (.long b_), .second, .val (.long c_), .second, .val (.int (1 : Int32)), .val (.int (1 : Int32)), .val (.int (Int32.ofNat (kk.val + 1))), .val (.long mt), .second, .val (.ref b422), .unset, .unset, .unset] []) _
      refine own_s_aload X427.here hx (hb hby at_80) rfl rfl ?_
      refine own_s_iconst X427.here hx (2 : Int32) (hb hby at_82) rfl ?_
      refine own_s_lload X427.here hx (hb hby at_83) rfl ?_
      refine own_s_lconst X427.here hx (1 : Int64) (hb hby at_85) rfl ?_
      obtain ⟨_, _, ⟨T428, L428, k428, n428⟩, -, X428, ⟨Lc428, hQ428, l428, y428, z428⟩, st428⟩ := Jvm.LawKit.callS X427 hx (y := (⟨"com/example/lapse/lapse/MarkingCodeFitsPinLaw", "draw", "(JJ)J"⟩ : MethodName)) hown (mvT hZ (hw _ (List.mem_of_getElem? (i := 5) rfl))) (mvT hZ (hw _ (List.mem_of_getElem? (i := 6) rfl))) (mvT hZ (hw _ (List.mem_of_getElem? (i := 7) rfl))) (mvT hZ (hw _ (List.mem_of_getElem? (i := 8) rfl))) (by decide) (backOf (W := 2) (own_r2 l Z a0 hw [] c_ (1 : Int64)  h427 n0 SZ427 ) hZ (hw _ (List.mem_of_getElem? (i := 8) rfl)) (hw _ (List.mem_of_getElem? (i := 7) rfl)) (by decide) (by decide)) (g := (mkF m 86 #[.val (.int w0), .val (.int g0), .val (.long a_), .second, .val (.long b_), .second, .val (.long c_), .second, .val (.int (1 : Int32)), .val (.int (1 : Int32)), .val (.int (Int32.ofNat (kk.val + 1))), .val (.long mt), .second, .val (.ref b422), .unset, .unset, .unset] [(.long (1 : Int64)), (.long c_), (.int (2 : Int32)), (.ref b422)])) rfl (by rw [hml]; rfl) (argsL := [(.long c_), (.long (1 : Int64))]) (rest := [(.int (2 : Int32)), (.ref b422)]) (lenOf own_pd_1 rfl) rfl (by show 2 * 0 + _ ≤ _; exact Nat.le_of_eq rfl) (hb hby at_86) (fun _ _ => ⟨rfl, e427, (by decide : 1 + 0 ≤ _), (by decide : 3 + 0 ≤ _)⟩)
      dsimp only [Pt.U, Pt.locs, Pt.cells, Pt.slots] at X428 l428 y428 z428 st428 hQ428
      subst l428 y428 z428
      obtain ⟨rfl, N428q, e428⟩ := hQ428
      have N428 := Fr.app N427 N428q
      refine own_by st428 ?_
      show own_Go p e below T428 (mkF m 89 #[.val (.int w0), .val (.int g0), .val (.long a_), .second, .val (.long b_), .second, .val (.long c_), .second, .val (.int (1 : Int32)), .val (.int (1 : Int32)), .val (.int (Int32.ofNat (kk.val + 1))), .val (.long mt), .second, .val (.ref b422), .unset, .unset, .unset] [(.long (own_f2 c_ (1 : Int64))), (.int (2 : Int32)), (.ref b422)]) _
      obtain ⟨T429, h429, X429, e429, W429, fa429, st429⟩ := own_stJ X428 hx hZ e428 fa427 (k := 2) (by decide) (by decide) (g := (mkF m 89 #[.val (.int w0), .val (.int g0), .val (.long a_), .second, .val (.long b_), .second, .val (.long c_), .second, .val (.int (1 : Int32)), .val (.int (1 : Int32)), .val (.int (Int32.ofNat (kk.val + 1))), .val (.long mt), .second, .val (.ref b422), .unset, .unset, .unset] [(.long (own_f2 c_ (1 : Int64))), (.int (2 : Int32)), (.ref b422)])) rfl rfl (hb hby at_89)
      have N429 := Fr.snoc X429 N428 ge_b422
      have SZ429 : n0 ≤ h429.size := by rw [W429.size]; exact SZ427
      refine own_by st429 ?_
      show own_Go p e below T429 (mkF m 90 #[.val (.int w0), .val (.int g0), .val (.long a_), .second, .val (.long b_), .second, .val (.long c_), .second, .val (.int (1 : Int32)), .val (.int (1 : Int32)), .val (.int (Int32.ofNat (kk.val + 1))), .val (.long mt), .second, .val (.ref b422), .unset, .unset, .unset] []) _
      refine own_s_iconst X429.here hx (3 : Int32) (hb hby at_90) rfl ?_
      obtain ⟨T430, h430, k430, X430, e430, E430, A430, st430⟩ := newP X429 hx hZ (hw _ (List.mem_of_getElem? (i := 4) rfl)) e429 (g := (mkF m 91 #[.val (.int w0), .val (.int g0), .val (.long a_), .second, .val (.long b_), .second, .val (.long c_), .second, .val (.int (1 : Int32)), .val (.int (1 : Int32)), .val (.int (Int32.ofNat (kk.val + 1))), .val (.long mt), .second, .val (.ref b422), .unset, .unset, .unset] [(.int (3 : Int32))])) rfl (hb hby at_91) rfl (by decide) (cap := 3) (by decide) (by decide) (by decide) (by decide)
      obtain ⟨b430, g430⟩ : ∃ z, z = h429.size := ⟨_, rfl⟩
      rw [← g430] at A430 st430
      have ge_b430 : n0 ≤ b430 := Nat.le_trans SZ429 (Nat.le_of_eq g430.symm)
      have ne_b422_b430 : b422 ≠ b430 := Nat.ne_of_lt (Nat.lt_of_lt_of_le fa429.lt (Nat.le_of_eq g430.symm))
      have f431 := fa429.ext E430
      have SZ430 : n0 ≤ h430.size := Nat.le_trans SZ429 E430.1
      have f432 : own_Av Z h430 b430 .long 3 (fun _ => (.long (0 : Int64))) := own_Av.ofnew A430 (by decide) rfl
      refine own_by st430 ?_
      show own_Go p e below T430 (mkF m 93 #[.val (.int w0), .val (.int g0), .val (.long a_), .second, .val (.long b_), .second, .val (.long c_), .second, .val (.int (1 : Int32)), .val (.int (1 : Int32)), .val (.int (Int32.ofNat (kk.val + 1))), .val (.long mt), .second, .val (.ref b422), .unset, .unset, .unset] [(.ref b430)]) _
      refine own_s_astore X430.here hx #[.val (.int w0), .val (.int g0), .val (.long a_), .second, .val (.long b_), .second, .val (.long c_), .second, .val (.int (1 : Int32)), .val (.int (1 : Int32)), .val (.int (Int32.ofNat (kk.val + 1))), .val (.long mt), .second, .val (.ref b422), .val (.ref b430), .unset, .unset] (hb hby at_93) rfl rfl ?_
      refine own_s_aload X430.here hx (hb hby at_95) rfl rfl ?_
      refine own_s_iconst X430.here hx (0 : Int32) (hb hby at_97) rfl ?_
      refine own_s_lconst X430.here hx (1 : Int64) (hb hby at_98) rfl ?_
      refine own_s_iload X430.here hx (hb hby at_99) rfl ?_
      refine own_s_lshl X430.here hx (hb hby at_101) ?_
      obtain ⟨T433, h433, X433, e433, W433, fa433, st433⟩ := own_stJ X430 hx hZ e430 f432 (k := 0) (by decide) (by decide) (g := (mkF m 102 #[.val (.int w0), .val (.int g0), .val (.long a_), .second, .val (.long b_), .second, .val (.long c_), .second, .val (.int (1 : Int32)), .val (.int (1 : Int32)), .val (.int (Int32.ofNat (kk.val + 1))), .val (.long mt), .second, .val (.ref b422), .val (.ref b430), .unset, .unset] [(.long ((1 : Int64) <<< ((Int32.ofNat (kk.val + 1)) &&& 0x3f).toInt64)), (.int (0 : Int32)), (.ref b430)])) rfl rfl (hb hby at_102)
      have f434 := f431.other W433 ne_b422_b430
      have N433 := Fr.snoc X433 N429 ge_b430
      have SZ433 : n0 ≤ h433.size := by rw [W433.size]; exact SZ430
      refine own_by st433 ?_
      show own_Go p e below T433 (mkF m 103 #[.val (.int w0), .val (.int g0), .val (.long a_), .second, .val (.long b_), .second, .val (.long c_), .second, .val (.int (1 : Int32)), .val (.int (1 : Int32)), .val (.int (Int32.ofNat (kk.val + 1))), .val (.long mt), .second, .val (.ref b422), .val (.ref b430), .unset, .unset] []) _
      have f435 : own_Av Z h433 b422 .long 3 (fun j => .long ((own_b3 (own_f2 a_ mt) (own_f2 b_ (1 : Int64)) (own_f2 c_ (1 : Int64))) j)) := f434.cong rfl (fun j hj => by
        match j, hj with
        | 0, _ => rfl
        | 1, _ => rfl
        | 2, _ => rfl)
      obtain ⟨T436, h436, X436, e436, E436, A436, D436, -, st436⟩ := newO X433 hx hZ hown (hw _ (List.mem_of_getElem? (i := 10) rfl)) (hw _ (List.mem_of_getElem? (i := 11) rfl)) (hw _ (List.mem_of_getElem? (i := 12) rfl)) e433 (g := (mkF m 103 #[.val (.int w0), .val (.int g0), .val (.long a_), .second, .val (.long b_), .second, .val (.long c_), .second, .val (.int (1 : Int32)), .val (.int (1 : Int32)), .val (.int (Int32.ofNat (kk.val + 1))), .val (.long mt), .second, .val (.ref b422), .val (.ref b430), .unset, .unset] [])) rfl (hb hby at_103) (by decide) (by decide)
      obtain ⟨b436, g436⟩ : ∃ z, z = h433.size := ⟨_, rfl⟩
      rw [← g436] at A436 D436 st436
      have ge_b436 : n0 ≤ b436 := Nat.le_trans SZ433 (Nat.le_of_eq g436.symm)
      have ne_b422_b436 : b422 ≠ b436 := Nat.ne_of_lt (Nat.lt_of_lt_of_le f435.lt (Nat.le_of_eq g436.symm))
      have ne_b430_b436 : b430 ≠ b436 := Nat.ne_of_lt (Nat.lt_of_lt_of_le fa433.lt (Nat.le_of_eq g436.symm))
      have f437 := f435.ext E436
      have f438 := fa433.ext E436
      have SZ436 : n0 ≤ h436.size := Nat.le_trans SZ433 E436.1
      have f439 : Fld Z h436 b436 "com/example/lapse/lapse/MarkingCode" "most" "[I" .null := D436 (Or.inr (hw _ (List.mem_of_getElem? (i := 31) rfl))) (ty := (.array .int)) (by decide)
      have f440 : Fld Z h436 b436 "com/example/lapse/lapse/MarkingCode" "words" "[I" .null := D436 (Or.inr (hw _ (List.mem_of_getElem? (i := 33) rfl))) (ty := (.array .int)) (by decide)
      have f441 : Fld Z h436 b436 "com/example/lapse/lapse/MarkingCode" "shifts" "[I" .null := D436 (Or.inr (hw _ (List.mem_of_getElem? (i := 35) rfl))) (ty := (.array .int)) (by decide)
      have f442 : Fld Z h436 b436 "com/example/lapse/lapse/MarkingCode" "length" "I" (.int (0 : Int32)) := D436 (Or.inr (hw _ (List.mem_of_getElem? (i := 37) rfl))) (ty := .int) (by decide)
      refine own_by st436 ?_
      show own_Go p e below T436 (mkF m 106 #[.val (.int w0), .val (.int g0), .val (.long a_), .second, .val (.long b_), .second, .val (.long c_), .second, .val (.int (1 : Int32)), .val (.int (1 : Int32)), .val (.int (Int32.ofNat (kk.val + 1))), .val (.long mt), .second, .val (.ref b422), .val (.ref b430), .unset, .unset] [(.ref b436)]) _
      refine own_s_dup X436.here hx (hb hby at_106) rfl ?_
      refine own_s_iload X436.here hx (hb hby at_107) rfl ?_
      obtain ⟨_, _, ⟨T443, L443, k443, n443⟩, -, X443, ⟨Lc443, hQ443, l443, y443, z443⟩, st443⟩ := X436.specialBack hx (y := (⟨"com/example/lapse/lapse/MarkingCode", "<init>", "(I)V"⟩ : MethodName)) rfl hown (mvT hZ (hw _ (List.mem_of_getElem? (i := 13) rfl))) (mvT hZ (hw _ (List.mem_of_getElem? (i := 14) rfl))) (mvT hZ (hw _ (List.mem_of_getElem? (i := 15) rfl))) (by decide) (backOf (W := 1) (own_r3 l Z a0 hw [] b436 (1 : Int32) 1 h436 n0 SZ436 (by decide) (by decide) (by decide) A436 f439 f440 f441 f442 ge_b436) hZ (hw _ (List.mem_of_getElem? (i := 15) rfl)) (hw _ (List.mem_of_getElem? (i := 12) rfl)) (by decide) (by decide)) (g := (mkF m 109 #[.val (.int w0), .val (.int g0), .val (.long a_), .second, .val (.long b_), .second, .val (.long c_), .second, .val (.int (1 : Int32)), .val (.int (1 : Int32)), .val (.int (Int32.ofNat (kk.val + 1))), .val (.long mt), .second, .val (.ref b422), .val (.ref b430), .unset, .unset] [(.int (1 : Int32)), (.ref b436), (.ref b436)])) rfl (by rw [hml]; rfl) (Steps.refl _) (a := b436) (argsL := [(.int (1 : Int32))]) (rest := [(.ref b436)]) (lenOf own_pd_2 rfl) rfl (by show 2 * 0 + _ ≤ _; exact Nat.le_of_eq rfl) (hb hby at_109) (fun _ _ => ⟨rfl, e436, (by decide : 3 + 4 ≤ _), (by decide : 10 + 12 ≤ _)⟩)
      dsimp only [Pt.U, Pt.locs, Pt.cells, Pt.slots] at X443 l443 y443 z443 st443 hQ443
      subst l443 y443 z443
      obtain ⟨rfl, N443q, K443, am443, aw443, as443, gm443, gw443, gs443, zm443, zw443, zs443, nmw443, nms443, nws443, fm443, Am443, fw443, Aw443, fs443, As443, fl443⟩ := hQ443
      have N443 := Fr.app N433 N443q
      have f444 := f437.keep K443 (ninS ne_b422_b436 nin0)
      have f445 := f438.keep K443 (ninS ne_b430_b436 nin0)
      have f446 := A436.keep K443
      have SZ443 : n0 ≤ T443.heap.size := Nat.le_trans SZ436 K443.1
      refine own_by (fun t k => st443.trans k) ?_
      have ne_b422_am443 : b422 ≠ am443 := Nat.ne_of_lt (Nat.lt_of_lt_of_le f437.lt zm443)
      have ne_b430_am443 : b430 ≠ am443 := Nat.ne_of_lt (Nat.lt_of_lt_of_le f438.lt zm443)
      have ne_b436_am443 : b436 ≠ am443 := Nat.ne_of_lt (Nat.lt_of_lt_of_le A436.lt zm443)
      have ne_b422_aw443 : b422 ≠ aw443 := Nat.ne_of_lt (Nat.lt_of_lt_of_le f437.lt zw443)
      have ne_b430_aw443 : b430 ≠ aw443 := Nat.ne_of_lt (Nat.lt_of_lt_of_le f438.lt zw443)
      have ne_b436_aw443 : b436 ≠ aw443 := Nat.ne_of_lt (Nat.lt_of_lt_of_le A436.lt zw443)
      have ne_b422_as443 : b422 ≠ as443 := Nat.ne_of_lt (Nat.lt_of_lt_of_le f437.lt zs443)
      have ne_b430_as443 : b430 ≠ as443 := Nat.ne_of_lt (Nat.lt_of_lt_of_le f438.lt zs443)
      have ne_b436_as443 : b436 ≠ as443 := Nat.ne_of_lt (Nat.lt_of_lt_of_le A436.lt zs443)
      show own_Go p e below T443 (mkF m 112 #[.val (.int w0), .val (.int g0), .val (.long a_), .second, .val (.long b_), .second, .val (.long c_), .second, .val (.int (1 : Int32)), .val (.int (1 : Int32)), .val (.int (Int32.ofNat (kk.val + 1))), .val (.long mt), .second, .val (.ref b422), .val (.ref b430), .unset, .unset] [(.ref b436)]) _
      refine own_s_astore X443.here hx #[.val (.int w0), .val (.int g0), .val (.long a_), .second, .val (.long b_), .second, .val (.long c_), .second, .val (.int (1 : Int32)), .val (.int (1 : Int32)), .val (.int (Int32.ofNat (kk.val + 1))), .val (.long mt), .second, .val (.ref b422), .val (.ref b430), .val (.ref b436), .unset] (hb hby at_112) rfl rfl ?_
      have f447 : own_Av Z T443.heap am443 .int 1 (fun _ => .int (1 : Int32)) := Am443.cong rfl (fun j _ => congrArg Value.int own_mo1)
      refine own_s_iload X443.here hx (hb hby at_114) rfl ?_
      refine own_s_ifNo X443.here hx (hb hby at_116) (Jvm.Free.XT.i0_eq_f ((by decide))) ?_
      refine own_s_aload X443.here hx (hb hby at_119) rfl rfl ?_
      refine own_s_aload X443.here hx (hb hby at_121) rfl rfl ?_
      obtain ⟨cq448, kq448, q448a, q448b, q448c⟩ := isOf hZ rfl f446
      obtain ⟨_, _, ⟨T448, L448, k448, n448⟩, -, X448, ⟨Lc448, hQ448, l448, y448, z448⟩, st448⟩ := X443.virtualBack hx (y := (⟨"com/example/lapse/lapse/MarkingCode", "widenedFor", "([J)Lcom/example/lapse/lapse/MarkingCode;"⟩ : MethodName)) (z := (⟨"com/example/lapse/lapse/MarkingCode", "widenedFor", "([J)Lcom/example/lapse/lapse/MarkingCode;"⟩ : MethodName)) hown (mvT hZ (hw _ (List.mem_of_getElem? (i := 38) rfl))) (mvT hZ (hw _ (List.mem_of_getElem? (i := 39) rfl))) (notFace_of_selects (args := #[]) (mvT hZ (hw _ (List.mem_of_getElem? (i := 41) rfl)))) (mvT hZ (hw _ (List.mem_of_getElem? (i := 41) rfl))) (mvT hZ (hw _ (List.mem_of_getElem? (i := 40) rfl))) (by decide) (backOf (W := 0) (own_wf1 l Z a0 hw [] b436 b430 am443 ((1 : Int64) <<< ((Int32.ofNat (kk.val + 1)) &&& 0x3f).toInt64) T443.heap n0 SZ443 hk30.2.2 fm443 f447 f445) hZ (hw _ (List.mem_of_getElem? (i := 42) rfl)) (hw _ (List.mem_of_getElem? (i := 12) rfl)) (by decide) (by decide)) q448a q448c (g := (mkF m 123 #[.val (.int w0), .val (.int g0), .val (.long a_), .second, .val (.long b_), .second, .val (.long c_), .second, .val (.int (1 : Int32)), .val (.int (1 : Int32)), .val (.int (Int32.ofNat (kk.val + 1))), .val (.long mt), .second, .val (.ref b422), .val (.ref b430), .val (.ref b436), .unset] [(.ref b430), (.ref b436)])) rfl (by rw [hml]; rfl) (Steps.refl _) (argsL := [(.ref b430)]) (rest := []) (lenOf own_pd_7 rfl) rfl (by show 2 * 0 + _ ≤ _; exact Nat.le_of_eq rfl) (hb hby at_123) (fun _ _ => ⟨rfl, rfl, (by decide : 7 + 5 ≤ _), (by decide : 22 + 14 ≤ _)⟩)
      dsimp only [Pt.U, Pt.locs, Pt.cells, Pt.slots] at X448 l448 y448 z448 st448 hQ448
      subst l448 y448 z448
      obtain ⟨bb448, rfl, N448q, gb448, K448, eb448, ba448, fm448, fa448⟩ := hQ448
      have N448 := Fr.app N443 N448q
      have f449 := f444.keep K448 nin0
      have f450 := f445.keep K448 nin0
      have f451 := f446.keep K448
      have f452 := fm443.keep K448 nin0
      have f453 := fw443.keep K448 nin0
      have f454 := fs443.keep K448 nin0
      have f455 := fl443.keep K448 nin0
      have f456 := f447.keep K448 nin0
      have f457 := Aw443.keep K448 nin0
      have f458 := As443.keep K448 nin0
      have SZ448 : n0 ≤ T448.heap.size := Nat.le_trans SZ443 K448.1
      refine own_by (fun t k => st448.trans k) ?_
      show own_Go p e below T448 (mkF m 126 #[.val (.int w0), .val (.int g0), .val (.long a_), .second, .val (.long b_), .second, .val (.long c_), .second, .val (.int (1 : Int32)), .val (.int (1 : Int32)), .val (.int (Int32.ofNat (kk.val + 1))), .val (.long mt), .second, .val (.ref b422), .val (.ref b430), .val (.ref b436), .unset] [(.ref bb448)]) _
      refine own_s_astore X448.here hx #[.val (.int w0), .val (.int g0), .val (.long a_), .second, .val (.long b_), .second, .val (.long c_), .second, .val (.int (1 : Int32)), .val (.int (1 : Int32)), .val (.int (Int32.ofNat (kk.val + 1))), .val (.long mt), .second, .val (.ref b422), .val (.ref b430), .val (.ref bb448), .unset] (hb hby at_126) rfl rfl ?_
      exact own_t1w hx hZ hw hby hml hown hnm hret hlk  w0 g0 (1 : Int32) (Int32.ofNat (kk.val + 1)) a_ b_ c_ mt b422 b430 bb448 ba448 (fun j => own_mo (own_wdf (own_f1 (31 : Int32) (((64 : Int32) - (own_f11 ((1 : Int64) <<< ((Int32.ofNat (kk.val + 1)) &&& 0x3f).toInt64))) + (1 : Int32))) j)) (own_b3 (own_f2 a_ mt) (own_f2 b_ (1 : Int64)) (own_f2 c_ (1 : Int64))) X448 rfl N448 SZ448 (by show (own_mo (own_f1 (31 : Int32) (((64 : Int32) - (own_f11 ((1 : Int64) <<< ((Int32.ofNat (kk.val + 1)) &&& 0x3f).toInt64))) + (1 : Int32)))).toInt64 = mt; rw [hk30.1, hk30.2.1, hmt]) eb448 fm448 fa448 f449
  ·
    show own_Go p e below T0 (mkF m 5 #[.val (.int w0), .val (.int g0), .val (.long a_), .second, .val (.long b_), .second, .val (.long c_), .second, .val (.int (2 : Int32)), .unset, .unset, .unset, .unset, .unset, .unset, .unset, .unset] []) _
    refine own_s_iloadN X0.here hx (hb hby at_5) rfl ?_
    refine own_s_iconst X0.here hx (1 : Int32) (hb hby at_6) rfl ?_
    refine own_s_iand X0.here hx (hb hby at_7) ?_
    by_cases hc8 : (g0 &&& (1 : Int32)) = 0
    ·
      show own_Go p e below T0 (mkF m 8 #[.val (.int w0), .val (.int g0), .val (.long a_), .second, .val (.long b_), .second, .val (.long c_), .second, .val (.int (2 : Int32)), .unset, .unset, .unset, .unset, .unset, .unset, .unset, .unset] [(.int (g0 &&& (1 : Int32)))]) _
      refine own_s_ifYes X0.here hx 15 (hb hby at_8) (Jvm.Free.XT.i0_eq_t hc8) (by decide) (by decide) ?_
      refine own_s_iconst X0.here hx (0 : Int32) (hb hby at_15) rfl ?_
      refine own_s_istore X0.here hx #[.val (.int w0), .val (.int g0), .val (.long a_), .second, .val (.long b_), .second, .val (.long c_), .second, .val (.int (2 : Int32)), .val (.int (0 : Int32)), .unset, .unset, .unset, .unset, .unset, .unset, .unset] (hb hby at_16) rfl ?_
      refine own_s_iloadN X0.here hx (hb hby at_18) rfl ?_
      refine own_s_iconst X0.here hx (1 : Int32) (hb hby at_19) rfl ?_
      refine own_s_iushr X0.here hx (hb hby at_20) ?_
      refine own_s_bipush X0.here hx (31 : Int32) (hb hby at_21) rfl ?_
      refine own_s_iand X0.here hx (hb hby at_23) ?_
      refine own_s_bipush X0.here hx (30 : Int32) (hb hby at_24) rfl ?_
      refine own_by (fun tq_ kq_ => iremM X0 hx rfl (hb hby at_26) rfl (by decide) kq_) ?_
      show own_Go p e below T0 (mkF m 27 #[.val (.int w0), .val (.int g0), .val (.long a_), .second, .val (.long b_), .second, .val (.long c_), .second, .val (.int (2 : Int32)), .val (.int (0 : Int32)), .unset, .unset, .unset, .unset, .unset, .unset, .unset] [(.int ((((g0.toUInt32 >>> ((1 : Int32) &&& 31).toUInt32).toInt32) &&& (31 : Int32)) % (30 : Int32)))]) _
      refine own_s_iconst X0.here hx (1 : Int32) (hb hby at_27) rfl ?_
      refine own_s_iadd X0.here hx (hb hby at_28) ?_
      refine own_s_istore X0.here hx #[.val (.int w0), .val (.int g0), .val (.long a_), .second, .val (.long b_), .second, .val (.long c_), .second, .val (.int (2 : Int32)), .val (.int (0 : Int32)), .val (.int (((((g0.toUInt32 >>> ((1 : Int32) &&& 31).toUInt32).toInt32) &&& (31 : Int32)) % (30 : Int32)) + (1 : Int32))), .unset, .unset, .unset, .unset, .unset, .unset] (hb hby at_29) rfl ?_
      obtain ⟨kk, hke⟩ := own_kb ((g0.toUInt32 >>> ((1 : Int32) &&& 31).toUInt32).toInt32)
      rw [hke]
      show own_Go p e below T0 (mkF m 31 #[.val (.int w0), .val (.int g0), .val (.long a_), .second, .val (.long b_), .second, .val (.long c_), .second, .val (.int (2 : Int32)), .val (.int (0 : Int32)), .val (.int (Int32.ofNat (kk.val + 1))), .unset, .unset, .unset, .unset, .unset, .unset] []) _
      refine own_s_iload X0.here hx (hb hby at_31) rfl ?_
      show own_Go p e below T0 (mkF m 33 #[.val (.int w0), .val (.int g0), .val (.long a_), .second, .val (.long b_), .second, .val (.long c_), .second, .val (.int (2 : Int32)), .val (.int (0 : Int32)), .val (.int (Int32.ofNat (kk.val + 1))), .unset, .unset, .unset, .unset, .unset, .unset] [(.int (0 : Int32))]) _
      refine own_s_ifYes X0.here hx 52 (hb hby at_33) (Jvm.Free.XT.i0_eq_t ((by decide))) (by decide) (by decide) ?_
      refine own_s_lconst X0.here hx (1 : Int64) (hb hby at_52) rfl ?_
      refine own_s_lstore X0.here hx #[.val (.int w0), .val (.int g0), .val (.long a_), .second, .val (.long b_), .second, .val (.long c_), .second, .val (.int (2 : Int32)), .val (.int (0 : Int32)), .val (.int (Int32.ofNat (kk.val + 1))), .val (.long (1 : Int64)), .second, .unset, .unset, .unset, .unset] (hb hby at_53) rfl ?_
      refine own_s_iconst X0.here hx (3 : Int32) (hb hby at_55) rfl ?_
      obtain ⟨T459, h459, k459, X459, e459, E459, A459, st459⟩ := newP X0 hx hZ (hw _ (List.mem_of_getElem? (i := 4) rfl)) e0 (g := (mkF m 56 #[.val (.int w0), .val (.int g0), .val (.long a_), .second, .val (.long b_), .second, .val (.long c_), .second, .val (.int (2 : Int32)), .val (.int (0 : Int32)), .val (.int (Int32.ofNat (kk.val + 1))), .val (.long (1 : Int64)), .second, .unset, .unset, .unset, .unset] [(.int (3 : Int32))])) rfl (hb hby at_56) rfl (by decide) (cap := 3) (by decide) (by decide) (by decide) (by decide)
      obtain ⟨b459, g459⟩ : ∃ z, z = h0.size := ⟨_, rfl⟩
      rw [← g459] at A459 st459
      have ge_b459 : n0 ≤ b459 := Nat.le_trans Z0 (Nat.le_of_eq g459.symm)
      have SZ459 : n0 ≤ h459.size := Nat.le_trans Z0 E459.1
      have f460 : own_Av Z h459 b459 .long 3 (fun _ => (.long (0 : Int64))) := own_Av.ofnew A459 (by decide) rfl
      refine own_by st459 ?_
      show own_Go p e below T459 (mkF m 58 #[.val (.int w0), .val (.int g0), .val (.long a_), .second, .val (.long b_), .second, .val (.long c_), .second, .val (.int (2 : Int32)), .val (.int (0 : Int32)), .val (.int (Int32.ofNat (kk.val + 1))), .val (.long (1 : Int64)), .second, .unset, .unset, .unset, .unset] [(.ref b459)]) _
      refine own_s_astore X459.here hx #[.val (.int w0), .val (.int g0), .val (.long a_), .second, .val (.long b_), .second, .val (.long c_), .second, .val (.int (2 : Int32)), .val (.int (0 : Int32)), .val (.int (Int32.ofNat (kk.val + 1))), .val (.long (1 : Int64)), .second, .val (.ref b459), .unset, .unset, .unset] (hb hby at_58) rfl rfl ?_
      refine own_s_aload X459.here hx (hb hby at_60) rfl rfl ?_
      refine own_s_iconst X459.here hx (0 : Int32) (hb hby at_62) rfl ?_
      refine own_s_lloadN X459.here hx (hb hby at_63) rfl ?_
      refine own_s_lload X459.here hx (hb hby at_64) rfl ?_
      obtain ⟨_, _, ⟨T461, L461, k461, n461⟩, -, X461, ⟨Lc461, hQ461, l461, y461, z461⟩, st461⟩ := Jvm.LawKit.callS X459 hx (y := (⟨"com/example/lapse/lapse/MarkingCodeFitsPinLaw", "draw", "(JJ)J"⟩ : MethodName)) hown (mvT hZ (hw _ (List.mem_of_getElem? (i := 5) rfl))) (mvT hZ (hw _ (List.mem_of_getElem? (i := 6) rfl))) (mvT hZ (hw _ (List.mem_of_getElem? (i := 7) rfl))) (mvT hZ (hw _ (List.mem_of_getElem? (i := 8) rfl))) (by decide) (backOf (W := 2) (own_r2 l Z a0 hw [] a_ (1 : Int64)  h459 n0 SZ459 ) hZ (hw _ (List.mem_of_getElem? (i := 8) rfl)) (hw _ (List.mem_of_getElem? (i := 7) rfl)) (by decide) (by decide)) (g := (mkF m 66 #[.val (.int w0), .val (.int g0), .val (.long a_), .second, .val (.long b_), .second, .val (.long c_), .second, .val (.int (2 : Int32)), .val (.int (0 : Int32)), .val (.int (Int32.ofNat (kk.val + 1))), .val (.long (1 : Int64)), .second, .val (.ref b459), .unset, .unset, .unset] [(.long (1 : Int64)), (.long a_), (.int (0 : Int32)), (.ref b459)])) rfl (by rw [hml]; rfl) (argsL := [(.long a_), (.long (1 : Int64))]) (rest := [(.int (0 : Int32)), (.ref b459)]) (lenOf own_pd_1 rfl) rfl (by show 2 * 0 + _ ≤ _; exact Nat.le_of_eq rfl) (hb hby at_66) (fun _ _ => ⟨rfl, e459, (by decide : 1 + 0 ≤ _), (by decide : 3 + 0 ≤ _)⟩)
      dsimp only [Pt.U, Pt.locs, Pt.cells, Pt.slots] at X461 l461 y461 z461 st461 hQ461
      subst l461 y461 z461
      obtain ⟨rfl, N461q, e461⟩ := hQ461
      have N461 := Fr.app N0 N461q
      refine own_by st461 ?_
      show own_Go p e below T461 (mkF m 69 #[.val (.int w0), .val (.int g0), .val (.long a_), .second, .val (.long b_), .second, .val (.long c_), .second, .val (.int (2 : Int32)), .val (.int (0 : Int32)), .val (.int (Int32.ofNat (kk.val + 1))), .val (.long (1 : Int64)), .second, .val (.ref b459), .unset, .unset, .unset] [(.long (own_f2 a_ (1 : Int64))), (.int (0 : Int32)), (.ref b459)]) _
      obtain ⟨T462, h462, X462, e462, W462, fa462, st462⟩ := own_stJ X461 hx hZ e461 f460 (k := 0) (by decide) (by decide) (g := (mkF m 69 #[.val (.int w0), .val (.int g0), .val (.long a_), .second, .val (.long b_), .second, .val (.long c_), .second, .val (.int (2 : Int32)), .val (.int (0 : Int32)), .val (.int (Int32.ofNat (kk.val + 1))), .val (.long (1 : Int64)), .second, .val (.ref b459), .unset, .unset, .unset] [(.long (own_f2 a_ (1 : Int64))), (.int (0 : Int32)), (.ref b459)])) rfl rfl (hb hby at_69)
      have N462 := Fr.snoc X462 N461 ge_b459
      have SZ462 : n0 ≤ h462.size := by rw [W462.size]; exact SZ459
      refine own_by st462 ?_
      show own_Go p e below T462 (mkF m 70 #[.val (.int w0), .val (.int g0), .val (.long a_), .second, .val (.long b_), .second, .val (.long c_), .second, .val (.int (2 : Int32)), .val (.int (0 : Int32)), .val (.int (Int32.ofNat (kk.val + 1))), .val (.long (1 : Int64)), .second, .val (.ref b459), .unset, .unset, .unset] []) _
      refine own_s_aload X462.here hx (hb hby at_70) rfl rfl ?_
      refine own_s_iconst X462.here hx (1 : Int32) (hb hby at_72) rfl ?_
      refine own_s_lload X462.here hx (hb hby at_73) rfl ?_
      refine own_s_lconst X462.here hx (1 : Int64) (hb hby at_75) rfl ?_
      obtain ⟨_, _, ⟨T463, L463, k463, n463⟩, -, X463, ⟨Lc463, hQ463, l463, y463, z463⟩, st463⟩ := Jvm.LawKit.callS X462 hx (y := (⟨"com/example/lapse/lapse/MarkingCodeFitsPinLaw", "draw", "(JJ)J"⟩ : MethodName)) hown (mvT hZ (hw _ (List.mem_of_getElem? (i := 5) rfl))) (mvT hZ (hw _ (List.mem_of_getElem? (i := 6) rfl))) (mvT hZ (hw _ (List.mem_of_getElem? (i := 7) rfl))) (mvT hZ (hw _ (List.mem_of_getElem? (i := 8) rfl))) (by decide) (backOf (W := 2) (own_r2 l Z a0 hw [] b_ (1 : Int64)  h462 n0 SZ462 ) hZ (hw _ (List.mem_of_getElem? (i := 8) rfl)) (hw _ (List.mem_of_getElem? (i := 7) rfl)) (by decide) (by decide)) (g := (mkF m 76 #[.val (.int w0), .val (.int g0), .val (.long a_), .second, .val (.long b_), .second, .val (.long c_), .second, .val (.int (2 : Int32)), .val (.int (0 : Int32)), .val (.int (Int32.ofNat (kk.val + 1))), .val (.long (1 : Int64)), .second, .val (.ref b459), .unset, .unset, .unset] [(.long (1 : Int64)), (.long b_), (.int (1 : Int32)), (.ref b459)])) rfl (by rw [hml]; rfl) (argsL := [(.long b_), (.long (1 : Int64))]) (rest := [(.int (1 : Int32)), (.ref b459)]) (lenOf own_pd_1 rfl) rfl (by show 2 * 0 + _ ≤ _; exact Nat.le_of_eq rfl) (hb hby at_76) (fun _ _ => ⟨rfl, e462, (by decide : 1 + 0 ≤ _), (by decide : 3 + 0 ≤ _)⟩)
      dsimp only [Pt.U, Pt.locs, Pt.cells, Pt.slots] at X463 l463 y463 z463 st463 hQ463
      subst l463 y463 z463
      obtain ⟨rfl, N463q, e463⟩ := hQ463
      have N463 := Fr.app N462 N463q
      refine own_by st463 ?_
      show own_Go p e below T463 (mkF m 79 #[.val (.int w0), .val (.int g0), .val (.long a_), .second, .val (.long b_), .second, .val (.long c_), .second, .val (.int (2 : Int32)), .val (.int (0 : Int32)), .val (.int (Int32.ofNat (kk.val + 1))), .val (.long (1 : Int64)), .second, .val (.ref b459), .unset, .unset, .unset] [(.long (own_f2 b_ (1 : Int64))), (.int (1 : Int32)), (.ref b459)]) _
      obtain ⟨T464, h464, X464, e464, W464, fa464, st464⟩ := own_stJ X463 hx hZ e463 fa462 (k := 1) (by decide) (by decide) (g := (mkF m 79 #[.val (.int w0), .val (.int g0), .val (.long a_), .second, .val (.long b_), .second, .val (.long c_), .second, .val (.int (2 : Int32)), .val (.int (0 : Int32)), .val (.int (Int32.ofNat (kk.val + 1))), .val (.long (1 : Int64)), .second, .val (.ref b459), .unset, .unset, .unset] [(.long (own_f2 b_ (1 : Int64))), (.int (1 : Int32)), (.ref b459)])) rfl rfl (hb hby at_79)
      have N464 := Fr.snoc X464 N463 ge_b459
      have SZ464 : n0 ≤ h464.size := by rw [W464.size]; exact SZ462
      refine own_by st464 ?_
      show own_Go p e below T464 (mkF m 80 #[.val (.int w0), .val (.int g0), .val (.long a_), .second, .val (.long b_), .second, .val (.long c_), .second, .val (.int (2 : Int32)), .val (.int (0 : Int32)), .val (.int (Int32.ofNat (kk.val + 1))), .val (.long (1 : Int64)), .second, .val (.ref b459), .unset, .unset, .unset] []) _
      refine own_s_aload X464.here hx (hb hby at_80) rfl rfl ?_
      refine own_s_iconst X464.here hx (2 : Int32) (hb hby at_82) rfl ?_
      refine own_s_lload X464.here hx (hb hby at_83) rfl ?_
      refine own_s_lconst X464.here hx (1 : Int64) (hb hby at_85) rfl ?_
      obtain ⟨_, _, ⟨T465, L465, k465, n465⟩, -, X465, ⟨Lc465, hQ465, l465, y465, z465⟩, st465⟩ := Jvm.LawKit.callS X464 hx (y := (⟨"com/example/lapse/lapse/MarkingCodeFitsPinLaw", "draw", "(JJ)J"⟩ : MethodName)) hown (mvT hZ (hw _ (List.mem_of_getElem? (i := 5) rfl))) (mvT hZ (hw _ (List.mem_of_getElem? (i := 6) rfl))) (mvT hZ (hw _ (List.mem_of_getElem? (i := 7) rfl))) (mvT hZ (hw _ (List.mem_of_getElem? (i := 8) rfl))) (by decide) (backOf (W := 2) (own_r2 l Z a0 hw [] c_ (1 : Int64)  h464 n0 SZ464 ) hZ (hw _ (List.mem_of_getElem? (i := 8) rfl)) (hw _ (List.mem_of_getElem? (i := 7) rfl)) (by decide) (by decide)) (g := (mkF m 86 #[.val (.int w0), .val (.int g0), .val (.long a_), .second, .val (.long b_), .second, .val (.long c_), .second, .val (.int (2 : Int32)), .val (.int (0 : Int32)), .val (.int (Int32.ofNat (kk.val + 1))), .val (.long (1 : Int64)), .second, .val (.ref b459), .unset, .unset, .unset] [(.long (1 : Int64)), (.long c_), (.int (2 : Int32)), (.ref b459)])) rfl (by rw [hml]; rfl) (argsL := [(.long c_), (.long (1 : Int64))]) (rest := [(.int (2 : Int32)), (.ref b459)]) (lenOf own_pd_1 rfl) rfl (by show 2 * 0 + _ ≤ _; exact Nat.le_of_eq rfl) (hb hby at_86) (fun _ _ => ⟨rfl, e464, (by decide : 1 + 0 ≤ _), (by decide : 3 + 0 ≤ _)⟩)
      dsimp only [Pt.U, Pt.locs, Pt.cells, Pt.slots] at X465 l465 y465 z465 st465 hQ465
      subst l465 y465 z465
      obtain ⟨rfl, N465q, e465⟩ := hQ465
      have N465 := Fr.app N464 N465q
      refine own_by st465 ?_
      show own_Go p e below T465 (mkF m 89 #[.val (.int w0), .val (.int g0), .val (.long a_), .second, .val (.long b_), .second, .val (.long c_), .second, .val (.int (2 : Int32)), .val (.int (0 : Int32)), .val (.int (Int32.ofNat (kk.val + 1))), .val (.long (1 : Int64)), .second, .val (.ref b459), .unset, .unset, .unset] [(.long (own_f2 c_ (1 : Int64))), (.int (2 : Int32)), (.ref b459)]) _
      obtain ⟨T466, h466, X466, e466, W466, fa466, st466⟩ := own_stJ X465 hx hZ e465 fa464 (k := 2) (by decide) (by decide) (g := (mkF m 89 #[.val (.int w0), .val (.int g0), .val (.long a_), .second, .val (.long b_), .second, .val (.long c_), .second, .val (.int (2 : Int32)), .val (.int (0 : Int32)), .val (.int (Int32.ofNat (kk.val + 1))), .val (.long (1 : Int64)), .second, .val (.ref b459), .unset, .unset, .unset] [(.long (own_f2 c_ (1 : Int64))), (.int (2 : Int32)), (.ref b459)])) rfl rfl (hb hby at_89)
      have N466 := Fr.snoc X466 N465 ge_b459
      have SZ466 : n0 ≤ h466.size := by rw [W466.size]; exact SZ464
      refine own_by st466 ?_
      show own_Go p e below T466 (mkF m 90 #[.val (.int w0), .val (.int g0), .val (.long a_), .second, .val (.long b_), .second, .val (.long c_), .second, .val (.int (2 : Int32)), .val (.int (0 : Int32)), .val (.int (Int32.ofNat (kk.val + 1))), .val (.long (1 : Int64)), .second, .val (.ref b459), .unset, .unset, .unset] []) _
      refine own_s_iconst X466.here hx (3 : Int32) (hb hby at_90) rfl ?_
      obtain ⟨T467, h467, k467, X467, e467, E467, A467, st467⟩ := newP X466 hx hZ (hw _ (List.mem_of_getElem? (i := 4) rfl)) e466 (g := (mkF m 91 #[.val (.int w0), .val (.int g0), .val (.long a_), .second, .val (.long b_), .second, .val (.long c_), .second, .val (.int (2 : Int32)), .val (.int (0 : Int32)), .val (.int (Int32.ofNat (kk.val + 1))), .val (.long (1 : Int64)), .second, .val (.ref b459), .unset, .unset, .unset] [(.int (3 : Int32))])) rfl (hb hby at_91) rfl (by decide) (cap := 3) (by decide) (by decide) (by decide) (by decide)
      obtain ⟨b467, g467⟩ : ∃ z, z = h466.size := ⟨_, rfl⟩
      rw [← g467] at A467 st467
      have ge_b467 : n0 ≤ b467 := Nat.le_trans SZ466 (Nat.le_of_eq g467.symm)
      have ne_b459_b467 : b459 ≠ b467 := Nat.ne_of_lt (Nat.lt_of_lt_of_le fa466.lt (Nat.le_of_eq g467.symm))
      have f468 := fa466.ext E467
      have SZ467 : n0 ≤ h467.size := Nat.le_trans SZ466 E467.1
      have f469 : own_Av Z h467 b467 .long 3 (fun _ => (.long (0 : Int64))) := own_Av.ofnew A467 (by decide) rfl
      refine own_by st467 ?_
      show own_Go p e below T467 (mkF m 93 #[.val (.int w0), .val (.int g0), .val (.long a_), .second, .val (.long b_), .second, .val (.long c_), .second, .val (.int (2 : Int32)), .val (.int (0 : Int32)), .val (.int (Int32.ofNat (kk.val + 1))), .val (.long (1 : Int64)), .second, .val (.ref b459), .unset, .unset, .unset] [(.ref b467)]) _
      refine own_s_astore X467.here hx #[.val (.int w0), .val (.int g0), .val (.long a_), .second, .val (.long b_), .second, .val (.long c_), .second, .val (.int (2 : Int32)), .val (.int (0 : Int32)), .val (.int (Int32.ofNat (kk.val + 1))), .val (.long (1 : Int64)), .second, .val (.ref b459), .val (.ref b467), .unset, .unset] (hb hby at_93) rfl rfl ?_
      refine own_s_aload X467.here hx (hb hby at_95) rfl rfl ?_
      refine own_s_iconst X467.here hx (0 : Int32) (hb hby at_97) rfl ?_
      refine own_s_lconst X467.here hx (1 : Int64) (hb hby at_98) rfl ?_
      refine own_s_iload X467.here hx (hb hby at_99) rfl ?_
      refine own_s_lshl X467.here hx (hb hby at_101) ?_
      obtain ⟨T470, h470, X470, e470, W470, fa470, st470⟩ := own_stJ X467 hx hZ e467 f469 (k := 0) (by decide) (by decide) (g := (mkF m 102 #[.val (.int w0), .val (.int g0), .val (.long a_), .second, .val (.long b_), .second, .val (.long c_), .second, .val (.int (2 : Int32)), .val (.int (0 : Int32)), .val (.int (Int32.ofNat (kk.val + 1))), .val (.long (1 : Int64)), .second, .val (.ref b459), .val (.ref b467), .unset, .unset] [(.long ((1 : Int64) <<< ((Int32.ofNat (kk.val + 1)) &&& 0x3f).toInt64)), (.int (0 : Int32)), (.ref b467)])) rfl rfl (hb hby at_102)
      have f471 := f468.other W470 ne_b459_b467
      have N470 := Fr.snoc X470 N466 ge_b467
      have SZ470 : n0 ≤ h470.size := by rw [W470.size]; exact SZ467
      refine own_by st470 ?_
      show own_Go p e below T470 (mkF m 103 #[.val (.int w0), .val (.int g0), .val (.long a_), .second, .val (.long b_), .second, .val (.long c_), .second, .val (.int (2 : Int32)), .val (.int (0 : Int32)), .val (.int (Int32.ofNat (kk.val + 1))), .val (.long (1 : Int64)), .second, .val (.ref b459), .val (.ref b467), .unset, .unset] []) _
      have f472 : own_Av Z h470 b459 .long 3 (fun j => .long ((own_b3 (own_f2 a_ (1 : Int64)) (own_f2 b_ (1 : Int64)) (own_f2 c_ (1 : Int64))) j)) := f471.cong rfl (fun j hj => by
        match j, hj with
        | 0, _ => rfl
        | 1, _ => rfl
        | 2, _ => rfl)
      obtain ⟨T473, h473, X473, e473, E473, A473, D473, -, st473⟩ := newO X470 hx hZ hown (hw _ (List.mem_of_getElem? (i := 10) rfl)) (hw _ (List.mem_of_getElem? (i := 11) rfl)) (hw _ (List.mem_of_getElem? (i := 12) rfl)) e470 (g := (mkF m 103 #[.val (.int w0), .val (.int g0), .val (.long a_), .second, .val (.long b_), .second, .val (.long c_), .second, .val (.int (2 : Int32)), .val (.int (0 : Int32)), .val (.int (Int32.ofNat (kk.val + 1))), .val (.long (1 : Int64)), .second, .val (.ref b459), .val (.ref b467), .unset, .unset] [])) rfl (hb hby at_103) (by decide) (by decide)
      obtain ⟨b473, g473⟩ : ∃ z, z = h470.size := ⟨_, rfl⟩
      rw [← g473] at A473 D473 st473
      have ge_b473 : n0 ≤ b473 := Nat.le_trans SZ470 (Nat.le_of_eq g473.symm)
      have ne_b459_b473 : b459 ≠ b473 := Nat.ne_of_lt (Nat.lt_of_lt_of_le f472.lt (Nat.le_of_eq g473.symm))
      have ne_b467_b473 : b467 ≠ b473 := Nat.ne_of_lt (Nat.lt_of_lt_of_le fa470.lt (Nat.le_of_eq g473.symm))
      have f474 := f472.ext E473
      have f475 := fa470.ext E473
      have SZ473 : n0 ≤ h473.size := Nat.le_trans SZ470 E473.1
      have f476 : Fld Z h473 b473 "com/example/lapse/lapse/MarkingCode" "most" "[I" .null := D473 (Or.inr (hw _ (List.mem_of_getElem? (i := 31) rfl))) (ty := (.array .int)) (by decide)
      have f477 : Fld Z h473 b473 "com/example/lapse/lapse/MarkingCode" "words" "[I" .null := D473 (Or.inr (hw _ (List.mem_of_getElem? (i := 33) rfl))) (ty := (.array .int)) (by decide)
      have f478 : Fld Z h473 b473 "com/example/lapse/lapse/MarkingCode" "shifts" "[I" .null := D473 (Or.inr (hw _ (List.mem_of_getElem? (i := 35) rfl))) (ty := (.array .int)) (by decide)
      have f479 : Fld Z h473 b473 "com/example/lapse/lapse/MarkingCode" "length" "I" (.int (0 : Int32)) := D473 (Or.inr (hw _ (List.mem_of_getElem? (i := 37) rfl))) (ty := .int) (by decide)
      refine own_by st473 ?_
      show own_Go p e below T473 (mkF m 106 #[.val (.int w0), .val (.int g0), .val (.long a_), .second, .val (.long b_), .second, .val (.long c_), .second, .val (.int (2 : Int32)), .val (.int (0 : Int32)), .val (.int (Int32.ofNat (kk.val + 1))), .val (.long (1 : Int64)), .second, .val (.ref b459), .val (.ref b467), .unset, .unset] [(.ref b473)]) _
      refine own_s_dup X473.here hx (hb hby at_106) rfl ?_
      refine own_s_iload X473.here hx (hb hby at_107) rfl ?_
      obtain ⟨_, _, ⟨T480, L480, k480, n480⟩, -, X480, ⟨Lc480, hQ480, l480, y480, z480⟩, st480⟩ := X473.specialBack hx (y := (⟨"com/example/lapse/lapse/MarkingCode", "<init>", "(I)V"⟩ : MethodName)) rfl hown (mvT hZ (hw _ (List.mem_of_getElem? (i := 13) rfl))) (mvT hZ (hw _ (List.mem_of_getElem? (i := 14) rfl))) (mvT hZ (hw _ (List.mem_of_getElem? (i := 15) rfl))) (by decide) (backOf (W := 1) (own_r3 l Z a0 hw [] b473 (2 : Int32) 2 h473 n0 SZ473 (by decide) (by decide) (by decide) A473 f476 f477 f478 f479 ge_b473) hZ (hw _ (List.mem_of_getElem? (i := 15) rfl)) (hw _ (List.mem_of_getElem? (i := 12) rfl)) (by decide) (by decide)) (g := (mkF m 109 #[.val (.int w0), .val (.int g0), .val (.long a_), .second, .val (.long b_), .second, .val (.long c_), .second, .val (.int (2 : Int32)), .val (.int (0 : Int32)), .val (.int (Int32.ofNat (kk.val + 1))), .val (.long (1 : Int64)), .second, .val (.ref b459), .val (.ref b467), .unset, .unset] [(.int (2 : Int32)), (.ref b473), (.ref b473)])) rfl (by rw [hml]; rfl) (Steps.refl _) (a := b473) (argsL := [(.int (2 : Int32))]) (rest := [(.ref b473)]) (lenOf own_pd_2 rfl) rfl (by show 2 * 0 + _ ≤ _; exact Nat.le_of_eq rfl) (hb hby at_109) (fun _ _ => ⟨rfl, e473, (by decide : 3 + 4 ≤ _), (by decide : 10 + 12 ≤ _)⟩)
      dsimp only [Pt.U, Pt.locs, Pt.cells, Pt.slots] at X480 l480 y480 z480 st480 hQ480
      subst l480 y480 z480
      obtain ⟨rfl, N480q, K480, am480, aw480, as480, gm480, gw480, gs480, zm480, zw480, zs480, nmw480, nms480, nws480, fm480, Am480, fw480, Aw480, fs480, As480, fl480⟩ := hQ480
      have N480 := Fr.app N470 N480q
      have f481 := f474.keep K480 (ninS ne_b459_b473 nin0)
      have f482 := f475.keep K480 (ninS ne_b467_b473 nin0)
      have f483 := A473.keep K480
      have SZ480 : n0 ≤ T480.heap.size := Nat.le_trans SZ473 K480.1
      refine own_by (fun t k => st480.trans k) ?_
      have ne_b459_am480 : b459 ≠ am480 := Nat.ne_of_lt (Nat.lt_of_lt_of_le f474.lt zm480)
      have ne_b467_am480 : b467 ≠ am480 := Nat.ne_of_lt (Nat.lt_of_lt_of_le f475.lt zm480)
      have ne_b473_am480 : b473 ≠ am480 := Nat.ne_of_lt (Nat.lt_of_lt_of_le A473.lt zm480)
      have ne_b459_aw480 : b459 ≠ aw480 := Nat.ne_of_lt (Nat.lt_of_lt_of_le f474.lt zw480)
      have ne_b467_aw480 : b467 ≠ aw480 := Nat.ne_of_lt (Nat.lt_of_lt_of_le f475.lt zw480)
      have ne_b473_aw480 : b473 ≠ aw480 := Nat.ne_of_lt (Nat.lt_of_lt_of_le A473.lt zw480)
      have ne_b459_as480 : b459 ≠ as480 := Nat.ne_of_lt (Nat.lt_of_lt_of_le f474.lt zs480)
      have ne_b467_as480 : b467 ≠ as480 := Nat.ne_of_lt (Nat.lt_of_lt_of_le f475.lt zs480)
      have ne_b473_as480 : b473 ≠ as480 := Nat.ne_of_lt (Nat.lt_of_lt_of_le A473.lt zs480)
      show own_Go p e below T480 (mkF m 112 #[.val (.int w0), .val (.int g0), .val (.long a_), .second, .val (.long b_), .second, .val (.long c_), .second, .val (.int (2 : Int32)), .val (.int (0 : Int32)), .val (.int (Int32.ofNat (kk.val + 1))), .val (.long (1 : Int64)), .second, .val (.ref b459), .val (.ref b467), .unset, .unset] [(.ref b473)]) _
      refine own_s_astore X480.here hx #[.val (.int w0), .val (.int g0), .val (.long a_), .second, .val (.long b_), .second, .val (.long c_), .second, .val (.int (2 : Int32)), .val (.int (0 : Int32)), .val (.int (Int32.ofNat (kk.val + 1))), .val (.long (1 : Int64)), .second, .val (.ref b459), .val (.ref b467), .val (.ref b473), .unset] (hb hby at_112) rfl rfl ?_
      have f484 : own_Av Z T480.heap am480 .int 2 (fun _ => .int (1 : Int32)) := Am480.cong rfl (fun j _ => congrArg Value.int own_mo1)
      refine own_s_iload X480.here hx (hb hby at_114) rfl ?_
      show own_Go p e below T480 (mkF m 116 #[.val (.int w0), .val (.int g0), .val (.long a_), .second, .val (.long b_), .second, .val (.long c_), .second, .val (.int (2 : Int32)), .val (.int (0 : Int32)), .val (.int (Int32.ofNat (kk.val + 1))), .val (.long (1 : Int64)), .second, .val (.ref b459), .val (.ref b467), .val (.ref b473), .unset] [(.int (0 : Int32))]) _
      refine own_s_ifYes X480.here hx 128 (hb hby at_116) (Jvm.Free.XT.i0_eq_t ((by decide))) (by decide) (by decide) ?_
      exact own_t2n hx hZ hw hby hml hown hnm hret hlk  w0 g0 (0 : Int32) (Int32.ofNat (kk.val + 1)) a_ b_ c_ (1 : Int64) b459 b467 b473 am480 (fun _ => (1 : Int32)) (own_b3 (own_f2 a_ (1 : Int64)) (own_f2 b_ (1 : Int64)) (own_f2 c_ (1 : Int64))) X480 rfl N480 SZ480 (by decide) (by decide) f483 fm480 f484 f481
    ·
      refine own_s_ifNo X0.here hx (hb hby at_8) (Jvm.Free.XT.i0_eq_f hc8) ?_
      refine own_s_iconst X0.here hx (1 : Int32) (hb hby at_11) rfl ?_
      show own_Go p e below T0 (mkF m 12 #[.val (.int w0), .val (.int g0), .val (.long a_), .second, .val (.long b_), .second, .val (.long c_), .second, .val (.int (2 : Int32)), .unset, .unset, .unset, .unset, .unset, .unset, .unset, .unset] [(.int (1 : Int32))]) _
      refine own_s_goto X0.here hx 16 (hb hby at_12) (by decide) (by decide) ?_
      refine own_s_istore X0.here hx #[.val (.int w0), .val (.int g0), .val (.long a_), .second, .val (.long b_), .second, .val (.long c_), .second, .val (.int (2 : Int32)), .val (.int (1 : Int32)), .unset, .unset, .unset, .unset, .unset, .unset, .unset] (hb hby at_16) rfl ?_
      refine own_s_iloadN X0.here hx (hb hby at_18) rfl ?_
      refine own_s_iconst X0.here hx (1 : Int32) (hb hby at_19) rfl ?_
      refine own_s_iushr X0.here hx (hb hby at_20) ?_
      refine own_s_bipush X0.here hx (31 : Int32) (hb hby at_21) rfl ?_
      refine own_s_iand X0.here hx (hb hby at_23) ?_
      refine own_s_bipush X0.here hx (30 : Int32) (hb hby at_24) rfl ?_
      refine own_by (fun tq_ kq_ => iremM X0 hx rfl (hb hby at_26) rfl (by decide) kq_) ?_
      show own_Go p e below T0 (mkF m 27 #[.val (.int w0), .val (.int g0), .val (.long a_), .second, .val (.long b_), .second, .val (.long c_), .second, .val (.int (2 : Int32)), .val (.int (1 : Int32)), .unset, .unset, .unset, .unset, .unset, .unset, .unset] [(.int ((((g0.toUInt32 >>> ((1 : Int32) &&& 31).toUInt32).toInt32) &&& (31 : Int32)) % (30 : Int32)))]) _
      refine own_s_iconst X0.here hx (1 : Int32) (hb hby at_27) rfl ?_
      refine own_s_iadd X0.here hx (hb hby at_28) ?_
      refine own_s_istore X0.here hx #[.val (.int w0), .val (.int g0), .val (.long a_), .second, .val (.long b_), .second, .val (.long c_), .second, .val (.int (2 : Int32)), .val (.int (1 : Int32)), .val (.int (((((g0.toUInt32 >>> ((1 : Int32) &&& 31).toUInt32).toInt32) &&& (31 : Int32)) % (30 : Int32)) + (1 : Int32))), .unset, .unset, .unset, .unset, .unset, .unset] (hb hby at_29) rfl ?_
      obtain ⟨kk, hke⟩ := own_kb ((g0.toUInt32 >>> ((1 : Int32) &&& 31).toUInt32).toInt32)
      rw [hke]
      show own_Go p e below T0 (mkF m 31 #[.val (.int w0), .val (.int g0), .val (.long a_), .second, .val (.long b_), .second, .val (.long c_), .second, .val (.int (2 : Int32)), .val (.int (1 : Int32)), .val (.int (Int32.ofNat (kk.val + 1))), .unset, .unset, .unset, .unset, .unset, .unset] []) _
      refine own_s_iload X0.here hx (hb hby at_31) rfl ?_
      refine own_s_ifNo X0.here hx (hb hby at_33) (Jvm.Free.XT.i0_eq_f ((by decide))) ?_
      refine own_s_lconst X0.here hx (1 : Int64) (hb hby at_36) rfl ?_
      refine own_s_bipush X0.here hx (31 : Int32) (hb hby at_37) rfl ?_
      refine own_s_iload X0.here hx (hb hby at_39) rfl ?_
      refine own_s_iconst X0.here hx (2 : Int32) (hb hby at_41) rfl ?_
      refine own_s_iadd X0.here hx (hb hby at_42) ?_
      obtain ⟨_, _, ⟨T485, L485, k485, n485⟩, -, X485, ⟨Lc485, hQ485, l485, y485, z485⟩, st485⟩ := Jvm.LawKit.callS X0 hx (y := (⟨"java/lang/Math", "min", "(II)I"⟩ : MethodName)) hown (mvT hZ (hw _ (List.mem_of_getElem? (i := 0) rfl))) (mvT hZ (hw _ (List.mem_of_getElem? (i := 1) rfl))) (mvT hZ (hw _ (List.mem_of_getElem? (i := 2) rfl))) (mvT hZ (hw _ (List.mem_of_getElem? (i := 3) rfl))) (by decide) (backOf (W := 2) (own_r1 l Z a0 hw [] (31 : Int32) ((Int32.ofNat (kk.val + 1)) + (2 : Int32))  h0 n0 Z0 ) hZ (hw _ (List.mem_of_getElem? (i := 3) rfl)) (hw _ (List.mem_of_getElem? (i := 2) rfl)) (by decide) (by decide)) (g := (mkF m 43 #[.val (.int w0), .val (.int g0), .val (.long a_), .second, .val (.long b_), .second, .val (.long c_), .second, .val (.int (2 : Int32)), .val (.int (1 : Int32)), .val (.int (Int32.ofNat (kk.val + 1))), .unset, .unset, .unset, .unset, .unset, .unset] [(.int ((Int32.ofNat (kk.val + 1)) + (2 : Int32))), (.int (31 : Int32)), (.long (1 : Int64))])) rfl (by rw [hml]; rfl) (argsL := [(.int (31 : Int32)), (.int ((Int32.ofNat (kk.val + 1)) + (2 : Int32)))]) (rest := [(.long (1 : Int64))]) (lenOf own_pd_0 rfl) rfl (by show 2 * 0 + _ ≤ _; exact Nat.le_of_eq rfl) (hb hby at_43) (fun _ _ => ⟨rfl, e0, (by decide : 0 + 0 ≤ _), (by decide : 0 + 0 ≤ _)⟩)
      dsimp only [Pt.U, Pt.locs, Pt.cells, Pt.slots] at X485 l485 y485 z485 st485 hQ485
      subst l485 y485 z485
      obtain ⟨rfl, N485q, e485⟩ := hQ485
      have N485 := Fr.app N0 N485q
      refine own_by st485 ?_
      show own_Go p e below T485 (mkF m 46 #[.val (.int w0), .val (.int g0), .val (.long a_), .second, .val (.long b_), .second, .val (.long c_), .second, .val (.int (2 : Int32)), .val (.int (1 : Int32)), .val (.int (Int32.ofNat (kk.val + 1))), .unset, .unset, .unset, .unset, .unset, .unset] [(.int (own_f1 (31 : Int32) ((Int32.ofNat (kk.val + 1)) + (2 : Int32)))), (.long (1 : Int64))]) _
      refine own_s_lshl X485.here hx (hb hby at_46) ?_
      refine own_s_lconst X485.here hx (1 : Int64) (hb hby at_47) rfl ?_
      refine own_s_lsub X485.here hx (hb hby at_48) ?_
      show own_Go p e below T485 (mkF m 49 #[.val (.int w0), .val (.int g0), .val (.long a_), .second, .val (.long b_), .second, .val (.long c_), .second, .val (.int (2 : Int32)), .val (.int (1 : Int32)), .val (.int (Int32.ofNat (kk.val + 1))), .unset, .unset, .unset, .unset, .unset, .unset] [(.long (((1 : Int64) <<< ((own_f1 (31 : Int32) ((Int32.ofNat (kk.val + 1)) + (2 : Int32))) &&& 0x3f).toInt64) - (1 : Int64)))]) _
      refine own_s_goto X485.here hx 53 (hb hby at_49) (by decide) (by decide) ?_
      refine own_s_lstore X485.here hx #[.val (.int w0), .val (.int g0), .val (.long a_), .second, .val (.long b_), .second, .val (.long c_), .second, .val (.int (2 : Int32)), .val (.int (1 : Int32)), .val (.int (Int32.ofNat (kk.val + 1))), .val (.long (((1 : Int64) <<< ((own_f1 (31 : Int32) ((Int32.ofNat (kk.val + 1)) + (2 : Int32))) &&& 0x3f).toInt64) - (1 : Int64))), .second, .unset, .unset, .unset, .unset] (hb hby at_53) rfl ?_
      have hk30 := own_k30 kk
      generalize hmt : (((1 : Int64) <<< ((own_f1 (31 : Int32) ((Int32.ofNat (kk.val + 1)) + (2 : Int32))) &&& 0x3f).toInt64) - (1 : Int64)) = mt
      show own_Go p e below T485 (mkF m 55 #[.val (.int w0), .val (.int g0), .val (.long a_), .second, .val (.long b_), .second, .val (.long c_), .second, .val (.int (2 : Int32)), .val (.int (1 : Int32)), .val (.int (Int32.ofNat (kk.val + 1))), .val (.long mt), .second, .unset, .unset, .unset, .unset] []) _
      refine own_s_iconst X485.here hx (3 : Int32) (hb hby at_55) rfl ?_
      obtain ⟨T486, h486, k486, X486, e486, E486, A486, st486⟩ := newP X485 hx hZ (hw _ (List.mem_of_getElem? (i := 4) rfl)) e485 (g := (mkF m 56 #[.val (.int w0), .val (.int g0), .val (.long a_), .second, .val (.long b_), .second, .val (.long c_), .second, .val (.int (2 : Int32)), .val (.int (1 : Int32)), .val (.int (Int32.ofNat (kk.val + 1))), .val (.long mt), .second, .unset, .unset, .unset, .unset] [(.int (3 : Int32))])) rfl (hb hby at_56) rfl (by decide) (cap := 3) (by decide) (by decide) (by decide) (by decide)
      obtain ⟨b486, g486⟩ : ∃ z, z = h0.size := ⟨_, rfl⟩
      rw [← g486] at A486 st486
      have ge_b486 : n0 ≤ b486 := Nat.le_trans Z0 (Nat.le_of_eq g486.symm)
      have SZ486 : n0 ≤ h486.size := Nat.le_trans Z0 E486.1
      have f487 : own_Av Z h486 b486 .long 3 (fun _ => (.long (0 : Int64))) := own_Av.ofnew A486 (by decide) rfl
      refine own_by st486 ?_
      show own_Go p e below T486 (mkF m 58 #[.val (.int w0), .val (.int g0), .val (.long a_), .second, .val (.long b_), .second, .val (.long c_), .second, .val (.int (2 : Int32)), .val (.int (1 : Int32)), .val (.int (Int32.ofNat (kk.val + 1))), .val (.long mt), .second, .unset, .unset, .unset, .unset] [(.ref b486)]) _
      refine own_s_astore X486.here hx #[.val (.int w0), .val (.int g0), .val (.long a_), .second, .val (.long b_), .second, .val (.long c_), .second, .val (.int (2 : Int32)), .val (.int (1 : Int32)), .val (.int (Int32.ofNat (kk.val + 1))), .val (.long mt), .second, .val (.ref b486), .unset, .unset, .unset] (hb hby at_58) rfl rfl ?_
      refine own_s_aload X486.here hx (hb hby at_60) rfl rfl ?_
      refine own_s_iconst X486.here hx (0 : Int32) (hb hby at_62) rfl ?_
      refine own_s_lloadN X486.here hx (hb hby at_63) rfl ?_
      refine own_s_lload X486.here hx (hb hby at_64) rfl ?_
      obtain ⟨_, _, ⟨T488, L488, k488, n488⟩, -, X488, ⟨Lc488, hQ488, l488, y488, z488⟩, st488⟩ := Jvm.LawKit.callS X486 hx (y := (⟨"com/example/lapse/lapse/MarkingCodeFitsPinLaw", "draw", "(JJ)J"⟩ : MethodName)) hown (mvT hZ (hw _ (List.mem_of_getElem? (i := 5) rfl))) (mvT hZ (hw _ (List.mem_of_getElem? (i := 6) rfl))) (mvT hZ (hw _ (List.mem_of_getElem? (i := 7) rfl))) (mvT hZ (hw _ (List.mem_of_getElem? (i := 8) rfl))) (by decide) (backOf (W := 2) (own_r2 l Z a0 hw [] a_ mt  h486 n0 SZ486 ) hZ (hw _ (List.mem_of_getElem? (i := 8) rfl)) (hw _ (List.mem_of_getElem? (i := 7) rfl)) (by decide) (by decide)) (g := (mkF m 66 #[.val (.int w0), .val (.int g0), .val (.long a_), .second, .val (.long b_), .second, .val (.long c_), .second, .val (.int (2 : Int32)), .val (.int (1 : Int32)), .val (.int (Int32.ofNat (kk.val + 1))), .val (.long mt), .second, .val (.ref b486), .unset, .unset, .unset] [(.long mt), (.long a_), (.int (0 : Int32)), (.ref b486)])) rfl (by rw [hml]; rfl) (argsL := [(.long a_), (.long mt)]) (rest := [(.int (0 : Int32)), (.ref b486)]) (lenOf own_pd_1 rfl) rfl (by show 2 * 0 + _ ≤ _; exact Nat.le_of_eq rfl) (hb hby at_66) (fun _ _ => ⟨rfl, e486, (by decide : 1 + 0 ≤ _), (by decide : 3 + 0 ≤ _)⟩)
      dsimp only [Pt.U, Pt.locs, Pt.cells, Pt.slots] at X488 l488 y488 z488 st488 hQ488
      subst l488 y488 z488
      obtain ⟨rfl, N488q, e488⟩ := hQ488
      have N488 := Fr.app N485 N488q
      refine own_by st488 ?_
      show own_Go p e below T488 (mkF m 69 #[.val (.int w0), .val (.int g0), .val (.long a_), .second, .val (.long b_), .second, .val (.long c_), .second, .val (.int (2 : Int32)), .val (.int (1 : Int32)), .val (.int (Int32.ofNat (kk.val + 1))), .val (.long mt), .second, .val (.ref b486), .unset, .unset, .unset] [(.long (own_f2 a_ mt)), (.int (0 : Int32)), (.ref b486)]) _
      obtain ⟨T489, h489, X489, e489, W489, fa489, st489⟩ := own_stJ X488 hx hZ e488 f487 (k := 0) (by decide) (by decide) (g := (mkF m 69 #[.val (.int w0), .val (.int g0), .val (.long a_), .second, .val (.long b_), .second, .val (.long c_), .second, .val (.int (2 : Int32)), .val (.int (1 : Int32)), .val (.int (Int32.ofNat (kk.val + 1))), .val (.long mt), .second, .val (.ref b486), .unset, .unset, .unset] [(.long (own_f2 a_ mt)), (.int (0 : Int32)), (.ref b486)])) rfl rfl (hb hby at_69)
      have N489 := Fr.snoc X489 N488 ge_b486
      have SZ489 : n0 ≤ h489.size := by rw [W489.size]; exact SZ486
      refine own_by st489 ?_
      show own_Go p e below T489 (mkF m 70 #[.val (.int w0), .val (.int g0), .val (.long a_), .second, .val (.long b_), .second, .val (.long c_), .second, .val (.int (2 : Int32)), .val (.int (1 : Int32)), .val (.int (Int32.ofNat (kk.val + 1))), .val (.long mt), .second, .val (.ref b486), .unset, .unset, .unset] []) _
      refine own_s_aload X489.here hx (hb hby at_70) rfl rfl ?_
      refine own_s_iconst X489.here hx (1 : Int32) (hb hby at_72) rfl ?_
      refine own_s_lload X489.here hx (hb hby at_73) rfl ?_
      refine own_s_lconst X489.here hx (1 : Int64) (hb hby at_75) rfl ?_
      obtain ⟨_, _, ⟨T490, L490, k490, n490⟩, -, X490, ⟨Lc490, hQ490, l490, y490, z490⟩, st490⟩ := Jvm.LawKit.callS X489 hx (y := (⟨"com/example/lapse/lapse/MarkingCodeFitsPinLaw", "draw", "(JJ)J"⟩ : MethodName)) hown (mvT hZ (hw _ (List.mem_of_getElem? (i := 5) rfl))) (mvT hZ (hw _ (List.mem_of_getElem? (i := 6) rfl))) (mvT hZ (hw _ (List.mem_of_getElem? (i := 7) rfl))) (mvT hZ (hw _ (List.mem_of_getElem? (i := 8) rfl))) (by decide) (backOf (W := 2) (own_r2 l Z a0 hw [] b_ (1 : Int64)  h489 n0 SZ489 ) hZ (hw _ (List.mem_of_getElem? (i := 8) rfl)) (hw _ (List.mem_of_getElem? (i := 7) rfl)) (by decide) (by decide)) (g := (mkF m 76 #[.val (.int w0), .val (.int g0), .val (.long a_), .second, .val (.long b_), .second, .val (.long c_), .second, .val (.int (2 : Int32)), .val (.int (1 : Int32)), .val (.int (Int32.ofNat (kk.val + 1))), .val (.long mt), .second, .val (.ref b486), .unset, .unset, .unset] [(.long (1 : Int64)), (.long b_), (.int (1 : Int32)), (.ref b486)])) rfl (by rw [hml]; rfl) (argsL := [(.long b_), (.long (1 : Int64))]) (rest := [(.int (1 : Int32)), (.ref b486)]) (lenOf own_pd_1 rfl) rfl (by show 2 * 0 + _ ≤ _; exact Nat.le_of_eq rfl) (hb hby at_76) (fun _ _ => ⟨rfl, e489, (by decide : 1 + 0 ≤ _), (by decide : 3 + 0 ≤ _)⟩)
      dsimp only [Pt.U, Pt.locs, Pt.cells, Pt.slots] at X490 l490 y490 z490 st490 hQ490
      subst l490 y490 z490
      obtain ⟨rfl, N490q, e490⟩ := hQ490
      have N490 := Fr.app N489 N490q
      refine own_by st490 ?_
      show own_Go p e below T490 (mkF m 79 #[.val (.int w0), .val (.int g0), .val (.long a_), .second, .val (.long b_), .second, .val (.long c_), .second, .val (.int (2 : Int32)), .val (.int (1 : Int32)), .val (.int (Int32.ofNat (kk.val + 1))), .val (.long mt), .second, .val (.ref b486), .unset, .unset, .unset] [(.long (own_f2 b_ (1 : Int64))), (.int (1 : Int32)), (.ref b486)]) _
      obtain ⟨T491, h491, X491, e491, W491, fa491, st491⟩ := own_stJ X490 hx hZ e490 fa489 (k := 1) (by decide) (by decide) (g := (mkF m 79 #[.val (.int w0), .val (.int g0), .val (.long a_), .second, .val (.long b_), .second, .val (.long c_), .second, .val (.int (2 : Int32)), .val (.int (1 : Int32)), .val (.int (Int32.ofNat (kk.val + 1))), .val (.long mt), .second, .val (.ref b486), .unset, .unset, .unset] [(.long (own_f2 b_ (1 : Int64))), (.int (1 : Int32)), (.ref b486)])) rfl rfl (hb hby at_79)
      have N491 := Fr.snoc X491 N490 ge_b486
      have SZ491 : n0 ≤ h491.size := by rw [W491.size]; exact SZ489
      refine own_by st491 ?_
      show own_Go p e below T491 (mkF m 80 #[.val (.int w0), .val (.int g0), .val (.long a_), .second, .val (.long b_), .second, .val (.long c_), .second, .val (.int (2 : Int32)), .val (.int (1 : Int32)), .val (.int (Int32.ofNat (kk.val + 1))), .val (.long mt), .second, .val (.ref b486), .unset, .unset, .unset] []) _
      refine own_s_aload X491.here hx (hb hby at_80) rfl rfl ?_
      refine own_s_iconst X491.here hx (2 : Int32) (hb hby at_82) rfl ?_
      refine own_s_lload X491.here hx (hb hby at_83) rfl ?_
      refine own_s_lconst X491.here hx (1 : Int64) (hb hby at_85) rfl ?_
      obtain ⟨_, _, ⟨T492, L492, k492, n492⟩, -, X492, ⟨Lc492, hQ492, l492, y492, z492⟩, st492⟩ := Jvm.LawKit.callS X491 hx (y := (⟨"com/example/lapse/lapse/MarkingCodeFitsPinLaw", "draw", "(JJ)J"⟩ : MethodName)) hown (mvT hZ (hw _ (List.mem_of_getElem? (i := 5) rfl))) (mvT hZ (hw _ (List.mem_of_getElem? (i := 6) rfl))) (mvT hZ (hw _ (List.mem_of_getElem? (i := 7) rfl))) (mvT hZ (hw _ (List.mem_of_getElem? (i := 8) rfl))) (by decide) (backOf (W := 2) (own_r2 l Z a0 hw [] c_ (1 : Int64)  h491 n0 SZ491 ) hZ (hw _ (List.mem_of_getElem? (i := 8) rfl)) (hw _ (List.mem_of_getElem? (i := 7) rfl)) (by decide) (by decide)) (g := (mkF m 86 #[.val (.int w0), .val (.int g0), .val (.long a_), .second, .val (.long b_), .second, .val (.long c_), .second, .val (.int (2 : Int32)), .val (.int (1 : Int32)), .val (.int (Int32.ofNat (kk.val + 1))), .val (.long mt), .second, .val (.ref b486), .unset, .unset, .unset] [(.long (1 : Int64)), (.long c_), (.int (2 : Int32)), (.ref b486)])) rfl (by rw [hml]; rfl) (argsL := [(.long c_), (.long (1 : Int64))]) (rest := [(.int (2 : Int32)), (.ref b486)]) (lenOf own_pd_1 rfl) rfl (by show 2 * 0 + _ ≤ _; exact Nat.le_of_eq rfl) (hb hby at_86) (fun _ _ => ⟨rfl, e491, (by decide : 1 + 0 ≤ _), (by decide : 3 + 0 ≤ _)⟩)
      dsimp only [Pt.U, Pt.locs, Pt.cells, Pt.slots] at X492 l492 y492 z492 st492 hQ492
      subst l492 y492 z492
      obtain ⟨rfl, N492q, e492⟩ := hQ492
      have N492 := Fr.app N491 N492q
      refine own_by st492 ?_
      show own_Go p e below T492 (mkF m 89 #[.val (.int w0), .val (.int g0), .val (.long a_), .second, .val (.long b_), .second, .val (.long c_), .second, .val (.int (2 : Int32)), .val (.int (1 : Int32)), .val (.int (Int32.ofNat (kk.val + 1))), .val (.long mt), .second, .val (.ref b486), .unset, .unset, .unset] [(.long (own_f2 c_ (1 : Int64))), (.int (2 : Int32)), (.ref b486)]) _
      obtain ⟨T493, h493, X493, e493, W493, fa493, st493⟩ := own_stJ X492 hx hZ e492 fa491 (k := 2) (by decide) (by decide) (g := (mkF m 89 #[.val (.int w0), .val (.int g0), .val (.long a_), .second, .val (.long b_), .second, .val (.long c_), .second, .val (.int (2 : Int32)), .val (.int (1 : Int32)), .val (.int (Int32.ofNat (kk.val + 1))), .val (.long mt), .second, .val (.ref b486), .unset, .unset, .unset] [(.long (own_f2 c_ (1 : Int64))), (.int (2 : Int32)), (.ref b486)])) rfl rfl (hb hby at_89)
      have N493 := Fr.snoc X493 N492 ge_b486
      have SZ493 : n0 ≤ h493.size := by rw [W493.size]; exact SZ491
      refine own_by st493 ?_
      show own_Go p e below T493 (mkF m 90 #[.val (.int w0), .val (.int g0), .val (.long a_), .second, .val (.long b_), .second, .val (.long c_), .second, .val (.int (2 : Int32)), .val (.int (1 : Int32)), .val (.int (Int32.ofNat (kk.val + 1))), .val (.long mt), .second, .val (.ref b486), .unset, .unset, .unset] []) _
      refine own_s_iconst X493.here hx (3 : Int32) (hb hby at_90) rfl ?_
      obtain ⟨T494, h494, k494, X494, e494, E494, A494, st494⟩ := newP X493 hx hZ (hw _ (List.mem_of_getElem? (i := 4) rfl)) e493 (g := (mkF m 91 #[.val (.int w0), .val (.int g0), .val (.long a_), .second, .val (.long b_), .second, .val (.long c_), .second, .val (.int (2 : Int32)), .val (.int (1 : Int32)), .val (.int (Int32.ofNat (kk.val + 1))), .val (.long mt), .second, .val (.ref b486), .unset, .unset, .unset] [(.int (3 : Int32))])) rfl (hb hby at_91) rfl (by decide) (cap := 3) (by decide) (by decide) (by decide) (by decide)
      obtain ⟨b494, g494⟩ : ∃ z, z = h493.size := ⟨_, rfl⟩
      rw [← g494] at A494 st494
      have ge_b494 : n0 ≤ b494 := Nat.le_trans SZ493 (Nat.le_of_eq g494.symm)
      have ne_b486_b494 : b486 ≠ b494 := Nat.ne_of_lt (Nat.lt_of_lt_of_le fa493.lt (Nat.le_of_eq g494.symm))
      have f495 := fa493.ext E494
      have SZ494 : n0 ≤ h494.size := Nat.le_trans SZ493 E494.1
      have f496 : own_Av Z h494 b494 .long 3 (fun _ => (.long (0 : Int64))) := own_Av.ofnew A494 (by decide) rfl
      refine own_by st494 ?_
      show own_Go p e below T494 (mkF m 93 #[.val (.int w0), .val (.int g0), .val (.long a_), .second, .val (.long b_), .second, .val (.long c_), .second, .val (.int (2 : Int32)), .val (.int (1 : Int32)), .val (.int (Int32.ofNat (kk.val + 1))), .val (.long mt), .second, .val (.ref b486), .unset, .unset, .unset] [(.ref b494)]) _
      refine own_s_astore X494.here hx #[.val (.int w0), .val (.int g0), .val (.long a_), .second, .val (.long b_), .second, .val (.long c_), .second, .val (.int (2 : Int32)), .val (.int (1 : Int32)), .val (.int (Int32.ofNat (kk.val + 1))), .val (.long mt), .second, .val (.ref b486), .val (.ref b494), .unset, .unset] (hb hby at_93) rfl rfl ?_
      refine own_s_aload X494.here hx (hb hby at_95) rfl rfl ?_
      refine own_s_iconst X494.here hx (0 : Int32) (hb hby at_97) rfl ?_
      refine own_s_lconst X494.here hx (1 : Int64) (hb hby at_98) rfl ?_
      refine own_s_iload X494.here hx (hb hby at_99) rfl ?_
      refine own_s_lshl X494.here hx (hb hby at_101) ?_
      obtain ⟨T497, h497, X497, e497, W497, fa497, st497⟩ := own_stJ X494 hx hZ e494 f496 (k := 0) (by decide) (by decide) (g := (mkF m 102 #[.val (.int w0), .val (.int g0), .val (.long a_), .second, .val (.long b_), .second, .val (.long c_), .second, .val (.int (2 : Int32)), .val (.int (1 : Int32)), .val (.int (Int32.ofNat (kk.val + 1))), .val (.long mt), .second, .val (.ref b486), .val (.ref b494), .unset, .unset] [(.long ((1 : Int64) <<< ((Int32.ofNat (kk.val + 1)) &&& 0x3f).toInt64)), (.int (0 : Int32)), (.ref b494)])) rfl rfl (hb hby at_102)
      have f498 := f495.other W497 ne_b486_b494
      have N497 := Fr.snoc X497 N493 ge_b494
      have SZ497 : n0 ≤ h497.size := by rw [W497.size]; exact SZ494
      refine own_by st497 ?_
      show own_Go p e below T497 (mkF m 103 #[.val (.int w0), .val (.int g0), .val (.long a_), .second, .val (.long b_), .second, .val (.long c_), .second, .val (.int (2 : Int32)), .val (.int (1 : Int32)), .val (.int (Int32.ofNat (kk.val + 1))), .val (.long mt), .second, .val (.ref b486), .val (.ref b494), .unset, .unset] []) _
      have f499 : own_Av Z h497 b486 .long 3 (fun j => .long ((own_b3 (own_f2 a_ mt) (own_f2 b_ (1 : Int64)) (own_f2 c_ (1 : Int64))) j)) := f498.cong rfl (fun j hj => by
        match j, hj with
        | 0, _ => rfl
        | 1, _ => rfl
        | 2, _ => rfl)
      obtain ⟨T500, h500, X500, e500, E500, A500, D500, -, st500⟩ := newO X497 hx hZ hown (hw _ (List.mem_of_getElem? (i := 10) rfl)) (hw _ (List.mem_of_getElem? (i := 11) rfl)) (hw _ (List.mem_of_getElem? (i := 12) rfl)) e497 (g := (mkF m 103 #[.val (.int w0), .val (.int g0), .val (.long a_), .second, .val (.long b_), .second, .val (.long c_), .second, .val (.int (2 : Int32)), .val (.int (1 : Int32)), .val (.int (Int32.ofNat (kk.val + 1))), .val (.long mt), .second, .val (.ref b486), .val (.ref b494), .unset, .unset] [])) rfl (hb hby at_103) (by decide) (by decide)
      obtain ⟨b500, g500⟩ : ∃ z, z = h497.size := ⟨_, rfl⟩
      rw [← g500] at A500 D500 st500
      have ge_b500 : n0 ≤ b500 := Nat.le_trans SZ497 (Nat.le_of_eq g500.symm)
      have ne_b486_b500 : b486 ≠ b500 := Nat.ne_of_lt (Nat.lt_of_lt_of_le f499.lt (Nat.le_of_eq g500.symm))
      have ne_b494_b500 : b494 ≠ b500 := Nat.ne_of_lt (Nat.lt_of_lt_of_le fa497.lt (Nat.le_of_eq g500.symm))
      have f501 := f499.ext E500
      have f502 := fa497.ext E500
      have SZ500 : n0 ≤ h500.size := Nat.le_trans SZ497 E500.1
      have f503 : Fld Z h500 b500 "com/example/lapse/lapse/MarkingCode" "most" "[I" .null := D500 (Or.inr (hw _ (List.mem_of_getElem? (i := 31) rfl))) (ty := (.array .int)) (by decide)
      have f504 : Fld Z h500 b500 "com/example/lapse/lapse/MarkingCode" "words" "[I" .null := D500 (Or.inr (hw _ (List.mem_of_getElem? (i := 33) rfl))) (ty := (.array .int)) (by decide)
      have f505 : Fld Z h500 b500 "com/example/lapse/lapse/MarkingCode" "shifts" "[I" .null := D500 (Or.inr (hw _ (List.mem_of_getElem? (i := 35) rfl))) (ty := (.array .int)) (by decide)
      have f506 : Fld Z h500 b500 "com/example/lapse/lapse/MarkingCode" "length" "I" (.int (0 : Int32)) := D500 (Or.inr (hw _ (List.mem_of_getElem? (i := 37) rfl))) (ty := .int) (by decide)
      refine own_by st500 ?_
      show own_Go p e below T500 (mkF m 106 #[.val (.int w0), .val (.int g0), .val (.long a_), .second, .val (.long b_), .second, .val (.long c_), .second, .val (.int (2 : Int32)), .val (.int (1 : Int32)), .val (.int (Int32.ofNat (kk.val + 1))), .val (.long mt), .second, .val (.ref b486), .val (.ref b494), .unset, .unset] [(.ref b500)]) _
      refine own_s_dup X500.here hx (hb hby at_106) rfl ?_
      refine own_s_iload X500.here hx (hb hby at_107) rfl ?_
      obtain ⟨_, _, ⟨T507, L507, k507, n507⟩, -, X507, ⟨Lc507, hQ507, l507, y507, z507⟩, st507⟩ := X500.specialBack hx (y := (⟨"com/example/lapse/lapse/MarkingCode", "<init>", "(I)V"⟩ : MethodName)) rfl hown (mvT hZ (hw _ (List.mem_of_getElem? (i := 13) rfl))) (mvT hZ (hw _ (List.mem_of_getElem? (i := 14) rfl))) (mvT hZ (hw _ (List.mem_of_getElem? (i := 15) rfl))) (by decide) (backOf (W := 1) (own_r3 l Z a0 hw [] b500 (2 : Int32) 2 h500 n0 SZ500 (by decide) (by decide) (by decide) A500 f503 f504 f505 f506 ge_b500) hZ (hw _ (List.mem_of_getElem? (i := 15) rfl)) (hw _ (List.mem_of_getElem? (i := 12) rfl)) (by decide) (by decide)) (g := (mkF m 109 #[.val (.int w0), .val (.int g0), .val (.long a_), .second, .val (.long b_), .second, .val (.long c_), .second, .val (.int (2 : Int32)), .val (.int (1 : Int32)), .val (.int (Int32.ofNat (kk.val + 1))), .val (.long mt), .second, .val (.ref b486), .val (.ref b494), .unset, .unset] [(.int (2 : Int32)), (.ref b500), (.ref b500)])) rfl (by rw [hml]; rfl) (Steps.refl _) (a := b500) (argsL := [(.int (2 : Int32))]) (rest := [(.ref b500)]) (lenOf own_pd_2 rfl) rfl (by show 2 * 0 + _ ≤ _; exact Nat.le_of_eq rfl) (hb hby at_109) (fun _ _ => ⟨rfl, e500, (by decide : 3 + 4 ≤ _), (by decide : 10 + 12 ≤ _)⟩)
      dsimp only [Pt.U, Pt.locs, Pt.cells, Pt.slots] at X507 l507 y507 z507 st507 hQ507
      subst l507 y507 z507
      obtain ⟨rfl, N507q, K507, am507, aw507, as507, gm507, gw507, gs507, zm507, zw507, zs507, nmw507, nms507, nws507, fm507, Am507, fw507, Aw507, fs507, As507, fl507⟩ := hQ507
      have N507 := Fr.app N497 N507q
      have f508 := f501.keep K507 (ninS ne_b486_b500 nin0)
      have f509 := f502.keep K507 (ninS ne_b494_b500 nin0)
      have f510 := A500.keep K507
      have SZ507 : n0 ≤ T507.heap.size := Nat.le_trans SZ500 K507.1
      refine own_by (fun t k => st507.trans k) ?_
      have ne_b486_am507 : b486 ≠ am507 := Nat.ne_of_lt (Nat.lt_of_lt_of_le f501.lt zm507)
      have ne_b494_am507 : b494 ≠ am507 := Nat.ne_of_lt (Nat.lt_of_lt_of_le f502.lt zm507)
      have ne_b500_am507 : b500 ≠ am507 := Nat.ne_of_lt (Nat.lt_of_lt_of_le A500.lt zm507)
      have ne_b486_aw507 : b486 ≠ aw507 := Nat.ne_of_lt (Nat.lt_of_lt_of_le f501.lt zw507)
      have ne_b494_aw507 : b494 ≠ aw507 := Nat.ne_of_lt (Nat.lt_of_lt_of_le f502.lt zw507)
      have ne_b500_aw507 : b500 ≠ aw507 := Nat.ne_of_lt (Nat.lt_of_lt_of_le A500.lt zw507)
      have ne_b486_as507 : b486 ≠ as507 := Nat.ne_of_lt (Nat.lt_of_lt_of_le f501.lt zs507)
      have ne_b494_as507 : b494 ≠ as507 := Nat.ne_of_lt (Nat.lt_of_lt_of_le f502.lt zs507)
      have ne_b500_as507 : b500 ≠ as507 := Nat.ne_of_lt (Nat.lt_of_lt_of_le A500.lt zs507)
      show own_Go p e below T507 (mkF m 112 #[.val (.int w0), .val (.int g0), .val (.long a_), .second, .val (.long b_), .second, .val (.long c_), .second, .val (.int (2 : Int32)), .val (.int (1 : Int32)), .val (.int (Int32.ofNat (kk.val + 1))), .val (.long mt), .second, .val (.ref b486), .val (.ref b494), .unset, .unset] [(.ref b500)]) _
      refine own_s_astore X507.here hx #[.val (.int w0), .val (.int g0), .val (.long a_), .second, .val (.long b_), .second, .val (.long c_), .second, .val (.int (2 : Int32)), .val (.int (1 : Int32)), .val (.int (Int32.ofNat (kk.val + 1))), .val (.long mt), .second, .val (.ref b486), .val (.ref b494), .val (.ref b500), .unset] (hb hby at_112) rfl rfl ?_
      have f511 : own_Av Z T507.heap am507 .int 2 (fun _ => .int (1 : Int32)) := Am507.cong rfl (fun j _ => congrArg Value.int own_mo1)
      refine own_s_iload X507.here hx (hb hby at_114) rfl ?_
      refine own_s_ifNo X507.here hx (hb hby at_116) (Jvm.Free.XT.i0_eq_f ((by decide))) ?_
      refine own_s_aload X507.here hx (hb hby at_119) rfl rfl ?_
      refine own_s_aload X507.here hx (hb hby at_121) rfl rfl ?_
      obtain ⟨cq512, kq512, q512a, q512b, q512c⟩ := isOf hZ rfl f510
      obtain ⟨_, _, ⟨T512, L512, k512, n512⟩, -, X512, ⟨Lc512, hQ512, l512, y512, z512⟩, st512⟩ := X507.virtualBack hx (y := (⟨"com/example/lapse/lapse/MarkingCode", "widenedFor", "([J)Lcom/example/lapse/lapse/MarkingCode;"⟩ : MethodName)) (z := (⟨"com/example/lapse/lapse/MarkingCode", "widenedFor", "([J)Lcom/example/lapse/lapse/MarkingCode;"⟩ : MethodName)) hown (mvT hZ (hw _ (List.mem_of_getElem? (i := 38) rfl))) (mvT hZ (hw _ (List.mem_of_getElem? (i := 39) rfl))) (notFace_of_selects (args := #[]) (mvT hZ (hw _ (List.mem_of_getElem? (i := 41) rfl)))) (mvT hZ (hw _ (List.mem_of_getElem? (i := 41) rfl))) (mvT hZ (hw _ (List.mem_of_getElem? (i := 40) rfl))) (by decide) (backOf (W := 0) (own_wf2 l Z a0 hw [] b500 b494 am507 ((1 : Int64) <<< ((Int32.ofNat (kk.val + 1)) &&& 0x3f).toInt64) T507.heap n0 SZ507 hk30.2.2 fm507 f511 f509) hZ (hw _ (List.mem_of_getElem? (i := 42) rfl)) (hw _ (List.mem_of_getElem? (i := 12) rfl)) (by decide) (by decide)) q512a q512c (g := (mkF m 123 #[.val (.int w0), .val (.int g0), .val (.long a_), .second, .val (.long b_), .second, .val (.long c_), .second, .val (.int (2 : Int32)), .val (.int (1 : Int32)), .val (.int (Int32.ofNat (kk.val + 1))), .val (.long mt), .second, .val (.ref b486), .val (.ref b494), .val (.ref b500), .unset] [(.ref b494), (.ref b500)])) rfl (by rw [hml]; rfl) (Steps.refl _) (argsL := [(.ref b494)]) (rest := []) (lenOf own_pd_7 rfl) rfl (by show 2 * 0 + _ ≤ _; exact Nat.le_of_eq rfl) (hb hby at_123) (fun _ _ => ⟨rfl, rfl, (by decide : 7 + 5 ≤ _), (by decide : 22 + 15 ≤ _)⟩)
      dsimp only [Pt.U, Pt.locs, Pt.cells, Pt.slots] at X512 l512 y512 z512 st512 hQ512
      subst l512 y512 z512
      obtain ⟨bb512, rfl, N512q, gb512, K512, eb512, ba512, fm512, fa512⟩ := hQ512
      have N512 := Fr.app N507 N512q
      have f513 := f508.keep K512 nin0
      have f514 := f509.keep K512 nin0
      have f515 := f510.keep K512
      have f516 := fm507.keep K512 nin0
      have f517 := fw507.keep K512 nin0
      have f518 := fs507.keep K512 nin0
      have f519 := fl507.keep K512 nin0
      have f520 := f511.keep K512 nin0
      have f521 := Aw507.keep K512 nin0
      have f522 := As507.keep K512 nin0
      have SZ512 : n0 ≤ T512.heap.size := Nat.le_trans SZ507 K512.1
      refine own_by (fun t k => st512.trans k) ?_
      show own_Go p e below T512 (mkF m 126 #[.val (.int w0), .val (.int g0), .val (.long a_), .second, .val (.long b_), .second, .val (.long c_), .second, .val (.int (2 : Int32)), .val (.int (1 : Int32)), .val (.int (Int32.ofNat (kk.val + 1))), .val (.long mt), .second, .val (.ref b486), .val (.ref b494), .val (.ref b500), .unset] [(.ref bb512)]) _
      refine own_s_astore X512.here hx #[.val (.int w0), .val (.int g0), .val (.long a_), .second, .val (.long b_), .second, .val (.long c_), .second, .val (.int (2 : Int32)), .val (.int (1 : Int32)), .val (.int (Int32.ofNat (kk.val + 1))), .val (.long mt), .second, .val (.ref b486), .val (.ref b494), .val (.ref bb512), .unset] (hb hby at_126) rfl rfl ?_
      exact own_t2w hx hZ hw hby hml hown hnm hret hlk  w0 g0 (1 : Int32) (Int32.ofNat (kk.val + 1)) a_ b_ c_ mt b486 b494 bb512 ba512 (fun j => own_mo (own_wdf (own_f1 (31 : Int32) (((64 : Int32) - (own_f11 ((1 : Int64) <<< ((Int32.ofNat (kk.val + 1)) &&& 0x3f).toInt64))) + (1 : Int32))) j)) (own_b3 (own_f2 a_ mt) (own_f2 b_ (1 : Int64)) (own_f2 c_ (1 : Int64))) X512 rfl N512 SZ512 (by show (own_mo (own_f1 (31 : Int32) (((64 : Int32) - (own_f11 ((1 : Int64) <<< ((Int32.ofNat (kk.val + 1)) &&& 0x3f).toInt64))) + (1 : Int32)))).toInt64 = mt; rw [hk30.1, hk30.2.1, hmt]) (by show (own_mo (1 : Int32)).toInt64 = _; decide) eb512 fm512 fa512 f513
  ·
    show own_Go p e below T0 (mkF m 5 #[.val (.int w0), .val (.int g0), .val (.long a_), .second, .val (.long b_), .second, .val (.long c_), .second, .val (.int (3 : Int32)), .unset, .unset, .unset, .unset, .unset, .unset, .unset, .unset] []) _
    refine own_s_iloadN X0.here hx (hb hby at_5) rfl ?_
    refine own_s_iconst X0.here hx (1 : Int32) (hb hby at_6) rfl ?_
    refine own_s_iand X0.here hx (hb hby at_7) ?_
    by_cases hc8 : (g0 &&& (1 : Int32)) = 0
    ·
      show own_Go p e below T0 (mkF m 8 #[.val (.int w0), .val (.int g0), .val (.long a_), .second, .val (.long b_), .second, .val (.long c_), .second, .val (.int (3 : Int32)), .unset, .unset, .unset, .unset, .unset, .unset, .unset, .unset] [(.int (g0 &&& (1 : Int32)))]) _
      refine own_s_ifYes X0.here hx 15 (hb hby at_8) (Jvm.Free.XT.i0_eq_t hc8) (by decide) (by decide) ?_
      refine own_s_iconst X0.here hx (0 : Int32) (hb hby at_15) rfl ?_
      refine own_s_istore X0.here hx #[.val (.int w0), .val (.int g0), .val (.long a_), .second, .val (.long b_), .second, .val (.long c_), .second, .val (.int (3 : Int32)), .val (.int (0 : Int32)), .unset, .unset, .unset, .unset, .unset, .unset, .unset] (hb hby at_16) rfl ?_
      refine own_s_iloadN X0.here hx (hb hby at_18) rfl ?_
      refine own_s_iconst X0.here hx (1 : Int32) (hb hby at_19) rfl ?_
      refine own_s_iushr X0.here hx (hb hby at_20) ?_
      refine own_s_bipush X0.here hx (31 : Int32) (hb hby at_21) rfl ?_
      refine own_s_iand X0.here hx (hb hby at_23) ?_
      refine own_s_bipush X0.here hx (30 : Int32) (hb hby at_24) rfl ?_
      refine own_by (fun tq_ kq_ => iremM X0 hx rfl (hb hby at_26) rfl (by decide) kq_) ?_
      show own_Go p e below T0 (mkF m 27 #[.val (.int w0), .val (.int g0), .val (.long a_), .second, .val (.long b_), .second, .val (.long c_), .second, .val (.int (3 : Int32)), .val (.int (0 : Int32)), .unset, .unset, .unset, .unset, .unset, .unset, .unset] [(.int ((((g0.toUInt32 >>> ((1 : Int32) &&& 31).toUInt32).toInt32) &&& (31 : Int32)) % (30 : Int32)))]) _
      refine own_s_iconst X0.here hx (1 : Int32) (hb hby at_27) rfl ?_
      refine own_s_iadd X0.here hx (hb hby at_28) ?_
      refine own_s_istore X0.here hx #[.val (.int w0), .val (.int g0), .val (.long a_), .second, .val (.long b_), .second, .val (.long c_), .second, .val (.int (3 : Int32)), .val (.int (0 : Int32)), .val (.int (((((g0.toUInt32 >>> ((1 : Int32) &&& 31).toUInt32).toInt32) &&& (31 : Int32)) % (30 : Int32)) + (1 : Int32))), .unset, .unset, .unset, .unset, .unset, .unset] (hb hby at_29) rfl ?_
      obtain ⟨kk, hke⟩ := own_kb ((g0.toUInt32 >>> ((1 : Int32) &&& 31).toUInt32).toInt32)
      rw [hke]
      show own_Go p e below T0 (mkF m 31 #[.val (.int w0), .val (.int g0), .val (.long a_), .second, .val (.long b_), .second, .val (.long c_), .second, .val (.int (3 : Int32)), .val (.int (0 : Int32)), .val (.int (Int32.ofNat (kk.val + 1))), .unset, .unset, .unset, .unset, .unset, .unset] []) _
      refine own_s_iload X0.here hx (hb hby at_31) rfl ?_
      show own_Go p e below T0 (mkF m 33 #[.val (.int w0), .val (.int g0), .val (.long a_), .second, .val (.long b_), .second, .val (.long c_), .second, .val (.int (3 : Int32)), .val (.int (0 : Int32)), .val (.int (Int32.ofNat (kk.val + 1))), .unset, .unset, .unset, .unset, .unset, .unset] [(.int (0 : Int32))]) _
      refine own_s_ifYes X0.here hx 52 (hb hby at_33) (Jvm.Free.XT.i0_eq_t ((by decide))) (by decide) (by decide) ?_
      refine own_s_lconst X0.here hx (1 : Int64) (hb hby at_52) rfl ?_
      refine own_s_lstore X0.here hx #[.val (.int w0), .val (.int g0), .val (.long a_), .second, .val (.long b_), .second, .val (.long c_), .second, .val (.int (3 : Int32)), .val (.int (0 : Int32)), .val (.int (Int32.ofNat (kk.val + 1))), .val (.long (1 : Int64)), .second, .unset, .unset, .unset, .unset] (hb hby at_53) rfl ?_
      refine own_s_iconst X0.here hx (3 : Int32) (hb hby at_55) rfl ?_
      obtain ⟨T523, h523, k523, X523, e523, E523, A523, st523⟩ := newP X0 hx hZ (hw _ (List.mem_of_getElem? (i := 4) rfl)) e0 (g := (mkF m 56 #[.val (.int w0), .val (.int g0), .val (.long a_), .second, .val (.long b_), .second, .val (.long c_), .second, .val (.int (3 : Int32)), .val (.int (0 : Int32)), .val (.int (Int32.ofNat (kk.val + 1))), .val (.long (1 : Int64)), .second, .unset, .unset, .unset, .unset] [(.int (3 : Int32))])) rfl (hb hby at_56) rfl (by decide) (cap := 3) (by decide) (by decide) (by decide) (by decide)
      obtain ⟨b523, g523⟩ : ∃ z, z = h0.size := ⟨_, rfl⟩
      rw [← g523] at A523 st523
      have ge_b523 : n0 ≤ b523 := Nat.le_trans Z0 (Nat.le_of_eq g523.symm)
      have SZ523 : n0 ≤ h523.size := Nat.le_trans Z0 E523.1
      have f524 : own_Av Z h523 b523 .long 3 (fun _ => (.long (0 : Int64))) := own_Av.ofnew A523 (by decide) rfl
      refine own_by st523 ?_
      show own_Go p e below T523 (mkF m 58 #[.val (.int w0), .val (.int g0), .val (.long a_), .second, .val (.long b_), .second, .val (.long c_), .second, .val (.int (3 : Int32)), .val (.int (0 : Int32)), .val (.int (Int32.ofNat (kk.val + 1))), .val (.long (1 : Int64)), .second, .unset, .unset, .unset, .unset] [(.ref b523)]) _
      refine own_s_astore X523.here hx #[.val (.int w0), .val (.int g0), .val (.long a_), .second, .val (.long b_), .second, .val (.long c_), .second, .val (.int (3 : Int32)), .val (.int (0 : Int32)), .val (.int (Int32.ofNat (kk.val + 1))), .val (.long (1 : Int64)), .second, .val (.ref b523), .unset, .unset, .unset] (hb hby at_58) rfl rfl ?_
      refine own_s_aload X523.here hx (hb hby at_60) rfl rfl ?_
      refine own_s_iconst X523.here hx (0 : Int32) (hb hby at_62) rfl ?_
      refine own_s_lloadN X523.here hx (hb hby at_63) rfl ?_
      refine own_s_lload X523.here hx (hb hby at_64) rfl ?_
      obtain ⟨_, _, ⟨T525, L525, k525, n525⟩, -, X525, ⟨Lc525, hQ525, l525, y525, z525⟩, st525⟩ := Jvm.LawKit.callS X523 hx (y := (⟨"com/example/lapse/lapse/MarkingCodeFitsPinLaw", "draw", "(JJ)J"⟩ : MethodName)) hown (mvT hZ (hw _ (List.mem_of_getElem? (i := 5) rfl))) (mvT hZ (hw _ (List.mem_of_getElem? (i := 6) rfl))) (mvT hZ (hw _ (List.mem_of_getElem? (i := 7) rfl))) (mvT hZ (hw _ (List.mem_of_getElem? (i := 8) rfl))) (by decide) (backOf (W := 2) (own_r2 l Z a0 hw [] a_ (1 : Int64)  h523 n0 SZ523 ) hZ (hw _ (List.mem_of_getElem? (i := 8) rfl)) (hw _ (List.mem_of_getElem? (i := 7) rfl)) (by decide) (by decide)) (g := (mkF m 66 #[.val (.int w0), .val (.int g0), .val (.long a_), .second, .val (.long b_), .second, .val (.long c_), .second, .val (.int (3 : Int32)), .val (.int (0 : Int32)), .val (.int (Int32.ofNat (kk.val + 1))), .val (.long (1 : Int64)), .second, .val (.ref b523), .unset, .unset, .unset] [(.long (1 : Int64)), (.long a_), (.int (0 : Int32)), (.ref b523)])) rfl (by rw [hml]; rfl) (argsL := [(.long a_), (.long (1 : Int64))]) (rest := [(.int (0 : Int32)), (.ref b523)]) (lenOf own_pd_1 rfl) rfl (by show 2 * 0 + _ ≤ _; exact Nat.le_of_eq rfl) (hb hby at_66) (fun _ _ => ⟨rfl, e523, (by decide : 1 + 0 ≤ _), (by decide : 3 + 0 ≤ _)⟩)
      dsimp only [Pt.U, Pt.locs, Pt.cells, Pt.slots] at X525 l525 y525 z525 st525 hQ525
      subst l525 y525 z525
      obtain ⟨rfl, N525q, e525⟩ := hQ525
      have N525 := Fr.app N0 N525q
      refine own_by st525 ?_
      show own_Go p e below T525 (mkF m 69 #[.val (.int w0), .val (.int g0), .val (.long a_), .second, .val (.long b_), .second, .val (.long c_), .second, .val (.int (3 : Int32)), .val (.int (0 : Int32)), .val (.int (Int32.ofNat (kk.val + 1))), .val (.long (1 : Int64)), .second, .val (.ref b523), .unset, .unset, .unset] [(.long (own_f2 a_ (1 : Int64))), (.int (0 : Int32)), (.ref b523)]) _
      obtain ⟨T526, h526, X526, e526, W526, fa526, st526⟩ := own_stJ X525 hx hZ e525 f524 (k := 0) (by decide) (by decide) (g := (mkF m 69 #[.val (.int w0), .val (.int g0), .val (.long a_), .second, .val (.long b_), .second, .val (.long c_), .second, .val (.int (3 : Int32)), .val (.int (0 : Int32)), .val (.int (Int32.ofNat (kk.val + 1))), .val (.long (1 : Int64)), .second, .val (.ref b523), .unset, .unset, .unset] [(.long (own_f2 a_ (1 : Int64))), (.int (0 : Int32)), (.ref b523)])) rfl rfl (hb hby at_69)
      have N526 := Fr.snoc X526 N525 ge_b523
      have SZ526 : n0 ≤ h526.size := by rw [W526.size]; exact SZ523
      refine own_by st526 ?_
      show own_Go p e below T526 (mkF m 70 #[.val (.int w0), .val (.int g0), .val (.long a_), .second, .val (.long b_), .second, .val (.long c_), .second, .val (.int (3 : Int32)), .val (.int (0 : Int32)), .val (.int (Int32.ofNat (kk.val + 1))), .val (.long (1 : Int64)), .second, .val (.ref b523), .unset, .unset, .unset] []) _
      refine own_s_aload X526.here hx (hb hby at_70) rfl rfl ?_
      refine own_s_iconst X526.here hx (1 : Int32) (hb hby at_72) rfl ?_
      refine own_s_lload X526.here hx (hb hby at_73) rfl ?_
      refine own_s_lconst X526.here hx (1 : Int64) (hb hby at_75) rfl ?_
      obtain ⟨_, _, ⟨T527, L527, k527, n527⟩, -, X527, ⟨Lc527, hQ527, l527, y527, z527⟩, st527⟩ := Jvm.LawKit.callS X526 hx (y := (⟨"com/example/lapse/lapse/MarkingCodeFitsPinLaw", "draw", "(JJ)J"⟩ : MethodName)) hown (mvT hZ (hw _ (List.mem_of_getElem? (i := 5) rfl))) (mvT hZ (hw _ (List.mem_of_getElem? (i := 6) rfl))) (mvT hZ (hw _ (List.mem_of_getElem? (i := 7) rfl))) (mvT hZ (hw _ (List.mem_of_getElem? (i := 8) rfl))) (by decide) (backOf (W := 2) (own_r2 l Z a0 hw [] b_ (1 : Int64)  h526 n0 SZ526 ) hZ (hw _ (List.mem_of_getElem? (i := 8) rfl)) (hw _ (List.mem_of_getElem? (i := 7) rfl)) (by decide) (by decide)) (g := (mkF m 76 #[.val (.int w0), .val (.int g0), .val (.long a_), .second, .val (.long b_), .second, .val (.long c_), .second, .val (.int (3 : Int32)), .val (.int (0 : Int32)), .val (.int (Int32.ofNat (kk.val + 1))), .val (.long (1 : Int64)), .second, .val (.ref b523), .unset, .unset, .unset] [(.long (1 : Int64)), (.long b_), (.int (1 : Int32)), (.ref b523)])) rfl (by rw [hml]; rfl) (argsL := [(.long b_), (.long (1 : Int64))]) (rest := [(.int (1 : Int32)), (.ref b523)]) (lenOf own_pd_1 rfl) rfl (by show 2 * 0 + _ ≤ _; exact Nat.le_of_eq rfl) (hb hby at_76) (fun _ _ => ⟨rfl, e526, (by decide : 1 + 0 ≤ _), (by decide : 3 + 0 ≤ _)⟩)
      dsimp only [Pt.U, Pt.locs, Pt.cells, Pt.slots] at X527 l527 y527 z527 st527 hQ527
      subst l527 y527 z527
      obtain ⟨rfl, N527q, e527⟩ := hQ527
      have N527 := Fr.app N526 N527q
      refine own_by st527 ?_
      show own_Go p e below T527 (mkF m 79 #[.val (.int w0), .val (.int g0), .val (.long a_), .second, .val (.long b_), .second, .val (.long c_), .second, .val (.int (3 : Int32)), .val (.int (0 : Int32)), .val (.int (Int32.ofNat (kk.val + 1))), .val (.long (1 : Int64)), .second, .val (.ref b523), .unset, .unset, .unset] [(.long (own_f2 b_ (1 : Int64))), (.int (1 : Int32)), (.ref b523)]) _
      obtain ⟨T528, h528, X528, e528, W528, fa528, st528⟩ := own_stJ X527 hx hZ e527 fa526 (k := 1) (by decide) (by decide) (g := (mkF m 79 #[.val (.int w0), .val (.int g0), .val (.long a_), .second, .val (.long b_), .second, .val (.long c_), .second, .val (.int (3 : Int32)), .val (.int (0 : Int32)), .val (.int (Int32.ofNat (kk.val + 1))), .val (.long (1 : Int64)), .second, .val (.ref b523), .unset, .unset, .unset] [(.long (own_f2 b_ (1 : Int64))), (.int (1 : Int32)), (.ref b523)])) rfl rfl (hb hby at_79)
      have N528 := Fr.snoc X528 N527 ge_b523
      have SZ528 : n0 ≤ h528.size := by rw [W528.size]; exact SZ526
      refine own_by st528 ?_
      show own_Go p e below T528 (mkF m 80 #[.val (.int w0), .val (.int g0), .val (.long a_), .second, .val (.long b_), .second, .val (.long c_), .second, .val (.int (3 : Int32)), .val (.int (0 : Int32)), .val (.int (Int32.ofNat (kk.val + 1))), .val (.long (1 : Int64)), .second, .val (.ref b523), .unset, .unset, .unset] []) _
      refine own_s_aload X528.here hx (hb hby at_80) rfl rfl ?_
      refine own_s_iconst X528.here hx (2 : Int32) (hb hby at_82) rfl ?_
      refine own_s_lload X528.here hx (hb hby at_83) rfl ?_
      refine own_s_lconst X528.here hx (1 : Int64) (hb hby at_85) rfl ?_
      obtain ⟨_, _, ⟨T529, L529, k529, n529⟩, -, X529, ⟨Lc529, hQ529, l529, y529, z529⟩, st529⟩ := Jvm.LawKit.callS X528 hx (y := (⟨"com/example/lapse/lapse/MarkingCodeFitsPinLaw", "draw", "(JJ)J"⟩ : MethodName)) hown (mvT hZ (hw _ (List.mem_of_getElem? (i := 5) rfl))) (mvT hZ (hw _ (List.mem_of_getElem? (i := 6) rfl))) (mvT hZ (hw _ (List.mem_of_getElem? (i := 7) rfl))) (mvT hZ (hw _ (List.mem_of_getElem? (i := 8) rfl))) (by decide) (backOf (W := 2) (own_r2 l Z a0 hw [] c_ (1 : Int64)  h528 n0 SZ528 ) hZ (hw _ (List.mem_of_getElem? (i := 8) rfl)) (hw _ (List.mem_of_getElem? (i := 7) rfl)) (by decide) (by decide)) (g := (mkF m 86 #[.val (.int w0), .val (.int g0), .val (.long a_), .second, .val (.long b_), .second, .val (.long c_), .second, .val (.int (3 : Int32)), .val (.int (0 : Int32)), .val (.int (Int32.ofNat (kk.val + 1))), .val (.long (1 : Int64)), .second, .val (.ref b523), .unset, .unset, .unset] [(.long (1 : Int64)), (.long c_), (.int (2 : Int32)), (.ref b523)])) rfl (by rw [hml]; rfl) (argsL := [(.long c_), (.long (1 : Int64))]) (rest := [(.int (2 : Int32)), (.ref b523)]) (lenOf own_pd_1 rfl) rfl (by show 2 * 0 + _ ≤ _; exact Nat.le_of_eq rfl) (hb hby at_86) (fun _ _ => ⟨rfl, e528, (by decide : 1 + 0 ≤ _), (by decide : 3 + 0 ≤ _)⟩)
      dsimp only [Pt.U, Pt.locs, Pt.cells, Pt.slots] at X529 l529 y529 z529 st529 hQ529
      subst l529 y529 z529
      obtain ⟨rfl, N529q, e529⟩ := hQ529
      have N529 := Fr.app N528 N529q
      refine own_by st529 ?_
      show own_Go p e below T529 (mkF m 89 #[.val (.int w0), .val (.int g0), .val (.long a_), .second, .val (.long b_), .second, .val (.long c_), .second, .val (.int (3 : Int32)), .val (.int (0 : Int32)), .val (.int (Int32.ofNat (kk.val + 1))), .val (.long (1 : Int64)), .second, .val (.ref b523), .unset, .unset, .unset] [(.long (own_f2 c_ (1 : Int64))), (.int (2 : Int32)), (.ref b523)]) _
      obtain ⟨T530, h530, X530, e530, W530, fa530, st530⟩ := own_stJ X529 hx hZ e529 fa528 (k := 2) (by decide) (by decide) (g := (mkF m 89 #[.val (.int w0), .val (.int g0), .val (.long a_), .second, .val (.long b_), .second, .val (.long c_), .second, .val (.int (3 : Int32)), .val (.int (0 : Int32)), .val (.int (Int32.ofNat (kk.val + 1))), .val (.long (1 : Int64)), .second, .val (.ref b523), .unset, .unset, .unset] [(.long (own_f2 c_ (1 : Int64))), (.int (2 : Int32)), (.ref b523)])) rfl rfl (hb hby at_89)
      have N530 := Fr.snoc X530 N529 ge_b523
      have SZ530 : n0 ≤ h530.size := by rw [W530.size]; exact SZ528
      refine own_by st530 ?_
      show own_Go p e below T530 (mkF m 90 #[.val (.int w0), .val (.int g0), .val (.long a_), .second, .val (.long b_), .second, .val (.long c_), .second, .val (.int (3 : Int32)), .val (.int (0 : Int32)), .val (.int (Int32.ofNat (kk.val + 1))), .val (.long (1 : Int64)), .second, .val (.ref b523), .unset, .unset, .unset] []) _
      refine own_s_iconst X530.here hx (3 : Int32) (hb hby at_90) rfl ?_
      obtain ⟨T531, h531, k531, X531, e531, E531, A531, st531⟩ := newP X530 hx hZ (hw _ (List.mem_of_getElem? (i := 4) rfl)) e530 (g := (mkF m 91 #[.val (.int w0), .val (.int g0), .val (.long a_), .second, .val (.long b_), .second, .val (.long c_), .second, .val (.int (3 : Int32)), .val (.int (0 : Int32)), .val (.int (Int32.ofNat (kk.val + 1))), .val (.long (1 : Int64)), .second, .val (.ref b523), .unset, .unset, .unset] [(.int (3 : Int32))])) rfl (hb hby at_91) rfl (by decide) (cap := 3) (by decide) (by decide) (by decide) (by decide)
      obtain ⟨b531, g531⟩ : ∃ z, z = h530.size := ⟨_, rfl⟩
      rw [← g531] at A531 st531
      have ge_b531 : n0 ≤ b531 := Nat.le_trans SZ530 (Nat.le_of_eq g531.symm)
      have ne_b523_b531 : b523 ≠ b531 := Nat.ne_of_lt (Nat.lt_of_lt_of_le fa530.lt (Nat.le_of_eq g531.symm))
      have f532 := fa530.ext E531
      have SZ531 : n0 ≤ h531.size := Nat.le_trans SZ530 E531.1
      have f533 : own_Av Z h531 b531 .long 3 (fun _ => (.long (0 : Int64))) := own_Av.ofnew A531 (by decide) rfl
      refine own_by st531 ?_
      show own_Go p e below T531 (mkF m 93 #[.val (.int w0), .val (.int g0), .val (.long a_), .second, .val (.long b_), .second, .val (.long c_), .second, .val (.int (3 : Int32)), .val (.int (0 : Int32)), .val (.int (Int32.ofNat (kk.val + 1))), .val (.long (1 : Int64)), .second, .val (.ref b523), .unset, .unset, .unset] [(.ref b531)]) _
      refine own_s_astore X531.here hx #[.val (.int w0), .val (.int g0), .val (.long a_), .second, .val (.long b_), .second, .val (.long c_), .second, .val (.int (3 : Int32)), .val (.int (0 : Int32)), .val (.int (Int32.ofNat (kk.val + 1))), .val (.long (1 : Int64)), .second, .val (.ref b523), .val (.ref b531), .unset, .unset] (hb hby at_93) rfl rfl ?_
      refine own_s_aload X531.here hx (hb hby at_95) rfl rfl ?_
      refine own_s_iconst X531.here hx (0 : Int32) (hb hby at_97) rfl ?_
      refine own_s_lconst X531.here hx (1 : Int64) (hb hby at_98) rfl ?_
      refine own_s_iload X531.here hx (hb hby at_99) rfl ?_
      refine own_s_lshl X531.here hx (hb hby at_101) ?_
      obtain ⟨T534, h534, X534, e534, W534, fa534, st534⟩ := own_stJ X531 hx hZ e531 f533 (k := 0) (by decide) (by decide) (g := (mkF m 102 #[.val (.int w0), .val (.int g0), .val (.long a_), .second, .val (.long b_), .second, .val (.long c_), .second, .val (.int (3 : Int32)), .val (.int (0 : Int32)), .val (.int (Int32.ofNat (kk.val + 1))), .val (.long (1 : Int64)), .second, .val (.ref b523), .val (.ref b531), .unset, .unset] [(.long ((1 : Int64) <<< ((Int32.ofNat (kk.val + 1)) &&& 0x3f).toInt64)), (.int (0 : Int32)), (.ref b531)])) rfl rfl (hb hby at_102)
      have f535 := f532.other W534 ne_b523_b531
      have N534 := Fr.snoc X534 N530 ge_b531
      have SZ534 : n0 ≤ h534.size := by rw [W534.size]; exact SZ531
      refine own_by st534 ?_
      show own_Go p e below T534 (mkF m 103 #[.val (.int w0), .val (.int g0), .val (.long a_), .second, .val (.long b_), .second, .val (.long c_), .second, .val (.int (3 : Int32)), .val (.int (0 : Int32)), .val (.int (Int32.ofNat (kk.val + 1))), .val (.long (1 : Int64)), .second, .val (.ref b523), .val (.ref b531), .unset, .unset] []) _
      have f536 : own_Av Z h534 b523 .long 3 (fun j => .long ((own_b3 (own_f2 a_ (1 : Int64)) (own_f2 b_ (1 : Int64)) (own_f2 c_ (1 : Int64))) j)) := f535.cong rfl (fun j hj => by
        match j, hj with
        | 0, _ => rfl
        | 1, _ => rfl
        | 2, _ => rfl)
      obtain ⟨T537, h537, X537, e537, E537, A537, D537, -, st537⟩ := newO X534 hx hZ hown (hw _ (List.mem_of_getElem? (i := 10) rfl)) (hw _ (List.mem_of_getElem? (i := 11) rfl)) (hw _ (List.mem_of_getElem? (i := 12) rfl)) e534 (g := (mkF m 103 #[.val (.int w0), .val (.int g0), .val (.long a_), .second, .val (.long b_), .second, .val (.long c_), .second, .val (.int (3 : Int32)), .val (.int (0 : Int32)), .val (.int (Int32.ofNat (kk.val + 1))), .val (.long (1 : Int64)), .second, .val (.ref b523), .val (.ref b531), .unset, .unset] [])) rfl (hb hby at_103) (by decide) (by decide)
      obtain ⟨b537, g537⟩ : ∃ z, z = h534.size := ⟨_, rfl⟩
      rw [← g537] at A537 D537 st537
      have ge_b537 : n0 ≤ b537 := Nat.le_trans SZ534 (Nat.le_of_eq g537.symm)
      have ne_b523_b537 : b523 ≠ b537 := Nat.ne_of_lt (Nat.lt_of_lt_of_le f536.lt (Nat.le_of_eq g537.symm))
      have ne_b531_b537 : b531 ≠ b537 := Nat.ne_of_lt (Nat.lt_of_lt_of_le fa534.lt (Nat.le_of_eq g537.symm))
      have f538 := f536.ext E537
      have f539 := fa534.ext E537
      have SZ537 : n0 ≤ h537.size := Nat.le_trans SZ534 E537.1
      have f540 : Fld Z h537 b537 "com/example/lapse/lapse/MarkingCode" "most" "[I" .null := D537 (Or.inr (hw _ (List.mem_of_getElem? (i := 31) rfl))) (ty := (.array .int)) (by decide)
      have f541 : Fld Z h537 b537 "com/example/lapse/lapse/MarkingCode" "words" "[I" .null := D537 (Or.inr (hw _ (List.mem_of_getElem? (i := 33) rfl))) (ty := (.array .int)) (by decide)
      have f542 : Fld Z h537 b537 "com/example/lapse/lapse/MarkingCode" "shifts" "[I" .null := D537 (Or.inr (hw _ (List.mem_of_getElem? (i := 35) rfl))) (ty := (.array .int)) (by decide)
      have f543 : Fld Z h537 b537 "com/example/lapse/lapse/MarkingCode" "length" "I" (.int (0 : Int32)) := D537 (Or.inr (hw _ (List.mem_of_getElem? (i := 37) rfl))) (ty := .int) (by decide)
      refine own_by st537 ?_
      show own_Go p e below T537 (mkF m 106 #[.val (.int w0), .val (.int g0), .val (.long a_), .second, .val (.long b_), .second, .val (.long c_), .second, .val (.int (3 : Int32)), .val (.int (0 : Int32)), .val (.int (Int32.ofNat (kk.val + 1))), .val (.long (1 : Int64)), .second, .val (.ref b523), .val (.ref b531), .unset, .unset] [(.ref b537)]) _
      refine own_s_dup X537.here hx (hb hby at_106) rfl ?_
      refine own_s_iload X537.here hx (hb hby at_107) rfl ?_
      obtain ⟨_, _, ⟨T544, L544, k544, n544⟩, -, X544, ⟨Lc544, hQ544, l544, y544, z544⟩, st544⟩ := X537.specialBack hx (y := (⟨"com/example/lapse/lapse/MarkingCode", "<init>", "(I)V"⟩ : MethodName)) rfl hown (mvT hZ (hw _ (List.mem_of_getElem? (i := 13) rfl))) (mvT hZ (hw _ (List.mem_of_getElem? (i := 14) rfl))) (mvT hZ (hw _ (List.mem_of_getElem? (i := 15) rfl))) (by decide) (backOf (W := 1) (own_r3 l Z a0 hw [] b537 (3 : Int32) 3 h537 n0 SZ537 (by decide) (by decide) (by decide) A537 f540 f541 f542 f543 ge_b537) hZ (hw _ (List.mem_of_getElem? (i := 15) rfl)) (hw _ (List.mem_of_getElem? (i := 12) rfl)) (by decide) (by decide)) (g := (mkF m 109 #[.val (.int w0), .val (.int g0), .val (.long a_), .second, .val (.long b_), .second, .val (.long c_), .second, .val (.int (3 : Int32)), .val (.int (0 : Int32)), .val (.int (Int32.ofNat (kk.val + 1))), .val (.long (1 : Int64)), .second, .val (.ref b523), .val (.ref b531), .unset, .unset] [(.int (3 : Int32)), (.ref b537), (.ref b537)])) rfl (by rw [hml]; rfl) (Steps.refl _) (a := b537) (argsL := [(.int (3 : Int32))]) (rest := [(.ref b537)]) (lenOf own_pd_2 rfl) rfl (by show 2 * 0 + _ ≤ _; exact Nat.le_of_eq rfl) (hb hby at_109) (fun _ _ => ⟨rfl, e537, (by decide : 3 + 4 ≤ _), (by decide : 10 + 12 ≤ _)⟩)
      dsimp only [Pt.U, Pt.locs, Pt.cells, Pt.slots] at X544 l544 y544 z544 st544 hQ544
      subst l544 y544 z544
      obtain ⟨rfl, N544q, K544, am544, aw544, as544, gm544, gw544, gs544, zm544, zw544, zs544, nmw544, nms544, nws544, fm544, Am544, fw544, Aw544, fs544, As544, fl544⟩ := hQ544
      have N544 := Fr.app N534 N544q
      have f545 := f538.keep K544 (ninS ne_b523_b537 nin0)
      have f546 := f539.keep K544 (ninS ne_b531_b537 nin0)
      have f547 := A537.keep K544
      have SZ544 : n0 ≤ T544.heap.size := Nat.le_trans SZ537 K544.1
      refine own_by (fun t k => st544.trans k) ?_
      have ne_b523_am544 : b523 ≠ am544 := Nat.ne_of_lt (Nat.lt_of_lt_of_le f538.lt zm544)
      have ne_b531_am544 : b531 ≠ am544 := Nat.ne_of_lt (Nat.lt_of_lt_of_le f539.lt zm544)
      have ne_b537_am544 : b537 ≠ am544 := Nat.ne_of_lt (Nat.lt_of_lt_of_le A537.lt zm544)
      have ne_b523_aw544 : b523 ≠ aw544 := Nat.ne_of_lt (Nat.lt_of_lt_of_le f538.lt zw544)
      have ne_b531_aw544 : b531 ≠ aw544 := Nat.ne_of_lt (Nat.lt_of_lt_of_le f539.lt zw544)
      have ne_b537_aw544 : b537 ≠ aw544 := Nat.ne_of_lt (Nat.lt_of_lt_of_le A537.lt zw544)
      have ne_b523_as544 : b523 ≠ as544 := Nat.ne_of_lt (Nat.lt_of_lt_of_le f538.lt zs544)
      have ne_b531_as544 : b531 ≠ as544 := Nat.ne_of_lt (Nat.lt_of_lt_of_le f539.lt zs544)
      have ne_b537_as544 : b537 ≠ as544 := Nat.ne_of_lt (Nat.lt_of_lt_of_le A537.lt zs544)
      show own_Go p e below T544 (mkF m 112 #[.val (.int w0), .val (.int g0), .val (.long a_), .second, .val (.long b_), .second, .val (.long c_), .second, .val (.int (3 : Int32)), .val (.int (0 : Int32)), .val (.int (Int32.ofNat (kk.val + 1))), .val (.long (1 : Int64)), .second, .val (.ref b523), .val (.ref b531), .unset, .unset] [(.ref b537)]) _
      refine own_s_astore X544.here hx #[.val (.int w0), .val (.int g0), .val (.long a_), .second, .val (.long b_), .second, .val (.long c_), .second, .val (.int (3 : Int32)), .val (.int (0 : Int32)), .val (.int (Int32.ofNat (kk.val + 1))), .val (.long (1 : Int64)), .second, .val (.ref b523), .val (.ref b531), .val (.ref b537), .unset] (hb hby at_112) rfl rfl ?_
      have f548 : own_Av Z T544.heap am544 .int 3 (fun _ => .int (1 : Int32)) := Am544.cong rfl (fun j _ => congrArg Value.int own_mo1)
      refine own_s_iload X544.here hx (hb hby at_114) rfl ?_
      show own_Go p e below T544 (mkF m 116 #[.val (.int w0), .val (.int g0), .val (.long a_), .second, .val (.long b_), .second, .val (.long c_), .second, .val (.int (3 : Int32)), .val (.int (0 : Int32)), .val (.int (Int32.ofNat (kk.val + 1))), .val (.long (1 : Int64)), .second, .val (.ref b523), .val (.ref b531), .val (.ref b537), .unset] [(.int (0 : Int32))]) _
      refine own_s_ifYes X544.here hx 128 (hb hby at_116) (Jvm.Free.XT.i0_eq_t ((by decide))) (by decide) (by decide) ?_
      exact own_t3n hx hZ hw hby hml hown hnm hret hlk  w0 g0 (0 : Int32) (Int32.ofNat (kk.val + 1)) a_ b_ c_ (1 : Int64) b523 b531 b537 am544 (fun _ => (1 : Int32)) (own_b3 (own_f2 a_ (1 : Int64)) (own_f2 b_ (1 : Int64)) (own_f2 c_ (1 : Int64))) X544 rfl N544 SZ544 (by decide) (by decide) (by decide) f547 fm544 f548 f545
    ·
      refine own_s_ifNo X0.here hx (hb hby at_8) (Jvm.Free.XT.i0_eq_f hc8) ?_
      refine own_s_iconst X0.here hx (1 : Int32) (hb hby at_11) rfl ?_
      show own_Go p e below T0 (mkF m 12 #[.val (.int w0), .val (.int g0), .val (.long a_), .second, .val (.long b_), .second, .val (.long c_), .second, .val (.int (3 : Int32)), .unset, .unset, .unset, .unset, .unset, .unset, .unset, .unset] [(.int (1 : Int32))]) _
      refine own_s_goto X0.here hx 16 (hb hby at_12) (by decide) (by decide) ?_
      refine own_s_istore X0.here hx #[.val (.int w0), .val (.int g0), .val (.long a_), .second, .val (.long b_), .second, .val (.long c_), .second, .val (.int (3 : Int32)), .val (.int (1 : Int32)), .unset, .unset, .unset, .unset, .unset, .unset, .unset] (hb hby at_16) rfl ?_
      refine own_s_iloadN X0.here hx (hb hby at_18) rfl ?_
      refine own_s_iconst X0.here hx (1 : Int32) (hb hby at_19) rfl ?_
      refine own_s_iushr X0.here hx (hb hby at_20) ?_
      refine own_s_bipush X0.here hx (31 : Int32) (hb hby at_21) rfl ?_
      refine own_s_iand X0.here hx (hb hby at_23) ?_
      refine own_s_bipush X0.here hx (30 : Int32) (hb hby at_24) rfl ?_
      refine own_by (fun tq_ kq_ => iremM X0 hx rfl (hb hby at_26) rfl (by decide) kq_) ?_
      show own_Go p e below T0 (mkF m 27 #[.val (.int w0), .val (.int g0), .val (.long a_), .second, .val (.long b_), .second, .val (.long c_), .second, .val (.int (3 : Int32)), .val (.int (1 : Int32)), .unset, .unset, .unset, .unset, .unset, .unset, .unset] [(.int ((((g0.toUInt32 >>> ((1 : Int32) &&& 31).toUInt32).toInt32) &&& (31 : Int32)) % (30 : Int32)))]) _
      refine own_s_iconst X0.here hx (1 : Int32) (hb hby at_27) rfl ?_
      refine own_s_iadd X0.here hx (hb hby at_28) ?_
      refine own_s_istore X0.here hx #[.val (.int w0), .val (.int g0), .val (.long a_), .second, .val (.long b_), .second, .val (.long c_), .second, .val (.int (3 : Int32)), .val (.int (1 : Int32)), .val (.int (((((g0.toUInt32 >>> ((1 : Int32) &&& 31).toUInt32).toInt32) &&& (31 : Int32)) % (30 : Int32)) + (1 : Int32))), .unset, .unset, .unset, .unset, .unset, .unset] (hb hby at_29) rfl ?_
      obtain ⟨kk, hke⟩ := own_kb ((g0.toUInt32 >>> ((1 : Int32) &&& 31).toUInt32).toInt32)
      rw [hke]
      show own_Go p e below T0 (mkF m 31 #[.val (.int w0), .val (.int g0), .val (.long a_), .second, .val (.long b_), .second, .val (.long c_), .second, .val (.int (3 : Int32)), .val (.int (1 : Int32)), .val (.int (Int32.ofNat (kk.val + 1))), .unset, .unset, .unset, .unset, .unset, .unset] []) _
      refine own_s_iload X0.here hx (hb hby at_31) rfl ?_
      refine own_s_ifNo X0.here hx (hb hby at_33) (Jvm.Free.XT.i0_eq_f ((by decide))) ?_
      refine own_s_lconst X0.here hx (1 : Int64) (hb hby at_36) rfl ?_
      refine own_s_bipush X0.here hx (31 : Int32) (hb hby at_37) rfl ?_
      refine own_s_iload X0.here hx (hb hby at_39) rfl ?_
      refine own_s_iconst X0.here hx (2 : Int32) (hb hby at_41) rfl ?_
      refine own_s_iadd X0.here hx (hb hby at_42) ?_
      obtain ⟨_, _, ⟨T549, L549, k549, n549⟩, -, X549, ⟨Lc549, hQ549, l549, y549, z549⟩, st549⟩ := Jvm.LawKit.callS X0 hx (y := (⟨"java/lang/Math", "min", "(II)I"⟩ : MethodName)) hown (mvT hZ (hw _ (List.mem_of_getElem? (i := 0) rfl))) (mvT hZ (hw _ (List.mem_of_getElem? (i := 1) rfl))) (mvT hZ (hw _ (List.mem_of_getElem? (i := 2) rfl))) (mvT hZ (hw _ (List.mem_of_getElem? (i := 3) rfl))) (by decide) (backOf (W := 2) (own_r1 l Z a0 hw [] (31 : Int32) ((Int32.ofNat (kk.val + 1)) + (2 : Int32))  h0 n0 Z0 ) hZ (hw _ (List.mem_of_getElem? (i := 3) rfl)) (hw _ (List.mem_of_getElem? (i := 2) rfl)) (by decide) (by decide)) (g := (mkF m 43 #[.val (.int w0), .val (.int g0), .val (.long a_), .second, .val (.long b_), .second, .val (.long c_), .second, .val (.int (3 : Int32)), .val (.int (1 : Int32)), .val (.int (Int32.ofNat (kk.val + 1))), .unset, .unset, .unset, .unset, .unset, .unset] [(.int ((Int32.ofNat (kk.val + 1)) + (2 : Int32))), (.int (31 : Int32)), (.long (1 : Int64))])) rfl (by rw [hml]; rfl) (argsL := [(.int (31 : Int32)), (.int ((Int32.ofNat (kk.val + 1)) + (2 : Int32)))]) (rest := [(.long (1 : Int64))]) (lenOf own_pd_0 rfl) rfl (by show 2 * 0 + _ ≤ _; exact Nat.le_of_eq rfl) (hb hby at_43) (fun _ _ => ⟨rfl, e0, (by decide : 0 + 0 ≤ _), (by decide : 0 + 0 ≤ _)⟩)
      dsimp only [Pt.U, Pt.locs, Pt.cells, Pt.slots] at X549 l549 y549 z549 st549 hQ549
      subst l549 y549 z549
      obtain ⟨rfl, N549q, e549⟩ := hQ549
      have N549 := Fr.app N0 N549q
      refine own_by st549 ?_
      show own_Go p e below T549 (mkF m 46 #[.val (.int w0), .val (.int g0), .val (.long a_), .second, .val (.long b_), .second, .val (.long c_), .second, .val (.int (3 : Int32)), .val (.int (1 : Int32)), .val (.int (Int32.ofNat (kk.val + 1))), .unset, .unset, .unset, .unset, .unset, .unset] [(.int (own_f1 (31 : Int32) ((Int32.ofNat (kk.val + 1)) + (2 : Int32)))), (.long (1 : Int64))]) _
      refine own_s_lshl X549.here hx (hb hby at_46) ?_
      refine own_s_lconst X549.here hx (1 : Int64) (hb hby at_47) rfl ?_
      refine own_s_lsub X549.here hx (hb hby at_48) ?_
      show own_Go p e below T549 (mkF m 49 #[.val (.int w0), .val (.int g0), .val (.long a_), .second, .val (.long b_), .second, .val (.long c_), .second, .val (.int (3 : Int32)), .val (.int (1 : Int32)), .val (.int (Int32.ofNat (kk.val + 1))), .unset, .unset, .unset, .unset, .unset, .unset] [(.long (((1 : Int64) <<< ((own_f1 (31 : Int32) ((Int32.ofNat (kk.val + 1)) + (2 : Int32))) &&& 0x3f).toInt64) - (1 : Int64)))]) _
      refine own_s_goto X549.here hx 53 (hb hby at_49) (by decide) (by decide) ?_
      refine own_s_lstore X549.here hx #[.val (.int w0), .val (.int g0), .val (.long a_), .second, .val (.long b_), .second, .val (.long c_), .second, .val (.int (3 : Int32)), .val (.int (1 : Int32)), .val (.int (Int32.ofNat (kk.val + 1))), .val (.long (((1 : Int64) <<< ((own_f1 (31 : Int32) ((Int32.ofNat (kk.val + 1)) + (2 : Int32))) &&& 0x3f).toInt64) - (1 : Int64))), .second, .unset, .unset, .unset, .unset] (hb hby at_53) rfl ?_
      have hk30 := own_k30 kk
      generalize hmt : (((1 : Int64) <<< ((own_f1 (31 : Int32) ((Int32.ofNat (kk.val + 1)) + (2 : Int32))) &&& 0x3f).toInt64) - (1 : Int64)) = mt
      show own_Go p e below T549 (mkF m 55 #[.val (.int w0), .val (.int g0), .val (.long a_), .second, .val (.long b_), .second, .val (.long c_), .second, .val (.int (3 : Int32)), .val (.int (1 : Int32)), .val (.int (Int32.ofNat (kk.val + 1))), .val (.long mt), .second, .unset, .unset, .unset, .unset] []) _
      refine own_s_iconst X549.here hx (3 : Int32) (hb hby at_55) rfl ?_
      obtain ⟨T550, h550, k550, X550, e550, E550, A550, st550⟩ := newP X549 hx hZ (hw _ (List.mem_of_getElem? (i := 4) rfl)) e549 (g := (mkF m 56 #[.val (.int w0), .val (.int g0), .val (.long a_), .second, .val (.long b_), .second, .val (.long c_), .second, .val (.int (3 : Int32)), .val (.int (1 : Int32)), .val (.int (Int32.ofNat (kk.val + 1))), .val (.long mt), .second, .unset, .unset, .unset, .unset] [(.int (3 : Int32))])) rfl (hb hby at_56) rfl (by decide) (cap := 3) (by decide) (by decide) (by decide) (by decide)
      obtain ⟨b550, g550⟩ : ∃ z, z = h0.size := ⟨_, rfl⟩
      rw [← g550] at A550 st550
      have ge_b550 : n0 ≤ b550 := Nat.le_trans Z0 (Nat.le_of_eq g550.symm)
      have SZ550 : n0 ≤ h550.size := Nat.le_trans Z0 E550.1
      have f551 : own_Av Z h550 b550 .long 3 (fun _ => (.long (0 : Int64))) := own_Av.ofnew A550 (by decide) rfl
      refine own_by st550 ?_
      show own_Go p e below T550 (mkF m 58 #[.val (.int w0), .val (.int g0), .val (.long a_), .second, .val (.long b_), .second, .val (.long c_), .second, .val (.int (3 : Int32)), .val (.int (1 : Int32)), .val (.int (Int32.ofNat (kk.val + 1))), .val (.long mt), .second, .unset, .unset, .unset, .unset] [(.ref b550)]) _
      refine own_s_astore X550.here hx #[.val (.int w0), .val (.int g0), .val (.long a_), .second, .val (.long b_), .second, .val (.long c_), .second, .val (.int (3 : Int32)), .val (.int (1 : Int32)), .val (.int (Int32.ofNat (kk.val + 1))), .val (.long mt), .second, .val (.ref b550), .unset, .unset, .unset] (hb hby at_58) rfl rfl ?_
      refine own_s_aload X550.here hx (hb hby at_60) rfl rfl ?_
      refine own_s_iconst X550.here hx (0 : Int32) (hb hby at_62) rfl ?_
      refine own_s_lloadN X550.here hx (hb hby at_63) rfl ?_
      refine own_s_lload X550.here hx (hb hby at_64) rfl ?_
      obtain ⟨_, _, ⟨T552, L552, k552, n552⟩, -, X552, ⟨Lc552, hQ552, l552, y552, z552⟩, st552⟩ := Jvm.LawKit.callS X550 hx (y := (⟨"com/example/lapse/lapse/MarkingCodeFitsPinLaw", "draw", "(JJ)J"⟩ : MethodName)) hown (mvT hZ (hw _ (List.mem_of_getElem? (i := 5) rfl))) (mvT hZ (hw _ (List.mem_of_getElem? (i := 6) rfl))) (mvT hZ (hw _ (List.mem_of_getElem? (i := 7) rfl))) (mvT hZ (hw _ (List.mem_of_getElem? (i := 8) rfl))) (by decide) (backOf (W := 2) (own_r2 l Z a0 hw [] a_ mt  h550 n0 SZ550 ) hZ (hw _ (List.mem_of_getElem? (i := 8) rfl)) (hw _ (List.mem_of_getElem? (i := 7) rfl)) (by decide) (by decide)) (g := (mkF m 66 #[.val (.int w0), .val (.int g0), .val (.long a_), .second, .val (.long b_), .second, .val (.long c_), .second, .val (.int (3 : Int32)), .val (.int (1 : Int32)), .val (.int (Int32.ofNat (kk.val + 1))), .val (.long mt), .second, .val (.ref b550), .unset, .unset, .unset] [(.long mt), (.long a_), (.int (0 : Int32)), (.ref b550)])) rfl (by rw [hml]; rfl) (argsL := [(.long a_), (.long mt)]) (rest := [(.int (0 : Int32)), (.ref b550)]) (lenOf own_pd_1 rfl) rfl (by show 2 * 0 + _ ≤ _; exact Nat.le_of_eq rfl) (hb hby at_66) (fun _ _ => ⟨rfl, e550, (by decide : 1 + 0 ≤ _), (by decide : 3 + 0 ≤ _)⟩)
      dsimp only [Pt.U, Pt.locs, Pt.cells, Pt.slots] at X552 l552 y552 z552 st552 hQ552
      subst l552 y552 z552
      obtain ⟨rfl, N552q, e552⟩ := hQ552
      have N552 := Fr.app N549 N552q
      refine own_by st552 ?_
      show own_Go p e below T552 (mkF m 69 #[.val (.int w0), .val (.int g0), .val (.long a_), .second, .val (.long b_), .second, .val (.long c_), .second, .val (.int (3 : Int32)), .val (.int (1 : Int32)), .val (.int (Int32.ofNat (kk.val + 1))), .val (.long mt), .second, .val (.ref b550), .unset, .unset, .unset] [(.long (own_f2 a_ mt)), (.int (0 : Int32)), (.ref b550)]) _
      obtain ⟨T553, h553, X553, e553, W553, fa553, st553⟩ := own_stJ X552 hx hZ e552 f551 (k := 0) (by decide) (by decide) (g := (mkF m 69 #[.val (.int w0), .val (.int g0), .val (.long a_), .second, .val (.long b_), .second, .val (.long c_), .second, .val (.int (3 : Int32)), .val (.int (1 : Int32)), .val (.int (Int32.ofNat (kk.val + 1))), .val (.long mt), .second, .val (.ref b550), .unset, .unset, .unset] [(.long (own_f2 a_ mt)), (.int (0 : Int32)), (.ref b550)])) rfl rfl (hb hby at_69)
      have N553 := Fr.snoc X553 N552 ge_b550
      have SZ553 : n0 ≤ h553.size := by rw [W553.size]; exact SZ550
      refine own_by st553 ?_
      show own_Go p e below T553 (mkF m 70 #[.val (.int w0), .val (.int g0), .val (.long a_), .second, .val (.long b_), .second, .val (.long c_), .second, .val (.int (3 : Int32)), .val (.int (1 : Int32)), .val (.int (Int32.ofNat (kk.val + 1))), .val (.long mt), .second, .val (.ref b550), .unset, .unset, .unset] []) _
      refine own_s_aload X553.here hx (hb hby at_70) rfl rfl ?_
      refine own_s_iconst X553.here hx (1 : Int32) (hb hby at_72) rfl ?_
      refine own_s_lload X553.here hx (hb hby at_73) rfl ?_
      refine own_s_lconst X553.here hx (1 : Int64) (hb hby at_75) rfl ?_
      obtain ⟨_, _, ⟨T554, L554, k554, n554⟩, -, X554, ⟨Lc554, hQ554, l554, y554, z554⟩, st554⟩ := Jvm.LawKit.callS X553 hx (y := (⟨"com/example/lapse/lapse/MarkingCodeFitsPinLaw", "draw", "(JJ)J"⟩ : MethodName)) hown (mvT hZ (hw _ (List.mem_of_getElem? (i := 5) rfl))) (mvT hZ (hw _ (List.mem_of_getElem? (i := 6) rfl))) (mvT hZ (hw _ (List.mem_of_getElem? (i := 7) rfl))) (mvT hZ (hw _ (List.mem_of_getElem? (i := 8) rfl))) (by decide) (backOf (W := 2) (own_r2 l Z a0 hw [] b_ (1 : Int64)  h553 n0 SZ553 ) hZ (hw _ (List.mem_of_getElem? (i := 8) rfl)) (hw _ (List.mem_of_getElem? (i := 7) rfl)) (by decide) (by decide)) (g := (mkF m 76 #[.val (.int w0), .val (.int g0), .val (.long a_), .second, .val (.long b_), .second, .val (.long c_), .second, .val (.int (3 : Int32)), .val (.int (1 : Int32)), .val (.int (Int32.ofNat (kk.val + 1))), .val (.long mt), .second, .val (.ref b550), .unset, .unset, .unset] [(.long (1 : Int64)), (.long b_), (.int (1 : Int32)), (.ref b550)])) rfl (by rw [hml]; rfl) (argsL := [(.long b_), (.long (1 : Int64))]) (rest := [(.int (1 : Int32)), (.ref b550)]) (lenOf own_pd_1 rfl) rfl (by show 2 * 0 + _ ≤ _; exact Nat.le_of_eq rfl) (hb hby at_76) (fun _ _ => ⟨rfl, e553, (by decide : 1 + 0 ≤ _), (by decide : 3 + 0 ≤ _)⟩)
      dsimp only [Pt.U, Pt.locs, Pt.cells, Pt.slots] at X554 l554 y554 z554 st554 hQ554
      subst l554 y554 z554
      obtain ⟨rfl, N554q, e554⟩ := hQ554
      have N554 := Fr.app N553 N554q
      refine own_by st554 ?_
      show own_Go p e below T554 (mkF m 79 #[.val (.int w0), .val (.int g0), .val (.long a_), .second, .val (.long b_), .second, .val (.long c_), .second, .val (.int (3 : Int32)), .val (.int (1 : Int32)), .val (.int (Int32.ofNat (kk.val + 1))), .val (.long mt), .second, .val (.ref b550), .unset, .unset, .unset] [(.long (own_f2 b_ (1 : Int64))), (.int (1 : Int32)), (.ref b550)]) _
      obtain ⟨T555, h555, X555, e555, W555, fa555, st555⟩ := own_stJ X554 hx hZ e554 fa553 (k := 1) (by decide) (by decide) (g := (mkF m 79 #[.val (.int w0), .val (.int g0), .val (.long a_), .second, .val (.long b_), .second, .val (.long c_), .second, .val (.int (3 : Int32)), .val (.int (1 : Int32)), .val (.int (Int32.ofNat (kk.val + 1))), .val (.long mt), .second, .val (.ref b550), .unset, .unset, .unset] [(.long (own_f2 b_ (1 : Int64))), (.int (1 : Int32)), (.ref b550)])) rfl rfl (hb hby at_79)
      have N555 := Fr.snoc X555 N554 ge_b550
      have SZ555 : n0 ≤ h555.size := by rw [W555.size]; exact SZ553
      refine own_by st555 ?_
      show own_Go p e below T555 (mkF m 80 #[.val (.int w0), .val (.int g0), .val (.long a_), .second, .val (.long b_), .second, .val (.long c_), .second, .val (.int (3 : Int32)), .val (.int (1 : Int32)), .val (.int (Int32.ofNat (kk.val + 1))), .val (.long mt), .second, .val (.ref b550), .unset, .unset, .unset] []) _
      refine own_s_aload X555.here hx (hb hby at_80) rfl rfl ?_
      refine own_s_iconst X555.here hx (2 : Int32) (hb hby at_82) rfl ?_
      refine own_s_lload X555.here hx (hb hby at_83) rfl ?_
      refine own_s_lconst X555.here hx (1 : Int64) (hb hby at_85) rfl ?_
      obtain ⟨_, _, ⟨T556, L556, k556, n556⟩, -, X556, ⟨Lc556, hQ556, l556, y556, z556⟩, st556⟩ := Jvm.LawKit.callS X555 hx (y := (⟨"com/example/lapse/lapse/MarkingCodeFitsPinLaw", "draw", "(JJ)J"⟩ : MethodName)) hown (mvT hZ (hw _ (List.mem_of_getElem? (i := 5) rfl))) (mvT hZ (hw _ (List.mem_of_getElem? (i := 6) rfl))) (mvT hZ (hw _ (List.mem_of_getElem? (i := 7) rfl))) (mvT hZ (hw _ (List.mem_of_getElem? (i := 8) rfl))) (by decide) (backOf (W := 2) (own_r2 l Z a0 hw [] c_ (1 : Int64)  h555 n0 SZ555 ) hZ (hw _ (List.mem_of_getElem? (i := 8) rfl)) (hw _ (List.mem_of_getElem? (i := 7) rfl)) (by decide) (by decide)) (g := (mkF m 86 #[.val (.int w0), .val (.int g0), .val (.long a_), .second, .val (.long b_), .second, .val (.long c_), .second, .val (.int (3 : Int32)), .val (.int (1 : Int32)), .val (.int (Int32.ofNat (kk.val + 1))), .val (.long mt), .second, .val (.ref b550), .unset, .unset, .unset] [(.long (1 : Int64)), (.long c_), (.int (2 : Int32)), (.ref b550)])) rfl (by rw [hml]; rfl) (argsL := [(.long c_), (.long (1 : Int64))]) (rest := [(.int (2 : Int32)), (.ref b550)]) (lenOf own_pd_1 rfl) rfl (by show 2 * 0 + _ ≤ _; exact Nat.le_of_eq rfl) (hb hby at_86) (fun _ _ => ⟨rfl, e555, (by decide : 1 + 0 ≤ _), (by decide : 3 + 0 ≤ _)⟩)
      dsimp only [Pt.U, Pt.locs, Pt.cells, Pt.slots] at X556 l556 y556 z556 st556 hQ556
      subst l556 y556 z556
      obtain ⟨rfl, N556q, e556⟩ := hQ556
      have N556 := Fr.app N555 N556q
      refine own_by st556 ?_
      show own_Go p e below T556 (mkF m 89 #[.val (.int w0), .val (.int g0), .val (.long a_), .second, .val (.long b_), .second, .val (.long c_), .second, .val (.int (3 : Int32)), .val (.int (1 : Int32)), .val (.int (Int32.ofNat (kk.val + 1))), .val (.long mt), .second, .val (.ref b550), .unset, .unset, .unset] [(.long (own_f2 c_ (1 : Int64))), (.int (2 : Int32)), (.ref b550)]) _
      obtain ⟨T557, h557, X557, e557, W557, fa557, st557⟩ := own_stJ X556 hx hZ e556 fa555 (k := 2) (by decide) (by decide) (g := (mkF m 89 #[.val (.int w0), .val (.int g0), .val (.long a_), .second, .val (.long b_), .second, .val (.long c_), .second, .val (.int (3 : Int32)), .val (.int (1 : Int32)), .val (.int (Int32.ofNat (kk.val + 1))), .val (.long mt), .second, .val (.ref b550), .unset, .unset, .unset] [(.long (own_f2 c_ (1 : Int64))), (.int (2 : Int32)), (.ref b550)])) rfl rfl (hb hby at_89)
      have N557 := Fr.snoc X557 N556 ge_b550
      have SZ557 : n0 ≤ h557.size := by rw [W557.size]; exact SZ555
      refine own_by st557 ?_
      show own_Go p e below T557 (mkF m 90 #[.val (.int w0), .val (.int g0), .val (.long a_), .second, .val (.long b_), .second, .val (.long c_), .second, .val (.int (3 : Int32)), .val (.int (1 : Int32)), .val (.int (Int32.ofNat (kk.val + 1))), .val (.long mt), .second, .val (.ref b550), .unset, .unset, .unset] []) _
      refine own_s_iconst X557.here hx (3 : Int32) (hb hby at_90) rfl ?_
      obtain ⟨T558, h558, k558, X558, e558, E558, A558, st558⟩ := newP X557 hx hZ (hw _ (List.mem_of_getElem? (i := 4) rfl)) e557 (g := (mkF m 91 #[.val (.int w0), .val (.int g0), .val (.long a_), .second, .val (.long b_), .second, .val (.long c_), .second, .val (.int (3 : Int32)), .val (.int (1 : Int32)), .val (.int (Int32.ofNat (kk.val + 1))), .val (.long mt), .second, .val (.ref b550), .unset, .unset, .unset] [(.int (3 : Int32))])) rfl (hb hby at_91) rfl (by decide) (cap := 3) (by decide) (by decide) (by decide) (by decide)
      obtain ⟨b558, g558⟩ : ∃ z, z = h557.size := ⟨_, rfl⟩
      rw [← g558] at A558 st558
      have ge_b558 : n0 ≤ b558 := Nat.le_trans SZ557 (Nat.le_of_eq g558.symm)
      have ne_b550_b558 : b550 ≠ b558 := Nat.ne_of_lt (Nat.lt_of_lt_of_le fa557.lt (Nat.le_of_eq g558.symm))
      have f559 := fa557.ext E558
      have SZ558 : n0 ≤ h558.size := Nat.le_trans SZ557 E558.1
      have f560 : own_Av Z h558 b558 .long 3 (fun _ => (.long (0 : Int64))) := own_Av.ofnew A558 (by decide) rfl
      refine own_by st558 ?_
      show own_Go p e below T558 (mkF m 93 #[.val (.int w0), .val (.int g0), .val (.long a_), .second, .val (.long b_), .second, .val (.long c_), .second, .val (.int (3 : Int32)), .val (.int (1 : Int32)), .val (.int (Int32.ofNat (kk.val + 1))), .val (.long mt), .second, .val (.ref b550), .unset, .unset, .unset] [(.ref b558)]) _
      refine own_s_astore X558.here hx #[.val (.int w0), .val (.int g0), .val (.long a_), .second, .val (.long b_), .second, .val (.long c_), .second, .val (.int (3 : Int32)), .val (.int (1 : Int32)), .val (.int (Int32.ofNat (kk.val + 1))), .val (.long mt), .second, .val (.ref b550), .val (.ref b558), .unset, .unset] (hb hby at_93) rfl rfl ?_
      refine own_s_aload X558.here hx (hb hby at_95) rfl rfl ?_
      refine own_s_iconst X558.here hx (0 : Int32) (hb hby at_97) rfl ?_
      refine own_s_lconst X558.here hx (1 : Int64) (hb hby at_98) rfl ?_
      refine own_s_iload X558.here hx (hb hby at_99) rfl ?_
      refine own_s_lshl X558.here hx (hb hby at_101) ?_
      obtain ⟨T561, h561, X561, e561, W561, fa561, st561⟩ := own_stJ X558 hx hZ e558 f560 (k := 0) (by decide) (by decide) (g := (mkF m 102 #[.val (.int w0), .val (.int g0), .val (.long a_), .second, .val (.long b_), .second, .val (.long c_), .second, .val (.int (3 : Int32)), .val (.int (1 : Int32)), .val (.int (Int32.ofNat (kk.val + 1))), .val (.long mt), .second, .val (.ref b550), .val (.ref b558), .unset, .unset] [(.long ((1 : Int64) <<< ((Int32.ofNat (kk.val + 1)) &&& 0x3f).toInt64)), (.int (0 : Int32)), (.ref b558)])) rfl rfl (hb hby at_102)
      have f562 := f559.other W561 ne_b550_b558
      have N561 := Fr.snoc X561 N557 ge_b558
      have SZ561 : n0 ≤ h561.size := by rw [W561.size]; exact SZ558
      refine own_by st561 ?_
      show own_Go p e below T561 (mkF m 103 #[.val (.int w0), .val (.int g0), .val (.long a_), .second, .val (.long b_), .second, .val (.long c_), .second, .val (.int (3 : Int32)), .val (.int (1 : Int32)), .val (.int (Int32.ofNat (kk.val + 1))), .val (.long mt), .second, .val (.ref b550), .val (.ref b558), .unset, .unset] []) _
      have f563 : own_Av Z h561 b550 .long 3 (fun j => .long ((own_b3 (own_f2 a_ mt) (own_f2 b_ (1 : Int64)) (own_f2 c_ (1 : Int64))) j)) := f562.cong rfl (fun j hj => by
        match j, hj with
        | 0, _ => rfl
        | 1, _ => rfl
        | 2, _ => rfl)
      obtain ⟨T564, h564, X564, e564, E564, A564, D564, -, st564⟩ := newO X561 hx hZ hown (hw _ (List.mem_of_getElem? (i := 10) rfl)) (hw _ (List.mem_of_getElem? (i := 11) rfl)) (hw _ (List.mem_of_getElem? (i := 12) rfl)) e561 (g := (mkF m 103 #[.val (.int w0), .val (.int g0), .val (.long a_), .second, .val (.long b_), .second, .val (.long c_), .second, .val (.int (3 : Int32)), .val (.int (1 : Int32)), .val (.int (Int32.ofNat (kk.val + 1))), .val (.long mt), .second, .val (.ref b550), .val (.ref b558), .unset, .unset] [])) rfl (hb hby at_103) (by decide) (by decide)
      obtain ⟨b564, g564⟩ : ∃ z, z = h561.size := ⟨_, rfl⟩
      rw [← g564] at A564 D564 st564
      have ge_b564 : n0 ≤ b564 := Nat.le_trans SZ561 (Nat.le_of_eq g564.symm)
      have ne_b550_b564 : b550 ≠ b564 := Nat.ne_of_lt (Nat.lt_of_lt_of_le f563.lt (Nat.le_of_eq g564.symm))
      have ne_b558_b564 : b558 ≠ b564 := Nat.ne_of_lt (Nat.lt_of_lt_of_le fa561.lt (Nat.le_of_eq g564.symm))
      have f565 := f563.ext E564
      have f566 := fa561.ext E564
      have SZ564 : n0 ≤ h564.size := Nat.le_trans SZ561 E564.1
      have f567 : Fld Z h564 b564 "com/example/lapse/lapse/MarkingCode" "most" "[I" .null := D564 (Or.inr (hw _ (List.mem_of_getElem? (i := 31) rfl))) (ty := (.array .int)) (by decide)
      have f568 : Fld Z h564 b564 "com/example/lapse/lapse/MarkingCode" "words" "[I" .null := D564 (Or.inr (hw _ (List.mem_of_getElem? (i := 33) rfl))) (ty := (.array .int)) (by decide)
      have f569 : Fld Z h564 b564 "com/example/lapse/lapse/MarkingCode" "shifts" "[I" .null := D564 (Or.inr (hw _ (List.mem_of_getElem? (i := 35) rfl))) (ty := (.array .int)) (by decide)
      have f570 : Fld Z h564 b564 "com/example/lapse/lapse/MarkingCode" "length" "I" (.int (0 : Int32)) := D564 (Or.inr (hw _ (List.mem_of_getElem? (i := 37) rfl))) (ty := .int) (by decide)
      refine own_by st564 ?_
      show own_Go p e below T564 (mkF m 106 #[.val (.int w0), .val (.int g0), .val (.long a_), .second, .val (.long b_), .second, .val (.long c_), .second, .val (.int (3 : Int32)), .val (.int (1 : Int32)), .val (.int (Int32.ofNat (kk.val + 1))), .val (.long mt), .second, .val (.ref b550), .val (.ref b558), .unset, .unset] [(.ref b564)]) _
      refine own_s_dup X564.here hx (hb hby at_106) rfl ?_
      refine own_s_iload X564.here hx (hb hby at_107) rfl ?_
      obtain ⟨_, _, ⟨T571, L571, k571, n571⟩, -, X571, ⟨Lc571, hQ571, l571, y571, z571⟩, st571⟩ := X564.specialBack hx (y := (⟨"com/example/lapse/lapse/MarkingCode", "<init>", "(I)V"⟩ : MethodName)) rfl hown (mvT hZ (hw _ (List.mem_of_getElem? (i := 13) rfl))) (mvT hZ (hw _ (List.mem_of_getElem? (i := 14) rfl))) (mvT hZ (hw _ (List.mem_of_getElem? (i := 15) rfl))) (by decide) (backOf (W := 1) (own_r3 l Z a0 hw [] b564 (3 : Int32) 3 h564 n0 SZ564 (by decide) (by decide) (by decide) A564 f567 f568 f569 f570 ge_b564) hZ (hw _ (List.mem_of_getElem? (i := 15) rfl)) (hw _ (List.mem_of_getElem? (i := 12) rfl)) (by decide) (by decide)) (g := (mkF m 109 #[.val (.int w0), .val (.int g0), .val (.long a_), .second, .val (.long b_), .second, .val (.long c_), .second, .val (.int (3 : Int32)), .val (.int (1 : Int32)), .val (.int (Int32.ofNat (kk.val + 1))), .val (.long mt), .second, .val (.ref b550), .val (.ref b558), .unset, .unset] [(.int (3 : Int32)), (.ref b564), (.ref b564)])) rfl (by rw [hml]; rfl) (Steps.refl _) (a := b564) (argsL := [(.int (3 : Int32))]) (rest := [(.ref b564)]) (lenOf own_pd_2 rfl) rfl (by show 2 * 0 + _ ≤ _; exact Nat.le_of_eq rfl) (hb hby at_109) (fun _ _ => ⟨rfl, e564, (by decide : 3 + 4 ≤ _), (by decide : 10 + 12 ≤ _)⟩)
      dsimp only [Pt.U, Pt.locs, Pt.cells, Pt.slots] at X571 l571 y571 z571 st571 hQ571
      subst l571 y571 z571
      obtain ⟨rfl, N571q, K571, am571, aw571, as571, gm571, gw571, gs571, zm571, zw571, zs571, nmw571, nms571, nws571, fm571, Am571, fw571, Aw571, fs571, As571, fl571⟩ := hQ571
      have N571 := Fr.app N561 N571q
      have f572 := f565.keep K571 (ninS ne_b550_b564 nin0)
      have f573 := f566.keep K571 (ninS ne_b558_b564 nin0)
      have f574 := A564.keep K571
      have SZ571 : n0 ≤ T571.heap.size := Nat.le_trans SZ564 K571.1
      refine own_by (fun t k => st571.trans k) ?_
      have ne_b550_am571 : b550 ≠ am571 := Nat.ne_of_lt (Nat.lt_of_lt_of_le f565.lt zm571)
      have ne_b558_am571 : b558 ≠ am571 := Nat.ne_of_lt (Nat.lt_of_lt_of_le f566.lt zm571)
      have ne_b564_am571 : b564 ≠ am571 := Nat.ne_of_lt (Nat.lt_of_lt_of_le A564.lt zm571)
      have ne_b550_aw571 : b550 ≠ aw571 := Nat.ne_of_lt (Nat.lt_of_lt_of_le f565.lt zw571)
      have ne_b558_aw571 : b558 ≠ aw571 := Nat.ne_of_lt (Nat.lt_of_lt_of_le f566.lt zw571)
      have ne_b564_aw571 : b564 ≠ aw571 := Nat.ne_of_lt (Nat.lt_of_lt_of_le A564.lt zw571)
      have ne_b550_as571 : b550 ≠ as571 := Nat.ne_of_lt (Nat.lt_of_lt_of_le f565.lt zs571)
      have ne_b558_as571 : b558 ≠ as571 := Nat.ne_of_lt (Nat.lt_of_lt_of_le f566.lt zs571)
      have ne_b564_as571 : b564 ≠ as571 := Nat.ne_of_lt (Nat.lt_of_lt_of_le A564.lt zs571)
      show own_Go p e below T571 (mkF m 112 #[.val (.int w0), .val (.int g0), .val (.long a_), .second, .val (.long b_), .second, .val (.long c_), .second, .val (.int (3 : Int32)), .val (.int (1 : Int32)), .val (.int (Int32.ofNat (kk.val + 1))), .val (.long mt), .second, .val (.ref b550), .val (.ref b558), .unset, .unset] [(.ref b564)]) _
      refine own_s_astore X571.here hx #[.val (.int w0), .val (.int g0), .val (.long a_), .second, .val (.long b_), .second, .val (.long c_), .second, .val (.int (3 : Int32)), .val (.int (1 : Int32)), .val (.int (Int32.ofNat (kk.val + 1))), .val (.long mt), .second, .val (.ref b550), .val (.ref b558), .val (.ref b564), .unset] (hb hby at_112) rfl rfl ?_
      have f575 : own_Av Z T571.heap am571 .int 3 (fun _ => .int (1 : Int32)) := Am571.cong rfl (fun j _ => congrArg Value.int own_mo1)
      refine own_s_iload X571.here hx (hb hby at_114) rfl ?_
      refine own_s_ifNo X571.here hx (hb hby at_116) (Jvm.Free.XT.i0_eq_f ((by decide))) ?_
      refine own_s_aload X571.here hx (hb hby at_119) rfl rfl ?_
      refine own_s_aload X571.here hx (hb hby at_121) rfl rfl ?_
      obtain ⟨cq576, kq576, q576a, q576b, q576c⟩ := isOf hZ rfl f574
      obtain ⟨_, _, ⟨T576, L576, k576, n576⟩, -, X576, ⟨Lc576, hQ576, l576, y576, z576⟩, st576⟩ := X571.virtualBack hx (y := (⟨"com/example/lapse/lapse/MarkingCode", "widenedFor", "([J)Lcom/example/lapse/lapse/MarkingCode;"⟩ : MethodName)) (z := (⟨"com/example/lapse/lapse/MarkingCode", "widenedFor", "([J)Lcom/example/lapse/lapse/MarkingCode;"⟩ : MethodName)) hown (mvT hZ (hw _ (List.mem_of_getElem? (i := 38) rfl))) (mvT hZ (hw _ (List.mem_of_getElem? (i := 39) rfl))) (notFace_of_selects (args := #[]) (mvT hZ (hw _ (List.mem_of_getElem? (i := 41) rfl)))) (mvT hZ (hw _ (List.mem_of_getElem? (i := 41) rfl))) (mvT hZ (hw _ (List.mem_of_getElem? (i := 40) rfl))) (by decide) (backOf (W := 0) (own_wf3 l Z a0 hw [] b564 b558 am571 ((1 : Int64) <<< ((Int32.ofNat (kk.val + 1)) &&& 0x3f).toInt64) T571.heap n0 SZ571 hk30.2.2 fm571 f575 f573) hZ (hw _ (List.mem_of_getElem? (i := 42) rfl)) (hw _ (List.mem_of_getElem? (i := 12) rfl)) (by decide) (by decide)) q576a q576c (g := (mkF m 123 #[.val (.int w0), .val (.int g0), .val (.long a_), .second, .val (.long b_), .second, .val (.long c_), .second, .val (.int (3 : Int32)), .val (.int (1 : Int32)), .val (.int (Int32.ofNat (kk.val + 1))), .val (.long mt), .second, .val (.ref b550), .val (.ref b558), .val (.ref b564), .unset] [(.ref b558), (.ref b564)])) rfl (by rw [hml]; rfl) (Steps.refl _) (argsL := [(.ref b558)]) (rest := []) (lenOf own_pd_7 rfl) rfl (by show 2 * 0 + _ ≤ _; exact Nat.le_of_eq rfl) (hb hby at_123) (fun _ _ => ⟨rfl, rfl, (by decide : 7 + 5 ≤ _), (by decide : 22 + 16 ≤ _)⟩)
      dsimp only [Pt.U, Pt.locs, Pt.cells, Pt.slots] at X576 l576 y576 z576 st576 hQ576
      subst l576 y576 z576
      obtain ⟨bb576, rfl, N576q, gb576, K576, eb576, ba576, fm576, fa576⟩ := hQ576
      have N576 := Fr.app N571 N576q
      have f577 := f572.keep K576 nin0
      have f578 := f573.keep K576 nin0
      have f579 := f574.keep K576
      have f580 := fm571.keep K576 nin0
      have f581 := fw571.keep K576 nin0
      have f582 := fs571.keep K576 nin0
      have f583 := fl571.keep K576 nin0
      have f584 := f575.keep K576 nin0
      have f585 := Aw571.keep K576 nin0
      have f586 := As571.keep K576 nin0
      have SZ576 : n0 ≤ T576.heap.size := Nat.le_trans SZ571 K576.1
      refine own_by (fun t k => st576.trans k) ?_
      show own_Go p e below T576 (mkF m 126 #[.val (.int w0), .val (.int g0), .val (.long a_), .second, .val (.long b_), .second, .val (.long c_), .second, .val (.int (3 : Int32)), .val (.int (1 : Int32)), .val (.int (Int32.ofNat (kk.val + 1))), .val (.long mt), .second, .val (.ref b550), .val (.ref b558), .val (.ref b564), .unset] [(.ref bb576)]) _
      refine own_s_astore X576.here hx #[.val (.int w0), .val (.int g0), .val (.long a_), .second, .val (.long b_), .second, .val (.long c_), .second, .val (.int (3 : Int32)), .val (.int (1 : Int32)), .val (.int (Int32.ofNat (kk.val + 1))), .val (.long mt), .second, .val (.ref b550), .val (.ref b558), .val (.ref bb576), .unset] (hb hby at_126) rfl rfl ?_
      exact own_t3w hx hZ hw hby hml hown hnm hret hlk  w0 g0 (1 : Int32) (Int32.ofNat (kk.val + 1)) a_ b_ c_ mt b550 b558 bb576 ba576 (fun j => own_mo (own_wdf (own_f1 (31 : Int32) (((64 : Int32) - (own_f11 ((1 : Int64) <<< ((Int32.ofNat (kk.val + 1)) &&& 0x3f).toInt64))) + (1 : Int32))) j)) (own_b3 (own_f2 a_ mt) (own_f2 b_ (1 : Int64)) (own_f2 c_ (1 : Int64))) X576 rfl N576 SZ576 (by show (own_mo (own_f1 (31 : Int32) (((64 : Int32) - (own_f11 ((1 : Int64) <<< ((Int32.ofNat (kk.val + 1)) &&& 0x3f).toInt64))) + (1 : Int32)))).toInt64 = mt; rw [hk30.1, hk30.2.1, hmt]) (by show (own_mo (1 : Int32)).toInt64 = _; decide) (by show (own_mo (1 : Int32)).toInt64 = _; decide) eb576 fm576 fa576 f577
set_option maxRecDepth 65536 in
set_option maxHeartbeats 40000000 in
theorem own_comes {Post : Tables → Env → Array Value → State → Outcome → State → Prop} (hpost : ∀ tb e args s v u, (limb_1_1.after args s (.returned v) u = true ∧ limb_1_2.after args s (.returned v) u = true ∧ True) → FrameEnd s (.returned v) u (Jvm.fieldLocs frame_1_writes args s ++ Jvm.arrayLocs frame_1_arrays args s ++ Jvm.staticLocs frame_1_statics s) 32 192 → Post tb e args s (.returned v) u) :
    ArmFor flags0 classFile x code maxLocals ret World_1 tables_1 room_1 Calls_1 rest_1 Pre_1 Post := by
  intro l hfl _ _ p e ha hc hk s m args below hf hA hF happ hP
  obtain ⟨hcalls, hrest, hpre⟩ := hP
  obtain ⟨-, -, -, hnamed, -, -, -, hat⟩ := (Spec.applies_iff hf).mp happ
  obtain ⟨hg, hn⟩ := and_e (Cond.before_iff.mp (show (Jvm.Cond.and given_1 narrow_1).before args s = true from hpre))
  obtain ⟨g1, g2⟩ := and_e hg
  obtain ⟨g3, g4⟩ := and_e g2
  obtain ⟨g5, g6⟩ := and_e g4
  obtain ⟨g7, g8⟩ := and_e g6
  obtain ⟨g9, g10⟩ := and_e g8
  obtain ⟨w0, w1, w2, w3, w4, rfl⟩ : ∃ w0 w1 w2 w3 w4 : Value, args = #[w0, w1, w2, w3, w4] := by
    have hs : args.size = 5 := by simpa [Cond.value, given_1] using g1
    obtain ⟨L⟩ := args
    match L, hs with
    | [w0, w1, w2, w3, w4], _ => exact ⟨w0, w1, w2, w3, w4, rfl⟩
  have hw := fun d (hd : d ∈ tables_1) => atoms_spec (ws := Jvm.Cond.code x code maxLocals ret :: tables_1) hat d (List.mem_cons_of_mem _ hd)
  obtain ⟨i0, ei0⟩ := is_v g3
  obtain rfl : w0 = (.int i0) := Option.some.inj ei0
  obtain ⟨i1, ei1⟩ := is_v g5
  obtain rfl : w1 = (.int i1) := Option.some.inj ei1
  obtain ⟨i2, ei2⟩ := isL_v g7
  obtain rfl : w2 = (.long i2) := Option.some.inj ei2
  obtain ⟨i3, ei3⟩ := isL_v g9
  obtain rfl : w3 = (.long i3) := Option.some.inj ei3
  obtain ⟨i4, ei4⟩ := isL_v g10
  obtain rfl : w4 = (.long i4) := Option.some.inj ei4
  obtain ⟨n, o, h1, h2, h3, _, L, rfl, ⟨rfl, N⟩, hq⟩ := own_r0 l s _ hw tables_1 i0 i1 i2 i3 i4 s.heap s.heap.size (Nat.le_refl _) p e ha hc hk s m _ below hf ((Spec.applies_iff_loose hf).mp happ).1 ⟨rfl, State.Warmed39.refl s, rfl⟩ trivial
  refine ⟨n, _, h1, h2, h3, hpost _ _ _ _ _ _ ⟨Cond.after_iff.mpr rfl, Cond.after_iff.mpr (eq_i res_at (Term.int_eval (1)) rfl), trivial⟩ ⟨hq.1, hq.2.1, (hq.2.2.sift fun y hy => Or.inr (N y hy)).mono (by decide) (by decide)⟩⟩
theorem main_1_1 : Claimed_1_1 := own_comes fun _ _ _ _ _ _ h hF => ⟨h.1, hF⟩
theorem main_1_2 : Claimed_1_2 := own_comes fun _ _ _ _ _ _ h hF => ⟨h.2.1, hF⟩
end Jvm.Pilot.@@N@@
namespace Jvm.Pilot.@@N@@
open Jvm Jvm.ClassFile Sem Op Lib Jvm.Free Jvm.Stand Jvm.Pilot.@@N@@.Jvm.D
/-! MADE BY PROGRAM (witnessworld.py) out of the Statement's table words and the real class files: 19 classes; the members and pool entries that the words name. The judged class is class 1, her method 1. -/
namespace start1
open Jvm.ClassFile
def u (s : String) : CpInfo := .utf8 (stringToUtf16 s)
/-- a pool by its gaps: so many unusable entries, then the entry; so many at the end -/
def gap : Nat → List CpInfo → List CpInfo
  | 0, r => r
  | n + 1, r => .unusable :: gap n r
def poolList (es : List (Nat × CpInfo)) (last : Nat) : List CpInfo := es.foldr (fun e r => gap e.1 (e.2 :: r)) (gap last [])
def pool (es : List (Nat × CpInfo)) (last : Nat) : Array CpInfo := ⟨poolList es last⟩
def fileOf (pool : Array CpInfo) (this : Nat) (attrs : Array Attribute := #[]) (ms : Array MethodInfo := #[]) (fl : Nat := 33) (sup : Nat := 0) (ifs : Array Nat := #[]) (fds : Array FieldInfo := #[]) : ClassFile where
  minorVersion := 0
  majorVersion := 65
  constantPool := pool
  accessFlags := fl
  thisClass := this
  superClass := sup
  interfaces := ifs
  fields := fds
  methods := ms
  attributes := attrs
def plain (name : String) (sup : Option ClassId) : Class where
  name := name
  kind := .ordinary
  loader := none
  accessFlags := 33
  super := sup
  interfaces := #[]
  cf := none
  fields := #[]
  methods := #[]
  instanceTypes := #[]
  staticTypes := #[]
  resolved := #[]
  callSites := []
  init := .initialized
  statics := none
  mirror := none

def pool0 : Array CpInfo := pool [(5, u "<init>"), (0, u "()V"), (1, .class_ 10), (1, u "java/lang/Object")] 113

def k0c0 : Code := { maxStack := 0, maxLocals := 1, code := object_method_1_code, exceptionTable := #[], attributes := #[] }
def k0m0 : Method := { name := "<init>", desc := "()V", sig := { parameters := [], returnType := none }, accessFlags := 1, code := some k0c0 }
/-- java/lang/Object -/
def k0 : Class := { plain "java/lang/Object" none with
  accessFlags := 33
  interfaces := #[]
  cf := some (fileOf pool0 8 #[] #[{ accessFlags := 1, nameIndex := 5, descriptorIndex := 6, attributes := #[] }] 33 0 #[] #[])
  fields := #[]
  methods := #[k0m0]
  instanceTypes := #[]
  staticTypes := #[]
  resolved := Array.replicate 124 none
  statics := none }

def pool1 : Array CpInfo := pool [(2, .class_ 4), (1, u "java/lang/Object"), (0, u "<init>"), (0, u "()V"), (0, .methodref 8 9), (0, .class_ 10), (0, .nameAndType 11 12), (0, u "java/lang/Math"), (0, u "min"), (0, u "(II)I"), (0, .methodref 14 15), (0, .class_ 16), (0, .nameAndType 17 18), (0, u "com/example/lapse/lapse/MarkingCodeFitsPinLaw"), (0, u "draw"), (0, u "(JJ)J"), (0, .class_ 20), (0, u "com/example/lapse/lapse/MarkingCode"), (0, .methodref 19 22), (0, .nameAndType 5 23), (0, u "(I)V"), (0, .methodref 19 25), (0, .nameAndType 26 27), (0, u "widenedFor"), (0, u "([J)Lcom/example/lapse/lapse/MarkingCode;"), (0, .methodref 19 29), (0, .nameAndType 30 31), (0, u "fits"), (0, u "([J)Z"), (0, .long 2), (3, u "law"), (0, u "(IIJJJ)Z")] 5

def k1m0 : Method := { name := "<init>", desc := "()V", sig := { parameters := [], returnType := none }, accessFlags := 1, code := none }
def k1c1 : Code := { maxStack := 6, maxLocals := 17, code := code, exceptionTable := #[], attributes := #[] }
def k1m1 : Method := { name := "law", desc := "(IIJJJ)Z", sig := { parameters := [.int, .int, .long, .long, .long], returnType := some .boolean }, accessFlags := 9, code := some k1c1 }
def k1c2 : Code := { maxStack := 6, maxLocals := 4, code := method_3_code, exceptionTable := #[], attributes := #[] }
def k1m2 : Method := { name := "draw", desc := "(JJ)J", sig := { parameters := [.long, .long], returnType := some .long }, accessFlags := 10, code := some k1c2 }
/-- com/example/lapse/lapse/MarkingCodeFitsPinLaw -/
def k1 : Class := { plain "com/example/lapse/lapse/MarkingCodeFitsPinLaw" (some 0) with
  accessFlags := 49
  interfaces := #[]
  cf := some (fileOf pool1 14 #[] #[{ accessFlags := 1, nameIndex := 5, descriptorIndex := 6, attributes := #[] }, { accessFlags := 9, nameIndex := 36, descriptorIndex := 37, attributes := #[] }, { accessFlags := 10, nameIndex := 17, descriptorIndex := 18, attributes := #[] }] 49 2 #[] #[])
  fields := #[]
  methods := #[k1m0, k1m1, k1m2]
  instanceTypes := #[]
  staticTypes := #[]
  resolved := Array.replicate 43 none
  statics := none }

def pool2 : Array CpInfo := pool [(1, .class_ 2), (0, u "java/lang/Math"), (1, .class_ 6), (1, u "java/lang/Object"), (0, u "<init>"), (0, u "()V"), (89, .class_ 100), (1, u "java/lang/Math$RandomNumberGeneratorHolder"), (71, u "negativeZeroFloatBits"), (0, u "J"), (2, u "negativeZeroDoubleBits"), (24, u "min"), (43, u "$assertionsDisabled"), (0, u "Z"), (88, u "(II)I"), (2, u "twoToTheDoubleScaleDown"), (0, u "D"), (4, u "twoToTheDoubleScaleUp"), (9, u "E"), (3, u "PI"), (2, u "TAU"), (2, u "DEGREES_TO_RADIANS"), (0, u "RADIANS_TO_DEGREES")] 94

def k2m0 : Method := { name := "<init>", desc := "()V", sig := { parameters := [], returnType := none }, accessFlags := 2, code := none }
def k2c1 : Code := { maxStack := 2, maxLocals := 2, code := jdk_29_method_69_code, exceptionTable := #[], attributes := #[] }
def k2m1 : Method := { name := "min", desc := "(II)I", sig := { parameters := [.int, .int], returnType := some .int }, accessFlags := 9, code := some k2c1 }
/-- java/lang/Math -/
def k2 : Class := { plain "java/lang/Math" (some 0) with
  accessFlags := 49
  interfaces := #[]
  cf := some (fileOf pool2 1 #[.nestMembers #[98]] #[{ accessFlags := 2, nameIndex := 7, descriptorIndex := 8, attributes := #[] }, { accessFlags := 9, nameIndex := 201, descriptorIndex := 335, attributes := #[] }] 49 4 #[] #[{ accessFlags := 25, nameIndex := 354, descriptorIndex := 339, attributes := #[] }, { accessFlags := 25, nameIndex := 358, descriptorIndex := 339, attributes := #[] }, { accessFlags := 25, nameIndex := 361, descriptorIndex := 339, attributes := #[] }, { accessFlags := 26, nameIndex := 364, descriptorIndex := 339, attributes := #[] }, { accessFlags := 26, nameIndex := 365, descriptorIndex := 339, attributes := #[] }, { accessFlags := 26, nameIndex := 172, descriptorIndex := 173, attributes := #[] }, { accessFlags := 26, nameIndex := 176, descriptorIndex := 173, attributes := #[] }, { accessFlags := 8, nameIndex := 344, descriptorIndex := 339, attributes := #[] }, { accessFlags := 8, nameIndex := 338, descriptorIndex := 339, attributes := #[] }, { accessFlags := 4120, nameIndex := 245, descriptorIndex := 246, attributes := #[] }])
  fields := #[{ name := "E", type := .double, accessFlags := 25, slot := 0, constantValue := 0 }, { name := "PI", type := .double, accessFlags := 25, slot := 1, constantValue := 0 }, { name := "TAU", type := .double, accessFlags := 25, slot := 2, constantValue := 0 }, { name := "DEGREES_TO_RADIANS", type := .double, accessFlags := 26, slot := 3, constantValue := 0 }, { name := "RADIANS_TO_DEGREES", type := .double, accessFlags := 26, slot := 4, constantValue := 0 }, { name := "negativeZeroFloatBits", type := .long, accessFlags := 26, slot := 5, constantValue := 0 }, { name := "negativeZeroDoubleBits", type := .long, accessFlags := 26, slot := 6, constantValue := 0 }, { name := "twoToTheDoubleScaleUp", type := .double, accessFlags := 8, slot := 7, constantValue := 0 }, { name := "twoToTheDoubleScaleDown", type := .double, accessFlags := 8, slot := 8, constantValue := 0 }, { name := "$assertionsDisabled", type := .boolean, accessFlags := 4120, slot := 9, constantValue := 0 }]
  methods := #[k2m0, k2m1]
  instanceTypes := #[]
  staticTypes := #[.double, .double, .double, .double, .double, .long, .long, .double, .double, .boolean]
  resolved := Array.replicate 460 none
  statics := none }

def pool3 : Array CpInfo := pool [(1, .methodref 2 3), (0, .class_ 4), (0, .nameAndType 5 6), (0, u "com/example/lapse/lapse/MarkingCode"), (0, u "ones"), (0, u "(I)[I"), (0, .methodref 2 8), (0, .nameAndType 9 10), (0, u "<init>"), (0, u "([I)V"), (0, .methodref 12 13), (0, .class_ 14), (0, .nameAndType 9 15), (0, u "java/lang/Object"), (0, u "()V"), (0, .fieldref 2 17), (0, .nameAndType 18 19), (0, u "most"), (0, u "[I"), (0, .fieldref 2 21), (0, .nameAndType 22 19), (0, u "words"), (0, .fieldref 2 24), (0, .nameAndType 25 19), (0, u "shifts"), (0, .class_ 27), (0, u "java/lang/Long"), (0, .fieldref 2 29), (0, .nameAndType 30 31), (0, u "length"), (0, u "I"), (0, .class_ 33), (0, u "java/lang/Integer"), (0, .methodref 32 35), (0, .nameAndType 36 37), (0, u "numberOfLeadingZeros"), (0, u "(I)I"), (0, .methodref 26 39), (0, .nameAndType 36 40), (0, u "(J)I"), (0, .methodref 42 43), (0, .class_ 44), (0, .nameAndType 45 46), (0, u "java/lang/Math"), (0, u "min"), (0, u "(II)I"), (4, .methodref 52 53), (0, .class_ 54), (0, .nameAndType 55 56), (0, u "java/util/Arrays"), (0, u "fill"), (0, u "([II)V"), (0, u "MAX_BITS"), (2, u "(I)V"), (5, u "fits"), (0, u "([J)Z"), (0, u "widenedFor"), (0, u "([J)Lcom/example/lapse/lapse/MarkingCode;")] 8

def k3c0 : Code := { maxStack := 2, maxLocals := 2, code := prog_21_method_1_code, exceptionTable := #[], attributes := #[] }
def k3m0 : Method := { name := "<init>", desc := "(I)V", sig := { parameters := [.int], returnType := none }, accessFlags := 0, code := some k3c0 }
def k3c1 : Code := { maxStack := 6, maxLocals := 6, code := prog_21_method_2_code, exceptionTable := #[], attributes := #[] }
def k3m1 : Method := { name := "<init>", desc := "([I)V", sig := { parameters := [(.array .int)], returnType := none }, accessFlags := 2, code := some k3c1 }
def k3c2 : Code := { maxStack := 4, maxLocals := 3, code := prog_21_method_4_code, exceptionTable := #[], attributes := #[] }
def k3m2 : Method := { name := "fits", desc := "([J)Z", sig := { parameters := [(.array .long)], returnType := some .boolean }, accessFlags := 0, code := some k3c2 }
def k3c3 : Code := { maxStack := 5, maxLocals := 5, code := prog_21_method_5_code, exceptionTable := #[], attributes := #[] }
def k3m3 : Method := { name := "widenedFor", desc := "([J)Lcom/example/lapse/lapse/MarkingCode;", sig := { parameters := [(.array .long)], returnType := some (.object "com/example/lapse/lapse/MarkingCode") }, accessFlags := 0, code := some k3c3 }
def k3c4 : Code := { maxStack := 2, maxLocals := 2, code := prog_21_method_10_code, exceptionTable := #[], attributes := #[] }
def k3m4 : Method := { name := "ones", desc := "(I)[I", sig := { parameters := [.int], returnType := some (.array .int) }, accessFlags := 10, code := some k3c4 }
/-- com/example/lapse/lapse/MarkingCode -/
def k3 : Class := { plain "com/example/lapse/lapse/MarkingCode" (some 0) with
  accessFlags := 48
  interfaces := #[]
  cf := some (fileOf pool3 2 #[] #[{ accessFlags := 0, nameIndex := 9, descriptorIndex := 60, attributes := #[] }, { accessFlags := 2, nameIndex := 9, descriptorIndex := 10, attributes := #[] }, { accessFlags := 0, nameIndex := 66, descriptorIndex := 67, attributes := #[] }, { accessFlags := 0, nameIndex := 68, descriptorIndex := 69, attributes := #[] }, { accessFlags := 10, nameIndex := 5, descriptorIndex := 6, attributes := #[] }] 48 12 #[] #[{ accessFlags := 26, nameIndex := 57, descriptorIndex := 31, attributes := #[] }, { accessFlags := 18, nameIndex := 18, descriptorIndex := 19, attributes := #[] }, { accessFlags := 18, nameIndex := 22, descriptorIndex := 19, attributes := #[] }, { accessFlags := 18, nameIndex := 25, descriptorIndex := 19, attributes := #[] }, { accessFlags := 18, nameIndex := 30, descriptorIndex := 31, attributes := #[] }])
  fields := #[{ name := "MAX_BITS", type := .int, accessFlags := 26, slot := 0, constantValue := 0 }, { name := "most", type := (.array .int), accessFlags := 18, slot := 0, constantValue := 0 }, { name := "words", type := (.array .int), accessFlags := 18, slot := 1, constantValue := 0 }, { name := "shifts", type := (.array .int), accessFlags := 18, slot := 2, constantValue := 0 }, { name := "length", type := .int, accessFlags := 18, slot := 3, constantValue := 0 }]
  methods := #[k3m0, k3m1, k3m2, k3m3, k3m4]
  instanceTypes := #[(.array .int), (.array .int), (.array .int), .int]
  staticTypes := #[.int]
  resolved := Array.replicate 78 none
  statics := none }

def pool4 : Array CpInfo := pool [(2, .class_ 4), (1, u "java/lang/Object"), (0, u "<init>"), (0, u "()V"), (7, .class_ 16), (1, u "java/util/Arrays"), (57, .class_ 76), (1, u "java/util/Arrays$NaturalOrder"), (36, .class_ 115), (1, u "java/util/Arrays$LegacyMergeSort"), (1, u "Z"), (257, .class_ 376), (0, u "java/util/Arrays$ArrayList"), (68, u "$assertionsDisabled"), (269, u "MIN_ARRAY_SORT_GRAN"), (0, u "I"), (2, u "INSERTIONSORT_THRESHOLD"), (120, u "fill"), (4, u "([II)V"), (129, .class_ 976), (0, u "java/util/Arrays$ArrayItr")] 52

def k4m0 : Method := { name := "<init>", desc := "()V", sig := { parameters := [], returnType := none }, accessFlags := 2, code := none }
def k4c1 : Code := { maxStack := 3, maxLocals := 4, code := jdk_65_method_103_code, exceptionTable := #[], attributes := #[] }
def k4m1 : Method := { name := "fill", desc := "([II)V", sig := { parameters := [(.array .int), .int], returnType := none }, accessFlags := 9, code := some k4c1 }
/-- java/util/Arrays -/
def k4 : Class := { plain "java/util/Arrays" (some 0) with
  accessFlags := 49
  interfaces := #[]
  cf := some (fileOf pool4 14 #[.nestMembers #[975, 375, 113, 74]] #[{ accessFlags := 2, nameIndex := 5, descriptorIndex := 6, attributes := #[] }, { accessFlags := 9, nameIndex := 840, descriptorIndex := 845, attributes := #[] }] 49 2 #[] #[{ accessFlags := 26, nameIndex := 715, descriptorIndex := 716, attributes := #[] }, { accessFlags := 26, nameIndex := 719, descriptorIndex := 716, attributes := #[] }, { accessFlags := 4120, nameIndex := 445, descriptorIndex := 117, attributes := #[] }])
  fields := #[{ name := "MIN_ARRAY_SORT_GRAN", type := .int, accessFlags := 26, slot := 0, constantValue := 0 }, { name := "INSERTIONSORT_THRESHOLD", type := .int, accessFlags := 26, slot := 1, constantValue := 0 }, { name := "$assertionsDisabled", type := .boolean, accessFlags := 4120, slot := 2, constantValue := 0 }]
  methods := #[k4m0, k4m1]
  instanceTypes := #[]
  staticTypes := #[.int, .int, .boolean]
  resolved := Array.replicate 1029 none
  statics := none }

def pool5 : Array CpInfo := pool [(1, .class_ 2), (0, u "java/io/Serializable"), (0, .class_ 4), (0, u "java/lang/Object")] 2

/-- java/io/Serializable -/
def k5 : Class := { plain "java/io/Serializable" (some 0) with
  accessFlags := 1537
  interfaces := #[]
  cf := some (fileOf pool5 1 #[] #[] 1537 3 #[] #[])
  fields := #[]
  methods := #[]
  instanceTypes := #[]
  staticTypes := #[]
  resolved := Array.replicate 7 none
  statics := none }

def pool6 : Array CpInfo := pool [(2, .class_ 4), (1, u "java/lang/Object"), (0, u "<init>"), (0, u "()V"), (1, .class_ 10), (1, u "java/lang/Number"), (2, .class_ 14), (0, u "java/io/Serializable"), (0, u "serialVersionUID"), (0, u "J")] 20

def k6m0 : Method := { name := "<init>", desc := "()V", sig := { parameters := [], returnType := none }, accessFlags := 1, code := none }
/-- java/lang/Number -/
def k6 : Class := { plain "java/lang/Number" (some 0) with
  accessFlags := 1057
  interfaces := #[5]
  cf := some (fileOf pool6 8 #[] #[{ accessFlags := 1, nameIndex := 5, descriptorIndex := 6, attributes := #[] }] 1057 2 #[13] #[{ accessFlags := 26, nameIndex := 15, descriptorIndex := 16, attributes := #[] }])
  fields := #[{ name := "serialVersionUID", type := .long, accessFlags := 26, slot := 0, constantValue := 0 }]
  methods := #[k6m0]
  instanceTypes := #[]
  staticTypes := #[.long]
  resolved := Array.replicate 37 none
  statics := none }

def pool7 : Array CpInfo := pool [(1, .class_ 2), (0, u "java/lang/Comparable"), (0, .class_ 4), (0, u "java/lang/Object")] 7

/-- java/lang/Comparable -/
def k7 : Class := { plain "java/lang/Comparable" (some 0) with
  accessFlags := 1537
  interfaces := #[]
  cf := some (fileOf pool7 1 #[] #[] 1537 3 #[] #[])
  fields := #[]
  methods := #[]
  instanceTypes := #[]
  staticTypes := #[]
  resolved := Array.replicate 12 none
  statics := none }

def pool8 : Array CpInfo := pool [(1, .class_ 2), (0, u "java/lang/constant/Constable"), (0, .class_ 4), (0, u "java/lang/Object")] 6

/-- java/lang/constant/Constable -/
def k8 : Class := { plain "java/lang/constant/Constable" (some 0) with
  accessFlags := 1537
  interfaces := #[]
  cf := some (fileOf pool8 1 #[] #[] 1537 3 #[] #[])
  fields := #[]
  methods := #[]
  instanceTypes := #[]
  staticTypes := #[]
  resolved := Array.replicate 11 none
  statics := none }

def pool9 : Array CpInfo := pool [(1, .class_ 2), (0, u "java/lang/constant/ConstantDesc"), (0, .class_ 4), (0, u "java/lang/Object")] 32

/-- java/lang/constant/ConstantDesc -/
def k9 : Class := { plain "java/lang/constant/ConstantDesc" (some 0) with
  accessFlags := 1537
  interfaces := #[]
  cf := some (fileOf pool9 1 #[] #[] 1537 3 #[] #[])
  fields := #[]
  methods := #[]
  instanceTypes := #[]
  staticTypes := #[]
  resolved := Array.replicate 37 none
  statics := none }

def pool10 : Array CpInfo := pool [(1, .class_ 2), (0, u "java/lang/Integer"), (16, u "digits"), (0, u "[C"), (32, u "numberOfLeadingZeros"), (0, u "(I)I"), (30, u "DigitOnes"), (0, u "[B"), (2, u "DigitTens"), (99, .class_ 190), (0, u "java/lang/Integer$IntegerCache"), (3, u "I"), (8, .class_ 204), (0, u "java/lang/Number"), (2, u "value"), (56, .integer 65536), (37, u "TYPE"), (0, u "Ljava/lang/Class;"), (0, .class_ 305), (0, u "java/lang/Comparable"), (0, .class_ 307), (0, u "java/lang/constant/Constable"), (0, .class_ 309), (0, u "java/lang/constant/ConstantDesc"), (0, u "MIN_VALUE"), (1, u "MAX_VALUE"), (3, u "SIZE"), (1, u "BYTES"), (1, u "serialVersionUID"), (0, u "J")] 131

def k10c0 : Code := { maxStack := 3, maxLocals := 2, code := jdk_33_method_47_code, exceptionTable := #[], attributes := #[] }
def k10m0 : Method := { name := "numberOfLeadingZeros", desc := "(I)I", sig := { parameters := [.int], returnType := some .int }, accessFlags := 9, code := some k10c0 }
/-- java/lang/Integer -/
def k10 : Class := { plain "java/lang/Integer" (some 6) with
  accessFlags := 49
  interfaces := #[7, 8, 9]
  cf := some (fileOf pool10 1 #[.nestMembers #[189]] #[{ accessFlags := 9, nameIndex := 53, descriptorIndex := 54, attributes := #[] }] 49 203 #[304, 306, 308] #[{ accessFlags := 25, nameIndex := 310, descriptorIndex := 194, attributes := #[] }, { accessFlags := 25, nameIndex := 312, descriptorIndex := 194, attributes := #[] }, { accessFlags := 25, nameIndex := 302, descriptorIndex := 303, attributes := #[] }, { accessFlags := 24, nameIndex := 19, descriptorIndex := 20, attributes := #[] }, { accessFlags := 24, nameIndex := 89, descriptorIndex := 86, attributes := #[] }, { accessFlags := 24, nameIndex := 85, descriptorIndex := 86, attributes := #[] }, { accessFlags := 18, nameIndex := 207, descriptorIndex := 194, attributes := #[] }, { accessFlags := 25, nameIndex := 316, descriptorIndex := 194, attributes := #[] }, { accessFlags := 25, nameIndex := 318, descriptorIndex := 194, attributes := #[] }, { accessFlags := 26, nameIndex := 320, descriptorIndex := 321, attributes := #[] }])
  fields := #[{ name := "MIN_VALUE", type := .int, accessFlags := 25, slot := 0, constantValue := 0 }, { name := "MAX_VALUE", type := .int, accessFlags := 25, slot := 1, constantValue := 0 }, { name := "TYPE", type := (.object "java/lang/Class"), accessFlags := 25, slot := 2, constantValue := 0 }, { name := "digits", type := (.array .char), accessFlags := 24, slot := 3, constantValue := 0 }, { name := "DigitTens", type := (.array .byte), accessFlags := 24, slot := 4, constantValue := 0 }, { name := "DigitOnes", type := (.array .byte), accessFlags := 24, slot := 5, constantValue := 0 }, { name := "value", type := .int, accessFlags := 18, slot := 0, constantValue := 0 }, { name := "SIZE", type := .int, accessFlags := 25, slot := 6, constantValue := 0 }, { name := "BYTES", type := .int, accessFlags := 25, slot := 7, constantValue := 0 }, { name := "serialVersionUID", type := .long, accessFlags := 26, slot := 8, constantValue := 0 }]
  methods := #[k10m0]
  instanceTypes := #[.int]
  staticTypes := #[.int, .int, (.object "java/lang/Class"), (.array .char), (.array .byte), (.array .byte), .int, .int, .long]
  resolved := Array.replicate 453 none
  statics := none }

def pool11 : Array CpInfo := pool [(1, .class_ 2), (0, u "java/lang/Long"), (15, .class_ 20), (1, u "java/lang/Integer"), (79, u "numberOfLeadingZeros"), (0, u "(J)I"), (133, .class_ 237), (1, u "java/lang/Long$LongCache"), (33, .class_ 272), (0, u "java/lang/Number"), (2, u "value"), (0, u "J"), (31, .methodref 18 309), (0, .nameAndType 100 310), (0, u "(I)I"), (50, u "TYPE"), (0, u "Ljava/lang/Class;"), (0, .class_ 364), (0, u "java/lang/Comparable"), (0, .class_ 366), (0, u "java/lang/constant/Constable"), (0, .class_ 368), (0, u "java/lang/constant/ConstantDesc"), (0, u "MIN_VALUE"), (1, u "MAX_VALUE"), (4, u "SIZE"), (0, u "I"), (1, u "BYTES"), (1, u "serialVersionUID")] 142

def k11c0 : Code := { maxStack := 3, maxLocals := 3, code := jdk_35_method_48_code, exceptionTable := #[], attributes := #[] }
def k11m0 : Method := { name := "numberOfLeadingZeros", desc := "(J)I", sig := { parameters := [.long], returnType := some .int }, accessFlags := 9, code := some k11c0 }
/-- java/lang/Long -/
def k11 : Class := { plain "java/lang/Long" (some 6) with
  accessFlags := 49
  interfaces := #[7, 8, 9]
  cf := some (fileOf pool11 1 #[.nestMembers #[235]] #[{ accessFlags := 9, nameIndex := 100, descriptorIndex := 101, attributes := #[] }] 49 271 #[363, 365, 367] #[{ accessFlags := 25, nameIndex := 369, descriptorIndex := 276, attributes := #[] }, { accessFlags := 25, nameIndex := 371, descriptorIndex := 276, attributes := #[] }, { accessFlags := 25, nameIndex := 361, descriptorIndex := 362, attributes := #[] }, { accessFlags := 18, nameIndex := 275, descriptorIndex := 276, attributes := #[] }, { accessFlags := 25, nameIndex := 376, descriptorIndex := 377, attributes := #[] }, { accessFlags := 25, nameIndex := 379, descriptorIndex := 377, attributes := #[] }, { accessFlags := 26, nameIndex := 381, descriptorIndex := 276, attributes := #[] }])
  fields := #[{ name := "MIN_VALUE", type := .long, accessFlags := 25, slot := 0, constantValue := 0 }, { name := "MAX_VALUE", type := .long, accessFlags := 25, slot := 1, constantValue := 0 }, { name := "TYPE", type := (.object "java/lang/Class"), accessFlags := 25, slot := 2, constantValue := 0 }, { name := "value", type := .long, accessFlags := 18, slot := 0, constantValue := 0 }, { name := "SIZE", type := .int, accessFlags := 25, slot := 3, constantValue := 0 }, { name := "BYTES", type := .int, accessFlags := 25, slot := 4, constantValue := 0 }, { name := "serialVersionUID", type := .long, accessFlags := 26, slot := 5, constantValue := 0 }]
  methods := #[k11m0]
  instanceTypes := #[.long]
  staticTypes := #[.long, .long, (.object "java/lang/Class"), .int, .int, .long]
  resolved := Array.replicate 524 none
  statics := none }

def pool12 : Array CpInfo := pool [(1, u "java/lang/Cloneable"), (0, .class_ 1), (0, u "java/lang/Object"), (0, .class_ 3)] 3

/-- java/lang/Cloneable -/
def k12 : Class := { plain "java/lang/Cloneable" (some 0) with
  accessFlags := 1537
  interfaces := #[]
  cf := some (fileOf pool12 2 #[] #[] 1537 4 #[] #[])
  fields := #[]
  methods := #[]
  instanceTypes := #[]
  staticTypes := #[]
  resolved := Array.replicate 8 none
  statics := none }

/-- the primitive byte -/
def k13 : Class := { plain "byte" none with kind := .primitive 'B', accessFlags := 0x411 }
/-- [B -/
def k14 : Class := { plain "[B" (some 0) with kind := .array 13 .byte, interfaces := #[12, 5], accessFlags := 1041 }

/-- the primitive int -/
def k15 : Class := { plain "int" none with kind := .primitive 'I', accessFlags := 0x411 }
/-- [I -/
def k16 : Class := { plain "[I" (some 0) with kind := .array 15 .int, interfaces := #[12, 5], accessFlags := 1041 }

/-- the primitive long -/
def k17 : Class := { plain "long" none with kind := .primitive 'J', accessFlags := 0x411 }
/-- [J -/
def k18 : Class := { plain "[J" (some 0) with kind := .array 17 .long, interfaces := #[12, 5], accessFlags := 1041 }

def heap : Heap := #[]
def classes : Array Class := #[k0, k1, k2, k3, k4, k5, k6, k7, k8, k9, k10, k11, k12, k13, k14, k15, k16, k17, k18]
def interned : List (Array UInt16 × Addr) := []
def slotsUsed : Nat := 0
def theMethod : MethodId := ⟨1, 1⟩
def args0 : Array Value := #[.int 5, .int 5, .long 5, .long 5, .long 5]
def aboutOver (below : List Frame) : State where
  vm := { classes := classes, interned := interned.toArray }
  heap := heap
  slotsUsed := slotsUsed
  threads := #[{ frames := .invoking theMethod args0 :: below }]
def below0 : List Frame := [.native { method := ⟨0, 0⟩, args := #[] }]
def about1 : State := aboutOver below0
def p0 : Program := .bare "" "" ""
def e0 : Env := launch0.env 0 0 0
theorem w_frames : about1.frames = Frame.invoking theMethod args0 :: below0 := rfl
set_option maxRecDepth 65536 in
theorem w_args : argsFit about1.vm theMethod args0 = true := by decide +kernel
set_option maxRecDepth 65536 in
theorem w_heap : heapFits about1 = true := by decide +kernel
set_option maxRecDepth 65536 in
theorem w_runnable : about1.curStatus? = some .runnable := by decide +kernel
set_option maxRecDepth 65536 in
theorem w_alone : about1.alone = true := by decide +kernel
set_option maxRecDepth 65536 in
theorem w_named : about1.methodNamed? x = some theMethod := by decide +kernel
set_option maxRecDepth 65536 in
theorem w_hears : about1.hears theMethod below0 = true := by decide +kernel
set_option maxRecDepth 65536 in
theorem w_ripe : about1.ripe theMethod args0 below0 = true := by decide +kernel
theorem w_running : about1.status = .running := rfl
set_option maxRecDepth 65536 in
theorem w_room : about1.hasRoom e0.platform room_1 = true :=
  launch0.hasRoom_least _ room_1 (by decide +kernel) (by decide +kernel) (by decide +kernel) (by decide +kernel) (by decide +kernel) (by decide +kernel)
theorem allAtoms_all (ts : List Jvm.Cond) (a : Array Jvm.Value) (st : Jvm.State) : (allAtoms ts).before a st = ts.all (fun c => c.before a st) := by
  induction ts with
  | nil => rfl
  | cons c t ih =>
    show (Jvm.Cond.and c (allAtoms t)).before a st = _
    rw [Jvm.Cond.before_and, ih, List.all_cons]
def words1 : List Jvm.Cond := Jvm.Cond.code x code maxLocals ret :: tables_1
/-- a 'code' word, met by the world's own term for the bytes: nothing is compared byte by byte -/
theorem code_word {y : MethodName} {bytes : ByteArray} {mx : Nat} {rt : Option FieldType} {a : Array Value} {s : State} {m : MethodId} {meth : Method} {c : Code} (h1 : s.methodNamed? y = some m) (h2 : s.vm.method? m = some meth) (h3 : meth.code = some c) (h4 : c.code = bytes)
    (h5 : (c.maxLocals == mx && c.exceptionTable.isEmpty && decide (c.maxStack ≤ mostOperands) && decide (meth.sig.returnType = rt) && !meth.locks && decide (parseMethodDescriptor y.desc = some meth.sig)) = true) : (Jvm.Cond.code y bytes mx rt).before a s = true := by
  simp only [Bool.and_eq_true, beq_iff_eq, Bool.not_eq_true', decide_eq_true_eq] at h5
  obtain ⟨⟨⟨⟨⟨g1, g2⟩, g3⟩, g4⟩, g5⟩, g6⟩ := h5
  simp [Cond.before, Cond.holds, Cond.value, h1, h2, h3, h4, g1, g2, g3, g4, g5, g6]
def isCode : Jvm.Cond → Bool
  | .code _ _ _ _ => true
  | _ => false
theorem all_split {L : List Jvm.Cond} {P : Jvm.Cond → Bool} (h1 : L.all (fun c => isCode c || P c) = true) (h2 : ∀ c ∈ L.filter isCode, P c = true) : L.all P = true := by
  refine List.all_eq_true.mpr fun c hc => ?_
  have h := List.all_eq_true.mp h1 c hc
  rcases Bool.eq_false_or_eq_true (isCode c) with hi | hi
  · exact h2 c (List.mem_filter.mpr ⟨hc, hi⟩)
  · simpa [hi] using h
set_option maxRecDepth 65536 in
theorem w_c0 : (Jvm.Cond.code x code maxLocals ret).before args0 about1 = true := code_word (m := ⟨1, 1⟩) (meth := k1m1) (c := k1c1) (by decide +kernel) rfl rfl rfl (by decide +kernel)
set_option maxRecDepth 65536 in
theorem w_c1 : (Jvm.Cond.code ({ cls := "java/lang/Math", name := "min", desc := "(II)I" } : Jvm.MethodName) jdk_29_method_69_code (2 : Nat) (Option.some Jvm.ClassFile.FieldType.int)).before args0 about1 = true := code_word (m := ⟨2, 1⟩) (meth := k2m1) (c := k2c1) (by decide +kernel) rfl rfl rfl (by decide +kernel)
set_option maxRecDepth 65536 in
theorem w_c2 : (Jvm.Cond.code ({ cls := "com/example/lapse/lapse/MarkingCodeFitsPinLaw", name := "draw", desc := "(JJ)J" } : Jvm.MethodName) method_3_code (4 : Nat) (Option.some Jvm.ClassFile.FieldType.long)).before args0 about1 = true := code_word (m := ⟨1, 2⟩) (meth := k1m2) (c := k1c2) (by decide +kernel) rfl rfl rfl (by decide +kernel)
set_option maxRecDepth 65536 in
theorem w_c3 : (Jvm.Cond.code ({ cls := "com/example/lapse/lapse/MarkingCode", name := "<init>", desc := "(I)V" } : Jvm.MethodName) prog_21_method_1_code (2 : Nat) (Option.none : Option Jvm.ClassFile.FieldType)).before args0 about1 = true := code_word (m := ⟨3, 0⟩) (meth := k3m0) (c := k3c0) (by decide +kernel) rfl rfl rfl (by decide +kernel)
set_option maxRecDepth 65536 in
theorem w_c4 : (Jvm.Cond.code ({ cls := "com/example/lapse/lapse/MarkingCode", name := "ones", desc := "(I)[I" } : Jvm.MethodName) prog_21_method_10_code (2 : Nat) (Option.some (Jvm.ClassFile.FieldType.array Jvm.ClassFile.FieldType.int))).before args0 about1 = true := code_word (m := ⟨3, 4⟩) (meth := k3m4) (c := k3c4) (by decide +kernel) rfl rfl rfl (by decide +kernel)
set_option maxRecDepth 65536 in
theorem w_c5 : (Jvm.Cond.code ({ cls := "java/util/Arrays", name := "fill", desc := "([II)V" } : Jvm.MethodName) jdk_65_method_103_code (4 : Nat) (Option.none : Option Jvm.ClassFile.FieldType)).before args0 about1 = true := code_word (m := ⟨4, 1⟩) (meth := k4m1) (c := k4c1) (by decide +kernel) rfl rfl rfl (by decide +kernel)
set_option maxRecDepth 65536 in
theorem w_c6 : (Jvm.Cond.code ({ cls := "com/example/lapse/lapse/MarkingCode", name := "<init>", desc := "([I)V" } : Jvm.MethodName) prog_21_method_2_code (6 : Nat) (Option.none : Option Jvm.ClassFile.FieldType)).before args0 about1 = true := code_word (m := ⟨3, 1⟩) (meth := k3m1) (c := k3c1) (by decide +kernel) rfl rfl rfl (by decide +kernel)
set_option maxRecDepth 65536 in
theorem w_c7 : (Jvm.Cond.code ({ cls := "java/lang/Object", name := "<init>", desc := "()V" } : Jvm.MethodName) object_method_1_code (1 : Nat) (Option.none : Option Jvm.ClassFile.FieldType)).before args0 about1 = true := code_word (m := ⟨0, 0⟩) (meth := k0m0) (c := k0c0) (by decide +kernel) rfl rfl rfl (by decide +kernel)
set_option maxRecDepth 65536 in
theorem w_c8 : (Jvm.Cond.code ({ cls := "com/example/lapse/lapse/MarkingCode", name := "widenedFor", desc := "([J)Lcom/example/lapse/lapse/MarkingCode;" } : Jvm.MethodName) prog_21_method_5_code (5 : Nat) (Option.some (Jvm.ClassFile.FieldType.object "com/example/lapse/lapse/MarkingCode"))).before args0 about1 = true := code_word (m := ⟨3, 3⟩) (meth := k3m3) (c := k3c3) (by decide +kernel) rfl rfl rfl (by decide +kernel)
set_option maxRecDepth 65536 in
theorem w_c9 : (Jvm.Cond.code ({ cls := "com/example/lapse/lapse/MarkingCode", name := "fits", desc := "([J)Z" } : Jvm.MethodName) prog_21_method_4_code (3 : Nat) (Option.some Jvm.ClassFile.FieldType.boolean)).before args0 about1 = true := code_word (m := ⟨3, 2⟩) (meth := k3m2) (c := k3c2) (by decide +kernel) rfl rfl rfl (by decide +kernel)
set_option maxRecDepth 65536 in
theorem w_c10 : (Jvm.Cond.code ({ cls := "java/lang/Integer", name := "numberOfLeadingZeros", desc := "(I)I" } : Jvm.MethodName) jdk_33_method_47_code (2 : Nat) (Option.some Jvm.ClassFile.FieldType.int)).before args0 about1 = true := code_word (m := ⟨10, 0⟩) (meth := k10m0) (c := k10c0) (by decide +kernel) rfl rfl rfl (by decide +kernel)
set_option maxRecDepth 65536 in
theorem w_c11 : (Jvm.Cond.code ({ cls := "java/lang/Long", name := "numberOfLeadingZeros", desc := "(J)I" } : Jvm.MethodName) jdk_35_method_48_code (3 : Nat) (Option.some Jvm.ClassFile.FieldType.int)).before args0 about1 = true := code_word (m := ⟨11, 0⟩) (meth := k11m0) (c := k11c0) (by decide +kernel) rfl rfl rfl (by decide +kernel)
def codes1 : List Jvm.Cond := [Jvm.Cond.code x code maxLocals ret, Jvm.Cond.code ({ cls := "java/lang/Math", name := "min", desc := "(II)I" } : Jvm.MethodName) jdk_29_method_69_code (2 : Nat) (Option.some Jvm.ClassFile.FieldType.int), Jvm.Cond.code ({ cls := "com/example/lapse/lapse/MarkingCodeFitsPinLaw", name := "draw", desc := "(JJ)J" } : Jvm.MethodName) method_3_code (4 : Nat) (Option.some Jvm.ClassFile.FieldType.long), Jvm.Cond.code ({ cls := "com/example/lapse/lapse/MarkingCode", name := "<init>", desc := "(I)V" } : Jvm.MethodName) prog_21_method_1_code (2 : Nat) (Option.none : Option Jvm.ClassFile.FieldType), Jvm.Cond.code ({ cls := "com/example/lapse/lapse/MarkingCode", name := "ones", desc := "(I)[I" } : Jvm.MethodName) prog_21_method_10_code (2 : Nat) (Option.some (Jvm.ClassFile.FieldType.array Jvm.ClassFile.FieldType.int)), Jvm.Cond.code ({ cls := "java/util/Arrays", name := "fill", desc := "([II)V" } : Jvm.MethodName) jdk_65_method_103_code (4 : Nat) (Option.none : Option Jvm.ClassFile.FieldType), Jvm.Cond.code ({ cls := "com/example/lapse/lapse/MarkingCode", name := "<init>", desc := "([I)V" } : Jvm.MethodName) prog_21_method_2_code (6 : Nat) (Option.none : Option Jvm.ClassFile.FieldType), Jvm.Cond.code ({ cls := "java/lang/Object", name := "<init>", desc := "()V" } : Jvm.MethodName) object_method_1_code (1 : Nat) (Option.none : Option Jvm.ClassFile.FieldType), Jvm.Cond.code ({ cls := "com/example/lapse/lapse/MarkingCode", name := "widenedFor", desc := "([J)Lcom/example/lapse/lapse/MarkingCode;" } : Jvm.MethodName) prog_21_method_5_code (5 : Nat) (Option.some (Jvm.ClassFile.FieldType.object "com/example/lapse/lapse/MarkingCode")), Jvm.Cond.code ({ cls := "com/example/lapse/lapse/MarkingCode", name := "fits", desc := "([J)Z" } : Jvm.MethodName) prog_21_method_4_code (3 : Nat) (Option.some Jvm.ClassFile.FieldType.boolean), Jvm.Cond.code ({ cls := "java/lang/Integer", name := "numberOfLeadingZeros", desc := "(I)I" } : Jvm.MethodName) jdk_33_method_47_code (2 : Nat) (Option.some Jvm.ClassFile.FieldType.int), Jvm.Cond.code ({ cls := "java/lang/Long", name := "numberOfLeadingZeros", desc := "(J)I" } : Jvm.MethodName) jdk_35_method_48_code (3 : Nat) (Option.some Jvm.ClassFile.FieldType.int)]
set_option maxRecDepth 65536 in
theorem codes_eq : words1.filter isCode = codes1 := rfl
theorem w_codes : ∀ c ∈ words1.filter isCode, c.before args0 about1 = true := by
  rw [codes_eq]
  intro c hc
  simp only [codes1, List.mem_cons, List.not_mem_nil, or_false] at hc
  rcases hc with rfl | rfl | rfl | rfl | rfl | rfl | rfl | rfl | rfl | rfl | rfl | rfl
  · exact w_c0
  · exact w_c1
  · exact w_c2
  · exact w_c3
  · exact w_c4
  · exact w_c5
  · exact w_c6
  · exact w_c7
  · exact w_c8
  · exact w_c9
  · exact w_c10
  · exact w_c11
set_option maxRecDepth 65536 in
theorem w_t1 : (words1.take 24).all (fun c => isCode c || c.before args0 about1) = true := by decide +kernel
set_option maxRecDepth 65536 in
theorem w_t2 : ((words1.drop 24).take 24).all (fun c => isCode c || c.before args0 about1) = true := by decide +kernel
set_option maxRecDepth 65536 in
theorem w_t3 : ((words1.drop 24).drop 24).all (fun c => isCode c || c.before args0 about1) = true := by decide +kernel
theorem w_tables : (allAtoms (Jvm.Cond.code x code maxLocals ret :: tables_1)).before args0 about1 = true := by
  rw [allAtoms_all]
  show words1.all (fun c => c.before args0 about1) = true
  refine all_split ?_ w_codes
  rw [← List.take_append_drop 24 words1, List.all_append, w_t1, ← List.take_append_drop 24 (words1.drop 24), List.all_append, w_t2, w_t3]
  rfl
set_option maxRecDepth 65536 in
theorem w_case : (Jvm.Cond.and given_1 narrow_1).before args0 about1 = true := by decide +kernel
theorem w_applies : (headSpec (Jvm.Cond.code x code maxLocals ret :: tables_1) room_1).applies x e0.platform about1 = true :=
  (Spec.applies_iff w_frames).mpr ⟨w_running, w_runnable, w_alone, w_named, w_hears, w_ripe, w_room, w_tables⟩
theorem atStart : AtStart classFile x code maxLocals ret World_1 tables_1 room_1 Calls_1 rest_1 Pre_1 launch0 p0 e0 about1 theMethod args0 below0 :=
  ⟨lists_1, trivial, launch0.admits_env _ _ _, launch0.least_env, fairChoices_fair.cas, fairChoices_fair.clock, w_frames, w_args, w_heap, w_applies, trivial, trivial, w_case⟩
end start1
theorem witness_1 : WitnessClaimed_1 := ⟨start1.p0, start1.e0, start1.about1, start1.theMethod, start1.args0, start1.below0, start1.atStart⟩
end Jvm.Pilot.@@N@@
